import PyProof.Rows.All
import Wide.All
import OpenK.AllK
import Wide.FinOn
import PyProof.Rows.CallKw
import PyProof.Rows.CallKw2
import KE.KSetDisp
import KE.KSortTup
import PySem.Challenge.RW_jg0024_01
open PySem PySem.Spec PySem.Calls PyProof.Rows PySem.W
set_option Elab.async false
set_option maxRecDepth 100000
set_option linter.unusedVariables false
set_option linter.unusedSimpArgs false
set_option genSizeOf false
noncomputable section
set_option maxHeartbeats 200000
namespace Mine
set_option maxRecDepth 100000 in
set_option maxHeartbeats 8000000 in
open_top hd for PySem.Challenge.rw_jg0024_01

end Mine
namespace Mine

theorem ex0_2 {A B : Prop} {G : Prop} (h : A ∧ B) (k : A → B → G) : G := k h.1 h.2
theorem ex0_3 {A B C : Prop} {G : Prop} (h : A ∧ B ∧ C) (k : A → B → C → G) : G := k h.1 h.2.1 h.2.2
theorem ex0_4 {A B C D : Prop} {G : Prop} (h : A ∧ B ∧ C ∧ D) (k : A → B → C → D → G) : G := k h.1 h.2.1 h.2.2.1 h.2.2.2
theorem ex0_5 {A B C D E : Prop} {G : Prop} (h : A ∧ B ∧ C ∧ D ∧ E) (k : A → B → C → D → E → G) : G := k h.1 h.2.1 h.2.2.1 h.2.2.2.1 h.2.2.2.2
theorem ex1_1.{a} {α : Sort a} {A : α → Prop} {G : Prop} (h : ∃ x, A x) (k : ∀ x, A x → G) : G := h.elim fun x h => k x h
theorem ex1_2.{a} {α : Sort a} {A B : α → Prop} {G : Prop} (h : ∃ x, A x ∧ B x) (k : ∀ x, A x → B x → G) : G := h.elim fun x h => k x h.1 h.2
theorem ex1_3.{a} {α : Sort a} {A B C : α → Prop} {G : Prop} (h : ∃ x, A x ∧ B x ∧ C x) (k : ∀ x, A x → B x → C x → G) : G := h.elim fun x h => k x h.1 h.2.1 h.2.2
theorem ex1_4.{a} {α : Sort a} {A B C D : α → Prop} {G : Prop} (h : ∃ x, A x ∧ B x ∧ C x ∧ D x) (k : ∀ x, A x → B x → C x → D x → G) : G := h.elim fun x h => k x h.1 h.2.1 h.2.2.1 h.2.2.2
theorem ex2_1.{a, b} {α : Sort a} {β : Sort b} {A : α → β → Prop} {G : Prop} (h : ∃ x y, A x y) (k : ∀ x y, A x y → G) : G := h.elim fun x h => h.elim fun y h => k x y h
theorem ex2_2.{a, b} {α : Sort a} {β : Sort b} {A B : α → β → Prop} {G : Prop} (h : ∃ x y, A x y ∧ B x y) (k : ∀ x y, A x y → B x y → G) : G := h.elim fun x h => h.elim fun y h => k x y h.1 h.2
theorem ex2_3.{a, b} {α : Sort a} {β : Sort b} {A B C : α → β → Prop} {G : Prop} (h : ∃ x y, A x y ∧ B x y ∧ C x y) (k : ∀ x y, A x y → B x y → C x y → G) : G := h.elim fun x h => h.elim fun y h => k x y h.1 h.2.1 h.2.2
theorem ex2_4.{a, b} {α : Sort a} {β : Sort b} {A B C D : α → β → Prop} {G : Prop} (h : ∃ x y, A x y ∧ B x y ∧ C x y ∧ D x y) (k : ∀ x y, A x y → B x y → C x y → D x y → G) : G := h.elim fun x h => h.elim fun y h => k x y h.1 h.2.1 h.2.2.1 h.2.2.2
theorem ex2_5.{a, b} {α : Sort a} {β : Sort b} {A B C D E : α → β → Prop} {G : Prop} (h : ∃ x y, A x y ∧ B x y ∧ C x y ∧ D x y ∧ E x y) (k : ∀ x y, A x y → B x y → C x y → D x y → E x y → G) : G := h.elim fun x h => h.elim fun y h => k x y h.1 h.2.1 h.2.2.1 h.2.2.2.1 h.2.2.2.2
theorem ex2_6.{a, b} {α : Sort a} {β : Sort b} {A B C D E F : α → β → Prop} {G : Prop} (h : ∃ x y, A x y ∧ B x y ∧ C x y ∧ D x y ∧ E x y ∧ F x y) (k : ∀ x y, A x y → B x y → C x y → D x y → E x y → F x y → G) : G := h.elim fun x h => h.elim fun y h => k x y h.1 h.2.1 h.2.2.1 h.2.2.2.1 h.2.2.2.2.1 h.2.2.2.2.2
theorem ex2_8.{a, b} {α : Sort a} {β : Sort b} {A B C D E F H I : α → β → Prop} {G : Prop} (h : ∃ x y, A x y ∧ B x y ∧ C x y ∧ D x y ∧ E x y ∧ F x y ∧ H x y ∧ I x y) (k : ∀ x y, A x y → B x y → C x y → D x y → E x y → F x y → H x y → I x y → G) : G := h.elim fun x h => h.elim fun y h => k x y h.1 h.2.1 h.2.2.1 h.2.2.2.1 h.2.2.2.2.1 h.2.2.2.2.2.1 h.2.2.2.2.2.2.1 h.2.2.2.2.2.2.2
theorem ex3_1.{a, b, c} {α : Sort a} {β : Sort b} {γ : Sort c} {A : α → β → γ → Prop} {G : Prop} (h : ∃ x y z, A x y z) (k : ∀ x y z, A x y z → G) : G := h.elim fun x h => h.elim fun y h => h.elim fun z h => k x y z h
theorem ex3_2.{a, b, c} {α : Sort a} {β : Sort b} {γ : Sort c} {A B : α → β → γ → Prop} {G : Prop} (h : ∃ x y z, A x y z ∧ B x y z) (k : ∀ x y z, A x y z → B x y z → G) : G := h.elim fun x h => h.elim fun y h => h.elim fun z h => k x y z h.1 h.2
theorem ex3_3.{a, b, c} {α : Sort a} {β : Sort b} {γ : Sort c} {A B C : α → β → γ → Prop} {G : Prop} (h : ∃ x y z, A x y z ∧ B x y z ∧ C x y z) (k : ∀ x y z, A x y z → B x y z → C x y z → G) : G := h.elim fun x h => h.elim fun y h => h.elim fun z h => k x y z h.1 h.2.1 h.2.2
theorem ex3_4.{a, b, c} {α : Sort a} {β : Sort b} {γ : Sort c} {A B C D : α → β → γ → Prop} {G : Prop} (h : ∃ x y z, A x y z ∧ B x y z ∧ C x y z ∧ D x y z) (k : ∀ x y z, A x y z → B x y z → C x y z → D x y z → G) : G := h.elim fun x h => h.elim fun y h => h.elim fun z h => k x y z h.1 h.2.1 h.2.2.1 h.2.2.2
theorem ex3_5.{a, b, c} {α : Sort a} {β : Sort b} {γ : Sort c} {A B C D E : α → β → γ → Prop} {G : Prop} (h : ∃ x y z, A x y z ∧ B x y z ∧ C x y z ∧ D x y z ∧ E x y z) (k : ∀ x y z, A x y z → B x y z → C x y z → D x y z → E x y z → G) : G := h.elim fun x h => h.elim fun y h => h.elim fun z h => k x y z h.1 h.2.1 h.2.2.1 h.2.2.2.1 h.2.2.2.2
theorem ex3_6.{a, b, c} {α : Sort a} {β : Sort b} {γ : Sort c} {A B C D E F : α → β → γ → Prop} {G : Prop} (h : ∃ x y z, A x y z ∧ B x y z ∧ C x y z ∧ D x y z ∧ E x y z ∧ F x y z) (k : ∀ x y z, A x y z → B x y z → C x y z → D x y z → E x y z → F x y z → G) : G := h.elim fun x h => h.elim fun y h => h.elim fun z h => k x y z h.1 h.2.1 h.2.2.1 h.2.2.2.1 h.2.2.2.2.1 h.2.2.2.2.2
theorem ex3_7.{a, b, c} {α : Sort a} {β : Sort b} {γ : Sort c} {A B C D E F H : α → β → γ → Prop} {G : Prop} (h : ∃ x y z, A x y z ∧ B x y z ∧ C x y z ∧ D x y z ∧ E x y z ∧ F x y z ∧ H x y z) (k : ∀ x y z, A x y z → B x y z → C x y z → D x y z → E x y z → F x y z → H x y z → G) : G := h.elim fun x h => h.elim fun y h => h.elim fun z h => k x y z h.1 h.2.1 h.2.2.1 h.2.2.2.1 h.2.2.2.2.1 h.2.2.2.2.2.1 h.2.2.2.2.2.2
theorem ex3_8.{a, b, c} {α : Sort a} {β : Sort b} {γ : Sort c} {A B C D E F H I : α → β → γ → Prop} {G : Prop} (h : ∃ x y z, A x y z ∧ B x y z ∧ C x y z ∧ D x y z ∧ E x y z ∧ F x y z ∧ H x y z ∧ I x y z) (k : ∀ x y z, A x y z → B x y z → C x y z → D x y z → E x y z → F x y z → H x y z → I x y z → G) : G := h.elim fun x h => h.elim fun y h => h.elim fun z h => k x y z h.1 h.2.1 h.2.2.1 h.2.2.2.1 h.2.2.2.2.1 h.2.2.2.2.2.1 h.2.2.2.2.2.2.1 h.2.2.2.2.2.2.2
theorem ex3_9.{a, b, c} {α : Sort a} {β : Sort b} {γ : Sort c} {A B C D E F H I J : α → β → γ → Prop} {G : Prop} (h : ∃ x y z, A x y z ∧ B x y z ∧ C x y z ∧ D x y z ∧ E x y z ∧ F x y z ∧ H x y z ∧ I x y z ∧ J x y z) (k : ∀ x y z, A x y z → B x y z → C x y z → D x y z → E x y z → F x y z → H x y z → I x y z → J x y z → G) : G := h.elim fun x h => h.elim fun y h => h.elim fun z h => k x y z h.1 h.2.1 h.2.2.1 h.2.2.2.1 h.2.2.2.2.1 h.2.2.2.2.2.1 h.2.2.2.2.2.2.1 h.2.2.2.2.2.2.2.1 h.2.2.2.2.2.2.2.2
theorem ex4_1.{a, b, c, d} {α : Sort a} {β : Sort b} {γ : Sort c} {δ : Sort d} {A : α → β → γ → δ → Prop} {G : Prop} (h : ∃ x y z u, A x y z u) (k : ∀ x y z u, A x y z u → G) : G := h.elim fun x h => h.elim fun y h => h.elim fun z h => h.elim fun u h => k x y z u h
theorem ex4_2.{a, b, c, d} {α : Sort a} {β : Sort b} {γ : Sort c} {δ : Sort d} {A B : α → β → γ → δ → Prop} {G : Prop} (h : ∃ x y z u, A x y z u ∧ B x y z u) (k : ∀ x y z u, A x y z u → B x y z u → G) : G := h.elim fun x h => h.elim fun y h => h.elim fun z h => h.elim fun u h => k x y z u h.1 h.2
theorem ex4_3.{a, b, c, d} {α : Sort a} {β : Sort b} {γ : Sort c} {δ : Sort d} {A B C : α → β → γ → δ → Prop} {G : Prop} (h : ∃ x y z u, A x y z u ∧ B x y z u ∧ C x y z u) (k : ∀ x y z u, A x y z u → B x y z u → C x y z u → G) : G := h.elim fun x h => h.elim fun y h => h.elim fun z h => h.elim fun u h => k x y z u h.1 h.2.1 h.2.2
theorem ex4_4.{a, b, c, d} {α : Sort a} {β : Sort b} {γ : Sort c} {δ : Sort d} {A B C D : α → β → γ → δ → Prop} {G : Prop} (h : ∃ x y z u, A x y z u ∧ B x y z u ∧ C x y z u ∧ D x y z u) (k : ∀ x y z u, A x y z u → B x y z u → C x y z u → D x y z u → G) : G := h.elim fun x h => h.elim fun y h => h.elim fun z h => h.elim fun u h => k x y z u h.1 h.2.1 h.2.2.1 h.2.2.2
theorem ex4_5.{a, b, c, d} {α : Sort a} {β : Sort b} {γ : Sort c} {δ : Sort d} {A B C D E : α → β → γ → δ → Prop} {G : Prop} (h : ∃ x y z u, A x y z u ∧ B x y z u ∧ C x y z u ∧ D x y z u ∧ E x y z u) (k : ∀ x y z u, A x y z u → B x y z u → C x y z u → D x y z u → E x y z u → G) : G := h.elim fun x h => h.elim fun y h => h.elim fun z h => h.elim fun u h => k x y z u h.1 h.2.1 h.2.2.1 h.2.2.2.1 h.2.2.2.2
theorem ex4_6.{a, b, c, d} {α : Sort a} {β : Sort b} {γ : Sort c} {δ : Sort d} {A B C D E F : α → β → γ → δ → Prop} {G : Prop} (h : ∃ x y z u, A x y z u ∧ B x y z u ∧ C x y z u ∧ D x y z u ∧ E x y z u ∧ F x y z u) (k : ∀ x y z u, A x y z u → B x y z u → C x y z u → D x y z u → E x y z u → F x y z u → G) : G := h.elim fun x h => h.elim fun y h => h.elim fun z h => h.elim fun u h => k x y z u h.1 h.2.1 h.2.2.1 h.2.2.2.1 h.2.2.2.2.1 h.2.2.2.2.2
theorem ex4_7.{a, b, c, d} {α : Sort a} {β : Sort b} {γ : Sort c} {δ : Sort d} {A B C D E F H : α → β → γ → δ → Prop} {G : Prop} (h : ∃ x y z u, A x y z u ∧ B x y z u ∧ C x y z u ∧ D x y z u ∧ E x y z u ∧ F x y z u ∧ H x y z u) (k : ∀ x y z u, A x y z u → B x y z u → C x y z u → D x y z u → E x y z u → F x y z u → H x y z u → G) : G := h.elim fun x h => h.elim fun y h => h.elim fun z h => h.elim fun u h => k x y z u h.1 h.2.1 h.2.2.1 h.2.2.2.1 h.2.2.2.2.1 h.2.2.2.2.2.1 h.2.2.2.2.2.2
theorem ex4_8.{a, b, c, d} {α : Sort a} {β : Sort b} {γ : Sort c} {δ : Sort d} {A B C D E F H I : α → β → γ → δ → Prop} {G : Prop} (h : ∃ x y z u, A x y z u ∧ B x y z u ∧ C x y z u ∧ D x y z u ∧ E x y z u ∧ F x y z u ∧ H x y z u ∧ I x y z u) (k : ∀ x y z u, A x y z u → B x y z u → C x y z u → D x y z u → E x y z u → F x y z u → H x y z u → I x y z u → G) : G := h.elim fun x h => h.elim fun y h => h.elim fun z h => h.elim fun u h => k x y z u h.1 h.2.1 h.2.2.1 h.2.2.2.1 h.2.2.2.2.1 h.2.2.2.2.2.1 h.2.2.2.2.2.2.1 h.2.2.2.2.2.2.2
theorem ex5_1.{a, b, c, d, e} {α : Sort a} {β : Sort b} {γ : Sort c} {δ : Sort d} {ε : Sort e} {A : α → β → γ → δ → ε → Prop} {G : Prop} (h : ∃ x y z u v, A x y z u v) (k : ∀ x y z u v, A x y z u v → G) : G := h.elim fun x h => h.elim fun y h => h.elim fun z h => h.elim fun u h => h.elim fun v h => k x y z u v h
theorem ex6_2.{a, b, c, d, e, f} {α : Sort a} {β : Sort b} {γ : Sort c} {δ : Sort d} {ε : Sort e} {ζ : Sort f} {A B : α → β → γ → δ → ε → ζ → Prop} {G : Prop} (h : ∃ x y z u v w, A x y z u v w ∧ B x y z u v w) (k : ∀ x y z u v w, A x y z u v w → B x y z u v w → G) : G := h.elim fun x h => h.elim fun y h => h.elim fun z h => h.elim fun u h => h.elim fun v h => h.elim fun w h => k x y z u v w h.1 h.2
theorem ex6_3.{a, b, c, d, e, f} {α : Sort a} {β : Sort b} {γ : Sort c} {δ : Sort d} {ε : Sort e} {ζ : Sort f} {A B C : α → β → γ → δ → ε → ζ → Prop} {G : Prop} (h : ∃ x y z u v w, A x y z u v w ∧ B x y z u v w ∧ C x y z u v w) (k : ∀ x y z u v w, A x y z u v w → B x y z u v w → C x y z u v w → G) : G := h.elim fun x h => h.elim fun y h => h.elim fun z h => h.elim fun u h => h.elim fun v h => h.elim fun w h => k x y z u v w h.1 h.2.1 h.2.2
theorem ex6_4.{a, b, c, d, e, f} {α : Sort a} {β : Sort b} {γ : Sort c} {δ : Sort d} {ε : Sort e} {ζ : Sort f} {A B C D : α → β → γ → δ → ε → ζ → Prop} {G : Prop} (h : ∃ x y z u v w, A x y z u v w ∧ B x y z u v w ∧ C x y z u v w ∧ D x y z u v w) (k : ∀ x y z u v w, A x y z u v w → B x y z u v w → C x y z u v w → D x y z u v w → G) : G := h.elim fun x h => h.elim fun y h => h.elim fun z h => h.elim fun u h => h.elim fun v h => h.elim fun w h => k x y z u v w h.1 h.2.1 h.2.2.1 h.2.2.2
theorem no_some.{a} {α : Type a} {x : Option α} {y : α} {G : Prop} (d : x = none) (e : x = some y) : G := nomatch d.symm.trans e
theorem is_some.{a} {α : Type a} {x : Option α} {y z : α} (d : x = some y) (e : x = some z) : y = z := Option.some.inj (d.symm.trans e)

theorem slot_bytes_hash : Slot "bytes" "__hash__" "bytes.__hash__" :=
  .of (owner := "bytes") (n := "__hash__") (by rw [typeLookup_type, builtinLookup_eq_fast]; kernel_rfl) (by decide +kernel) (by decide +kernel) (by decide +kernel)
    (by first | exact .inl (by decide +kernel) | exact .inr (by decide +kernel)) (by rw [isSubtype_type]; kernel_rfl)
theorem entry_bytes_hash : entryFor table "bytes.__hash__" = some Builtin.«bytes.__hash__» := entryFor_of_tree (by kernel_rfl)
theorem args_bytes_hash (a : Value) : argsOk "bytes.__hash__" ⟨[a], []⟩ := by
  unfold argsOk; rw [signature?_of (id := "bytes.__hash__") (n := ['_', '_', 'h', 's', 'a', 'h', '_', '_']) (o := ['s', 'e', 't', 'y', 'b']) (by kernel_rfl) FB.owner_bytes]; kernel_rfl
theorem slot_bytes_lt : Slot "bytes" (cmpInfo .Lt).2.1 "bytes.__lt__" :=
  .of (owner := "bytes") (n := "__lt__") (by rw [typeLookup_type, builtinLookup_eq_fast]; kernel_rfl) (by decide +kernel) (by decide +kernel) (by decide +kernel)
    (by first | exact .inl (by decide +kernel) | exact .inr (by decide +kernel)) (by rw [isSubtype_type]; kernel_rfl)
theorem entry_bytes_lt : entryFor table "bytes.__lt__" = some Builtin.«bytes.__lt__» := entryFor_of_tree (by kernel_rfl)
theorem args_bytes_lt (a b : Value) : argsOk "bytes.__lt__" ⟨[a, b], []⟩ := by
  unfold argsOk; rw [signature?_of (id := "bytes.__lt__") (n := ['_', '_', 't', 'l', '_', '_']) (o := ['s', 'e', 't', 'y', 'b']) (by kernel_rfl) FB.owner_bytes]; kernel_rfl

noncomputable def hashB (w : World) (b : Array UInt8) : Int :=
  let h : Int := if (b.map (·.toNat)).isEmpty then 0 else reduceHash (w.params.strHash (b.map (·.toNat)))
  if h == -1 then -2 else h

theorem reduceHash_range (i : Int) : -2 ^ 63 ≤ reduceHash i ∧ reduceHash i < 2 ^ 63 := by
  unfold reduceHash
  split
  · rename_i h
    simp only [Bool.and_eq_true, decide_eq_true_eq] at h
    split <;> omega
  · have h1 : ((i.natAbs : Int) % (2 ^ 61 - 1)) < 2 ^ 61 - 1 := Int.emod_lt_of_pos _ (by decide)
    have h0 : 0 ≤ ((i.natAbs : Int) % (2 ^ 61 - 1)) := Int.emod_nonneg _ (by decide)
    generalize (i.natAbs : Int) % (2 ^ 61 - 1) = r at h0 h1
    dsimp only
    split <;> split <;> omega

section
variable {prog : Program} {w : World} {A : Around} {E : Value → Shared → Prop} {s : Shared}

theorem wpAny_strHash {x : Str} {Q : Int → Shared → Prop} (h : Q (if x.cps.isEmpty then 0 else reduceHash (w.params.strHash x.cps)) s) :
    wpAny (model prog w) A (strHash x) Q E s := by
  unfold strHash
  refine wpAny_bind ?_
  intro Γ p hΓ
  rw [Sem.wp_cmd_ask]
  exact wpAny_pure (M := model prog w) (A := A) (E := E) h

theorem wpAny_pyHash_bytes {b : Array UInt8} {t : Tok} {Q : Int → Shared → Prop} (h : Q (hashB w b) { s with toks := s.toks + 1 }) :
    wpAny (model prog w) A (pyHash (.bytes b t)) Q E s := by
  unfold pyHash
  have hv : [Value.bytes b t].any Value.onHeap = false := rfl
  refine wpAny_bind ?_
  rw [cRoomFor, if_neg (by rw [hv]; exact Bool.false_ne_true)]; refine wpAny_pure ?_
  refine wpAny_bind (wpAny_specialOf (typeIs_bytes s b t) slot_bytes_hash.lookup ?_)
  show wpAny _ _ (if (some (Value.builtin "bytes.__hash__") == some Value.none) = true then _ else _) Q E s
  rw [if_neg (by decide)]
  refine wpAny_bind (wpAny_specialOf (typeIs_bytes s b t) slot_bytes_hash.lookup ?_)
  show wpAny _ _ (callSpecialIfBoundUnlessNone? (.bytes b t) "__hash__" _ >>= _) Q E s
  refine wpAny_bind (wpAny_callSpecialIfBoundUnlessNone?_slot (typeIs_bytes s b t) slot_bytes_hash
    (wpAny_call_entry slot_bytes_hash (typeIs_bytes s b t) entry_bytes_hash
      (show wpAny _ _ (do let h ← strHash ⟨b.map (·.toNat)⟩; ret (← mkInt h)) _ _ s from ?_) (args_bytes_hash _)))
  refine wpAny_bind (wpAny_strHash ?_)
  refine (wpAny_ret_mkInt ?_)
  have hr : -2 ^ 63 ≤ (if (b.map (·.toNat)).isEmpty then (0 : Int) else reduceHash (w.params.strHash (b.map (·.toNat)))) ∧ (if (b.map (·.toNat)).isEmpty then (0 : Int) else reduceHash (w.params.strHash (b.map (·.toNat)))) < 2 ^ 63 := by
    split
    · decide
    · exact reduceHash_range _
  show wpAny _ _ (if (decide (-(2 : Int) ^ 63 ≤ (if (b.map (·.toNat)).isEmpty then (0 : Int) else reduceHash (w.params.strHash (b.map (·.toNat))))) && decide ((if (b.map (·.toNat)).isEmpty then (0 : Int) else reduceHash (w.params.strHash (b.map (·.toNat)))) < 2 ^ 63)) = true then _ else _) Q E _
  rw [if_pos (by rw [decide_eq_true hr.1, decide_eq_true hr.2]; rfl)]
  exact wpAny_pure h

theorem bytes_beq (b c : Array UInt8) : (b.toList == c.toList) = decide (b = c) := by
  rw [Bool.eq_iff_iff, beq_iff_eq, decide_eq_true_iff]
  exact Array.toList_inj

theorem RcAt_bytes (b : Array UInt8) (t : Tok) (c : Array UInt8) (u : Tok) : SeqAt.RcAt A s (.bytes b t) (.bytes c u) (decide (b = c)) := fun prog w E Q h => by
  rw [← bytes_beq] at h
  exact richCompare_gives (typeIs_bytes s b t) (typeIs_bytes s c u) FB.slot_bytes_eq FB.entry_bytes_eq (FB.args_bytes_eq_2 _ _) (gives_bytes_eq b c t u) (fun e => nomatch e) h

theorem EqAt_bytes (b : Array UInt8) (t : Tok) (c : Array UInt8) (u : Tok) : SeqAt.EqAt A s (.bytes b t) (.bytes c u) (decide (b = c)) := fun prog w E Q h => by
  unfold eqBool
  refine wpAny_holding ?_
  by_cases hab : (Value.bytes b t == Value.bytes c u) = true
  · rw [if_pos hab]
    have e : b = c := by have := eq_of_beq hab; injection this
    subst e
    exact wpAny_bind (wpAny_rule (wpAny_pure (by simpa using h)))
  · rw [if_neg hab]
    exact wpAny_bind (RcAt_bytes b t c u prog w E _ (wpAny_truthy_bool h))

noncomputable def isB (k : Array UInt8) : Value → Bool
  | .bytes b _ => b == k
  | _ => false
theorem isB_shape {k : Array UInt8} {v : Value} (h : isB k v = true) : ∃ t, v = .bytes k t := by
  cases v <;> simp_all [isB]
theorem isB_self (k : Array UInt8) (t : Tok) : isB k (.bytes k t) = true := by simp [isB]
end

noncomputable def bytesKind (prog : Program) (w : World) : PySem.KeyKind prog w (Array UInt8) where
  is := isB
  hash := hashB w
  inj := fun v a b ha hb => by refine ex1_1 (isB_shape ha) fun t zq1 => ?_; subst zq1; refine ex1_1 (isB_shape hb) fun u hu => ?_; injection hu
  byValue := fun k v h => by refine ex1_1 (isB_shape h) fun t zq2 => ?_; subst zq2; rfl
  pyHash := fun hv h => by refine ex1_1 (isB_shape hv) fun t zq3 => ?_; subst zq3; exact wpAny_pyHash_bytes h
  eqBool := fun hu hv h => by
    refine ex1_1 (isB_shape hu) fun t zq4 => ?_; subst zq4
    refine ex1_1 (isB_shape hv) fun u zq5 => ?_; subst zq5
    exact EqAt_bytes _ _ _ _ _ _ _ _ h
  «strs» := fun k x t v h => by simp [isB] at h

end Mine
namespace Mine

inductive D where
  | none
  | bool (b : Bool)
  | int (i : Int)
  | byt (b : Array UInt8)
  | tup (l : List D)
  | list (l : List D)
  | set (n : Nat)
  | dict (kvs : List (Array UInt8 × D))
  | lam (qual : Str) (params : Arguments) (body : Expr) (scope : Scope) (fvs : List (Str × D))
  | fdef (qual : Str) (params : Arguments) (body : List Stmt) (scope : Scope) (fvs : List (Str × D))
  | wl (items : List (Int × Array UInt8))
  | adr (a : Addr)

noncomputable def tabs : List Addr := [139, 87, 144]

noncomputable def biList : List (Str × Value) :=
  [("len", .builtin "len"), ("range", .type "range"), ("enumerate", .type "enumerate"), ("max", .builtin "max"), ("min", .builtin "min"), ("sum", .builtin "sum"), ("sorted", .builtin "sorted"),
   ("bytes", .type "bytes"), ("list", .type "list"), ("set", .type "set"), ("isinstance", .builtin "isinstance"), ("bool", .type "bool"), ("KeyError", .type "KeyError")]
noncomputable def imList : List (Str × Value) := [("heappush", .builtin "_heapq.heappush"), ("heappop", .builtin "_heapq.heappop")]

set_option genInjectivity false in
structure Cx where
  prog : Program
  w : World
  h₁ : Heap
  os₁ : OsState
  mg : Str → Option Value
  mb : Str → Option Value
  tq : Addr → Nat → Str
  wlC : Addr
  tabIn : ∀ P ∈ tabs, ∃ o, h₁.get? P = some o
  nsG : h₁.Ns mainGlobals mg
  nsB : h₁.Ns builtinsNs mb
  nolim : h₁.NoLimit
  bm : ∃ bm o, mg "__builtins__" = some (.ref bm) ∧ bm ≠ builtinsNs ∧ bm ≠ mainGlobals ∧ bm ∉ tabs ∧ h₁.get? bm = some o ∧ o.cls = .type "module" ∧ o.dict = some builtinsNs ∧ o.data = .plain
  K : Frag
  xin : K.In h₁
  kt : ∀ a o, K.lookup a = some o → a ∉ tabs
  bi : ∀ x v, biList.lookup x = some v → mg x = none ∧ mb x = some v
  im : ∀ x v, imList.lookup x = some v → mg x = some v
  G : Array GenState → Prop
  gb : ∀ γ, G γ → AllBare γ

noncomputable abbrev Cx.M (C : Cx) : Model := model C.prog C.w

noncomputable abbrev cellObj (v : Option Value) : Obj := { cls := .type "cell", data := .cell v }
noncomputable abbrev seqO (c : String) (vs : List Value) (n : Nat) : Obj := { cls := .type c, data := .seq vs.toArray n }
noncomputable abbrev dictO (es : List DictEntry) (n : Nat) : Obj := { cls := .type "dict", data := .dict es.toArray n }
noncomputable abbrev BIG : Nat := 1048576

noncomputable def NF (o : Obj) : Prop := ∀ vs, o.data ≠ .fields vs

structure Kq (C : Cx) (M : Addr → Prop) (h h' : Heap) : Prop where
  same : ∀ a o, ¬ M a → a ∉ tabs → h.get? a = some o → ∃ sl, h'.get? a = some { o with slots := sl } ∧ ((o.cls ≠ .type "frame" ∨ C.h₁.get? a ≠ none) → sl = o.slots)
  kind : ∀ a o, h.get? a = some o → NF o → ∃ o', h'.get? a = some o' ∧ o'.cls = o.cls ∧ NF o'
  code : ∀ c q, h.CodeRec (.ref c) q → c ∉ tabs → h'.CodeRec (.ref c) q
noncomputable abbrev Kp (C : Cx) := Kq C fun _ => False

section
variable {C : Cx} {M M' : Addr → Prop} {h h' h'' : Heap}
theorem Kq.refl : Kq C M h h := ⟨fun _ o _ _ e => ⟨o.slots, e, fun _ => rfl⟩, fun _ o e n => ⟨o, e, rfl, n⟩, fun _ _ x _ => x⟩
theorem Kq.mono (x : Kq C M h h') (hm : ∀ a, M a → M' a) : Kq C M' h h' := ⟨fun a o n t e => x.same a o (fun q => n (hm a q)) t e, x.kind, x.code⟩
theorem Kq.keeps (k : ∀ b o, h.get? b = some o → h'.get? b = some o) : Kq C M h h' := ⟨fun _ o _ _ e => ⟨o.slots, k _ _ e, fun _ => rfl⟩, fun _ o e n => ⟨o, k _ _ e, rfl, n⟩, fun _ _ x _ => x.keeps k⟩
theorem Kq.trans' (x : Kq C M h h') (y : Kq C M' h' h'') (hm : ∀ a o, h.get? a = some o → M' a → M a) : Kq C M h h'' where
  same a o n t e := by
    refine ex1_2 (x.same a o n t e) fun sl e1 k1 => ?_
    refine ex1_2 (y.same a _ (fun q => n (hm a o e q)) t e1) fun sl2 e2 k2 => ?_
    exact ⟨sl2, e2, fun c => (k2 c).trans (k1 c)⟩
  kind a o e n := by
    refine ex1_3 (x.kind a o e n) fun o1 e1 c1 n1 => ?_
    refine ex1_3 (y.kind a o1 e1 n1) fun o2 e2 c2 n2 => ?_
    exact ⟨o2, e2, c2.trans c1, n2⟩
  code c q r t := y.code c q (x.code c q r t) t
theorem Kq.trans (x : Kq C M h h') (y : Kq C M h' h'') : Kq C M h h'' := x.trans' y fun _ _ _ q => q
theorem Kq.of_kp (x : Kp C h h') : Kq C M h h' := x.mono fun _ q => q.elim
theorem Kq.exact (x : Kq C M h h') {a : Addr} {o : Obj} (n : ¬ M a) (t : a ∉ tabs) (e : h.get? a = some o) (c : o.cls ≠ .type "frame") : h'.get? a = some o := by
  refine ex1_2 (x.same a o n t e) fun sl e1 k1 => ?_
  rw [k1 (.inl c)] at e1; exact e1
theorem Kq.one {a : Addr} (k : ∀ b, b ≠ a → ∀ o, h.get? b = some o → h'.get? b = some o) (c : ∀ o, h.get? a = some o → NF o → ∃ o', h'.get? a = some o' ∧ o'.cls = o.cls ∧ NF o') (nf : ∀ o, h.get? a = some o → NF o) (m : M a) : Kq C M h h' where
  same b o n _ e := ⟨o.slots, k b (fun q => n (q ▸ m)) o e, fun _ => rfl⟩
  kind b o e n := by
    by_cases q : b = a
    · subst q; exact c o e n
    · exact ⟨o, k b q o e, rfl, n⟩
  code c q r t := by
    refine ex4_4 r fun c' o vs tk e1 e2 e3 e4 => ?_; try clear r
    cases e1
    by_cases z : c = a
    · subst z; exact absurd e3 (nf o e2 vs)
    · exact ⟨c, o, vs, tk, rfl, k c z o e2, e3, e4⟩
end

structure Ks (C : Cx) (M : Addr → Prop) (h h' : Heap) : Prop where
  same : ∀ a o, ¬ M a → a ∉ tabs → h.get? a = some o → ∃ sl, h'.get? a = some { o with slots := sl } ∧ ((o.cls ≠ .type "frame" ∨ C.h₁.get? a ≠ none) → sl = o.slots)
  code : ∀ c q, h.CodeRec (.ref c) q → c ∉ tabs → h'.CodeRec (.ref c) q
theorem Kq.ks {C : Cx} {M : Addr → Prop} {h h' : Heap} (k : Kq C M h h') : Ks C M h h' := ⟨k.same, k.code⟩
theorem Ks.exact {C : Cx} {M : Addr → Prop} {h h' : Heap} (x : Ks C M h h') {a : Addr} {o : Obj} (n : ¬ M a) (t : a ∉ tabs) (e : h.get? a = some o) (c : o.cls ≠ .type "frame") : h'.get? a = some o := by
  refine ex1_2 (x.same a o n t e) fun sl e1 k1 => ?_
  rw [k1 (.inl c)] at e1; exact e1

noncomputable def TabOK (C : Cx) (h : Heap) : Prop := ∀ P ∈ tabs, ∃ ps, h.get? P = some (tabObj ps) ∧ TriplesOk ps.toList ∧ ∀ pos cv, codeAmong pos ps.toList = some cv → h.CodeRec cv (C.tq P pos.line)

structure Ok (C : Cx) (s : Shared) : Prop where
  k : Kp C C.h₁ s.heap
  t : TabOK C s.heap
  g : C.G s.gens
  o : s.os = C.os₁

structure Nx (C : Cx) (s s' : Shared) : Prop where
  k : Kp C s.heap s'.heap
  ok : Ok C s'
theorem Nx.refl {C : Cx} {s : Shared} (o : Ok C s) : Nx C s s := ⟨.refl, o⟩
theorem Nx.trans {C : Cx} {s s' s'' : Shared} (x : Nx C s s') (y : Nx C s' s'') : Nx C s s'' := ⟨x.k.trans y.k, y.ok⟩

noncomputable def FrsOk (C : Cx) (A : Around) (h : Heap) : Prop :=
  ∃ l, A.frames = some l ∧ ∀ env ∈ l, env.scope.kind ≠ .module ∧ ∃ L o, env.frame = some L ∧ C.h₁.get? L = none ∧ h.get? L = some o ∧ o.cls = .type "frame" ∧ NF o
theorem FrsOk.keep {C : Cx} {A : Around} {M : Addr → Prop} {h h' : Heap} (x : FrsOk C A h) (k : Kq C M h h') : FrsOk C A h' := by
  refine ex1_2 x fun l hl f => ?_; try clear x
  refine ⟨l, hl, fun env he => ?_⟩
  refine ex0_2 (f env he) fun f1 zq1 => ?_; refine ex2_5 zq1 fun L o f2 f3 f4 f5 f6 => ?_; try clear zq1
  refine ex1_3 (k.kind L o f4 f6) fun o' e c n => ?_
  exact ⟨f1, L, o', f2, f3, e, c.trans f5, n⟩

structure Lv where
  k : Nat
  h : Bool
noncomputable abbrev Lv.up (n : Lv) : Lv := ⟨n.k + 1, n.h⟩

noncomputable def Held (h : Heap) (A : Around) : Prop := ∃ e o vs, A.handled = some (.ref e) ∧ h.get? e = some o ∧ o.cls ≠ .none ∧ o.data = .fields vs ∧ vs[2]? = some .none

structure Sit (C : Cx) (n : Lv) (A : Around) (s : Shared) : Prop where
  hd : n.h = false → A.handled = none
  hx : n.h = true → Held s.heap A
  dp : A.depth + 10 * n.k ≤ 900
  un : A.units + 100 * n.k ≤ 9000
  fr : FrsOk C A s.heap
  ok : Ok C s
theorem Held.keep {C : Cx} {M : Addr → Prop} {h h' : Heap} {A : Around} (x : Held h A) (k : Kq C M h h') (T : TabOK C h) (hm : ∀ a, M a → ∃ o, h.get? a = some o ∧ NF o) : Held h' A := by
  refine ex3_5 x fun e o vs h1 h2 h3 h4 h5 => ?_; try clear x
  obtain ⟨sl, e', _⟩ := k.same e o (fun z => by refine ex1_2 (hm e z) fun o' q nf => ?_; obtain rfl := is_some h2 q; exact nf vs h4) (fun t => by
    refine ex1_2 (T e t) fun ps e2 _ => ?_
    obtain rfl := is_some h2 e2; exact h3 rfl) h2
  exact ⟨e, _, vs, h1, e', h3, h4, h5⟩
theorem Sit.next {C : Cx} {n : Lv} {A : Around} {s s' : Shared} (x : Sit C n A s) (y : Nx C s s') : Sit C n A s' := ⟨x.hd, fun z => (x.hx z).keep y.k x.ok.t (fun _ q => q.elim), x.dp, x.un, x.fr.keep y.k, y.ok⟩
theorem Sit.step {C : Cx} {n : Lv} {A : Around} {s s' : Shared} {M : Addr → Prop} (x : Sit C n A s) (k : Kq C M s.heap s'.heap) (o : Ok C s') (hm : ∀ a, M a → ∃ o, s.heap.get? a = some o ∧ NF o) : Sit C n A s' := ⟨x.hd, fun z => (x.hx z).keep k x.ok.t hm, x.dp, x.un, x.fr.keep k, o⟩

inductive RdW (C : Cx) (h : Heap) (X : Addr → Prop) : List Value → List (Int × Array UInt8) → Prop where
  | nil : RdW C h X [] []
  | cons {a : Addr} {i : Int} {t u : Tok} {b : Array UInt8} {n : Nat} {vs : List Value} {items : List (Int × Array UInt8)} : ¬ X a → h.get? a = some (seqO "tuple" [.int i t, .bytes b u] n) → RdW C h X vs items → RdW C h X (.ref a :: vs) ((i, b) :: items)
mutual
inductive Rd (C : Cx) (h : Heap) (X : Addr → Prop) : Value → D → Prop where
  | none : Rd C h X .none .none
  | bool (b : Bool) : Rd C h X (.bool b) (.bool b)
  | int (i : Int) (t : Tok) : Rd C h X (.int i t) (.int i)
  | byt (b : Array UInt8) (t : Tok) : Rd C h X (.bytes b t) (.byt b)
  | adr (a : Addr) : Rd C h X (.ref a) (.adr a)
  | tup {a : Addr} {vs : List Value} {n : Nat} {l : List D} : ¬ X a → h.get? a = some (seqO "tuple" vs n) → vs.length ≤ BIG → RdL C h X vs l → Rd C h X (.ref a) (.tup l)
  | list {a : Addr} {vs : List Value} {n : Nat} {l : List D} : ¬ X a → h.get? a = some (seqO "list" vs n) → vs.length ≤ BIG → RdL C h X vs l → Rd C h X (.ref a) (.list l)
  | set {a : Addr} {o : Obj} {es : Array (Int × Value)} {ep n : Nat} {t : SetTable} : ¬ X a → h.get? a = some o → o.ExactSet → o.data = .set es ep t → t.fits es.size = true → es.size = n → n ≤ 100 → Rd C h X (.ref a) (.set n)
  | dict {a : Addr} {es : List DictEntry} {n : Nat} {kvs : List (Array UInt8 × D)} : ¬ X a → (a == sysModules) = false → h.get? a = some (dictO es n) → es.length ≤ BIG → RdE C h X es kvs → Rd C h X (.ref a) (.dict kvs)
  | lam {f c : Addr} {name qual : Str} {params : Arguments} {body : Expr} {scope : Scope} {cl : List (Str × Addr)} {pm ct : Value} {fvs : List (Str × D)} :
      ¬ X f → h.get? f = some { cls := .type "function", data := .func (kla_fn name qual params body scope cl pm (.ref c) ct) } → h.CodeRec (.ref c) qual → RdC C h X cl fvs → Rd C h X (.ref f) (.lam qual params body scope fvs)
  | fdef {f c : Addr} {name qual : Str} {params : Arguments} {body : List Stmt} {scope : Scope} {cl : List (Str × Addr)} {doc pm ct : Value} {fvs : List (Str × D)} :
      ¬ X f → h.get? f = some { cls := .type "function", data := .func (fnX name qual params body scope cl .none .none doc pm none (.ref c) ct) } → h.CodeRec (.ref c) qual → RdC C h X cl fvs → Rd C h X (.ref f) (.fdef qual params body scope fvs)
  | wl {a dx p : Addr} {es : List DictEntry} {n k : Nat} {vs : List Value} {items : List (Int × Array UInt8)} : ¬ X a → ¬ X dx → ¬ X p → h.get? a = some (instObj C.wlC dx) → h.get? dx = some (dictO es n) →
      (∃ hk tk, es = [⟨hk, .str (Str.ofString "pq") tk, .ref p⟩] ∧ hk = PyData.keyHash C.w.params (Str.ofString "pq")) → h.get? p = some (seqO "list" vs k) → vs.length ≤ BIG → RdW C h X vs items → Rd C h X (.ref a) (.wl items)
inductive RdL (C : Cx) (h : Heap) (X : Addr → Prop) : List Value → List D → Prop where
  | nil : RdL C h X [] []
  | cons {v : Value} {vs : List Value} {d : D} {ds : List D} : Rd C h X v d → RdL C h X vs ds → RdL C h X (v :: vs) (d :: ds)
inductive RdE (C : Cx) (h : Heap) (X : Addr → Prop) : List DictEntry → List (Array UInt8 × D) → Prop where
  | nil : RdE C h X [] []
  | cons {k : Array UInt8} {t : Tok} {v : Value} {d : D} {es : List DictEntry} {kvs : List (Array UInt8 × D)} : Rd C h X v d → RdE C h X es kvs → RdE C h X (⟨hashB C.w k, .bytes k t, v⟩ :: es) ((k, d) :: kvs)
inductive RdC (C : Cx) (h : Heap) (X : Addr → Prop) : List (Str × Addr) → List (Str × D) → Prop where
  | nil : RdC C h X [] []
  | cons {x : Str} {c : Addr} {v : Value} {d : D} {cl : List (Str × Addr)} {fvs : List (Str × D)} : ¬ X c → h.get? c = some (cellObj (some v)) → Rd C h X v d → RdC C h X cl fvs → RdC C h X ((x, c) :: cl) ((x, d) :: fvs)
end

inductive InI (i : Int) : Value → Prop where
  | mk (t : Tok) : InI i (.int i t)
inductive InB (b : Array UInt8) : Value → Prop where
  | mk (t : Tok) : InB b (.bytes b t)
inductive InQ (C : Cx) (h : Heap) (X : Addr → Prop) (c : String) (l : List D) : Value → Prop where
  | mk {a : Addr} {vs : List Value} {n : Nat} : ¬ X a → h.get? a = some (seqO c vs n) → vs.length ≤ BIG → RdL C h X vs l → InQ C h X c l (.ref a)
inductive InS (h : Heap) (X : Addr → Prop) (n : Nat) : Value → Prop where
  | mk {a : Addr} {o : Obj} {es : Array (Int × Value)} {ep : Nat} {t : SetTable} : ¬ X a → h.get? a = some o → o.ExactSet → o.data = .set es ep t → t.fits es.size = true → es.size = n → n ≤ 100 → InS h X n (.ref a)
inductive InD (C : Cx) (h : Heap) (X : Addr → Prop) (kvs : List (Array UInt8 × D)) : Value → Prop where
  | mk {a : Addr} {es : List DictEntry} {n : Nat} : ¬ X a → (a == sysModules) = false → h.get? a = some (dictO es n) → es.length ≤ BIG → RdE C h X es kvs → InD C h X kvs (.ref a)
inductive InLam (C : Cx) (h : Heap) (X : Addr → Prop) (qual : Str) (params : Arguments) (body : Expr) (scope : Scope) (fvs : List (Str × D)) : Value → Prop where
  | mk {f c : Addr} {name : Str} {cl : List (Str × Addr)} {pm ct : Value} :
      ¬ X f → h.get? f = some { cls := .type "function", data := .func (kla_fn name qual params body scope cl pm (.ref c) ct) } → h.CodeRec (.ref c) qual → RdC C h X cl fvs → InLam C h X qual params body scope fvs (.ref f)
inductive InFd (C : Cx) (h : Heap) (X : Addr → Prop) (qual : Str) (params : Arguments) (body : List Stmt) (scope : Scope) (fvs : List (Str × D)) : Value → Prop where
  | mk {f c : Addr} {name : Str} {cl : List (Str × Addr)} {doc pm ct : Value} :
      ¬ X f → h.get? f = some { cls := .type "function", data := .func (fnX name qual params body scope cl .none .none doc pm none (.ref c) ct) } → h.CodeRec (.ref c) qual → RdC C h X cl fvs → InFd C h X qual params body scope fvs (.ref f)
inductive InW (C : Cx) (h : Heap) (X : Addr → Prop) (items : List (Int × Array UInt8)) : Value → Prop where
  | mk {a dx p : Addr} {es : List DictEntry} {n k : Nat} {vs : List Value} : ¬ X a → ¬ X dx → ¬ X p → h.get? a = some (instObj C.wlC dx) → h.get? dx = some (dictO es n) →
      (∃ hk tk, es = [⟨hk, .str (Str.ofString "pq") tk, .ref p⟩] ∧ hk = PyData.keyHash C.w.params (Str.ofString "pq")) → h.get? p = some (seqO "list" vs k) → vs.length ≤ BIG → RdW C h X vs items → InW C h X items (.ref a)
inductive InC (C : Cx) (h : Heap) (X : Addr → Prop) (d : D) (ds : List D) : List Value → Prop where
  | mk {v : Value} {vs : List Value} : Rd C h X v d → RdL C h X vs ds → InC C h X d ds (v :: vs)
section
variable {C : Cx} {h : Heap} {X : Addr → Prop} {v : Value}
noncomputable def Inv (C : Cx) (h : Heap) (X : Addr → Prop) (v : Value) : D → Prop
  | .none => v = .none
  | .bool b => v = .bool b
  | .int i => InI i v
  | .byt b => InB b v
  | .tup l => InQ C h X "tuple" l v
  | .list l => InQ C h X "list" l v
  | .set n => InS h X n v
  | .dict l => InD C h X l v
  | .lam q p b s f => InLam C h X q p b s f v
  | .fdef q p b s f => InFd C h X q p b s f v
  | .wl l => InW C h X l v
  | .adr a => v = .ref a
theorem Rd.inv {d : D} (r : Rd C h X v d) : Inv C h X v d := by
  refine Rd.casesOn (motive_1 := fun v d _ => Inv C h X v d) r rfl (fun _ => rfl) (fun _ t => .mk t) (fun _ t => .mk t) (fun _ => rfl) (fun a b c d => .mk a b c d) (fun a b c d => .mk a b c d) (fun a b c d e f g => .mk a b c d e f g) (fun a b c d e => .mk a b c d e) (fun a b c d => .mk a b c d) (fun a b c d => .mk a b c d) fun a b c d e f g i j => .mk a b c d e f g i j
theorem Rd.i_none (r : Rd C h X v .none) : v = .none := r.inv
theorem Rd.i_bool {b : Bool} (r : Rd C h X v (.bool b)) : v = .bool b := r.inv
theorem Rd.i_adr {a : Addr} (r : Rd C h X v (.adr a)) : v = .ref a := r.inv
theorem Rd.i_int {i : Int} (r : Rd C h X v (.int i)) : InI i v := r.inv
theorem Rd.i_byt {b : Array UInt8} (r : Rd C h X v (.byt b)) : InB b v := r.inv
theorem Rd.i_tup {l : List D} (r : Rd C h X v (.tup l)) : InQ C h X "tuple" l v := r.inv
theorem Rd.i_list {l : List D} (r : Rd C h X v (.list l)) : InQ C h X "list" l v := r.inv
theorem Rd.i_set {n : Nat} (r : Rd C h X v (.set n)) : InS h X n v := r.inv
theorem Rd.i_dict {l : List (Array UInt8 × D)} (r : Rd C h X v (.dict l)) : InD C h X l v := r.inv
theorem Rd.i_lam {qual : Str} {params : Arguments} {body : Expr} {scope : Scope} {fvs : List (Str × D)} (r : Rd C h X v (.lam qual params body scope fvs)) : InLam C h X qual params body scope fvs v := r.inv
theorem Rd.i_fdef {qual : Str} {params : Arguments} {body : List Stmt} {scope : Scope} {fvs : List (Str × D)} (r : Rd C h X v (.fdef qual params body scope fvs)) : InFd C h X qual params body scope fvs v := r.inv
theorem Rd.i_wl {items : List (Int × Array UInt8)} (r : Rd C h X v (.wl items)) : InW C h X items v := r.inv
theorem Rd.none_of {d : D} (r : Rd C h X v d) (e : v = .none) : d = .none := by
  have q := r.inv
  subst e
  cases d with
  | none => rfl
  | bool b => exact nomatch (show Value.none = .bool b from q)
  | adr a => exact nomatch (show Value.none = .ref a from q)
  | _ => exact nomatch q
noncomputable def InvL (C : Cx) (h : Heap) (X : Addr → Prop) (vs : List Value) : List D → Prop
  | [] => vs = []
  | d :: ds => InC C h X d ds vs
theorem RdL.inv {vs : List Value} {ds : List D} (r : RdL C h X vs ds) : InvL C h X vs ds := RdL.casesOn (motive_2 := fun vs ds _ => InvL C h X vs ds) r rfl fun a b => .mk a b
theorem RdL.i_nil {vs : List Value} (r : RdL C h X vs []) : vs = [] := r.inv
theorem RdL.i_cons {vs : List Value} {d : D} {ds : List D} (r : RdL C h X vs (d :: ds)) : InC C h X d ds vs := r.inv
end

theorem TabOK.notab {C : Cx} {h : Heap} (T : TabOK C h) {a : Addr} {o : Obj} (e : h.get? a = some o) (c : o.cls ≠ .none) : a ∉ tabs := fun q => by
  refine ex1_2 (T a q) fun ps e2 _ => ?_
  obtain rfl := is_some e e2; exact c rfl

theorem CodeRec.ks {C : Cx} {M : Addr → Prop} {h h' : Heap} {c : Addr} {q : Str} (x : h.CodeRec (.ref c) q) (k : Ks C M h h') (t : c ∉ tabs) : h'.CodeRec (.ref c) q := k.code c q x t
theorem CodeRec.kq {C : Cx} {M : Addr → Prop} {h h' : Heap} {c : Addr} {q : Str} (x : h.CodeRec (.ref c) q) (k : Kq C M h h') (t : c ∉ tabs) : h'.CodeRec (.ref c) q := k.code c q x t

section
variable {C : Cx} {M X : Addr → Prop} {h h' : Heap}
theorem notab_aux {q : Str} {t : Tok} {l : List Value} (h : TriplesOk l) (e : l[1]? = some (.str q t)) : False := by
  fun_induction TriplesOk l with
  | case1 => cases e
  | case2 => cases e
  | case3 => exact h
theorem CodeRec.notab (T : TabOK C h) {c : Addr} {q : Str} (x : h.CodeRec (.ref c) q) : c ∉ tabs := fun t => by
  refine ex4_4 x fun c' o vs tk e ho hd hv => ?_; try clear x
  cases e
  refine ex1_3 (T c t) fun ps e2 h3 _ => ?_
  obtain rfl := Option.some.inj (e2.symm.trans ho)
  injection hd with hd
  exact notab_aux h3 (by rw [hd, Array.getElem?_toList]; exact hv)

structure Gen (C C' : Cx) (h h' : Heap) (X X' : Addr → Prop) : Prop where
  r1 : ∀ {v d}, Rd C h X v d → Rd C' h' X' v d
  r2 : ∀ {v d}, RdL C h X v d → RdL C' h' X' v d
  r3 : ∀ {v d}, RdE C h X v d → RdE C' h' X' v d
  r4 : ∀ {v d}, RdC C h X v d → RdC C' h' X' v d
  r5 : ∀ {v d}, RdW C h X v d → RdW C' h' X' v d
theorem gen {C' : Cx} {X' : Addr → Prop} (hw : C.w = C'.w) (hl : C.wlC = C'.wlC) (K : ∀ a o, ¬ X a → h.get? a = some o → o.cls ≠ .none → o.cls ≠ .type "frame" → ¬ X' a ∧ h'.get? a = some o) (Kc : ∀ c q, h.CodeRec (.ref c) q → h'.CodeRec (.ref c) q) : Gen C C' h h' X X' := by
  have q : ∀ {a : Addr} {c : String} {vs : List Value} {n : Nat}, ¬ X a → h.get? a = some (seqO c vs n) → c ≠ "frame" → ¬ X' a ∧ h'.get? a = some (seqO c vs n) := fun n e z => K _ _ n e (fun q => nomatch q) fun q => z (by injection q)
  have w5 : ∀ {v d}, RdW C h X v d → RdW C' h' X' v d := fun r => by
    induction r with
    | nil => exact .nil
    | cons n e _ r => exact .cons (q n e (by decide)).1 (q n e (by decide)).2 r
  have mb : ∀ b, Rd C' h' X' (.bool b) (.bool b) := .bool
  have mi : ∀ i t, Rd C' h' X' (.int i t) (.int i) := .int
  have my : ∀ b t, Rd C' h' X' (.bytes b t) (.byt b) := .byt
  have ma : ∀ a, Rd C' h' X' (.ref a) (.adr a) := .adr
  have mt : ∀ {a : Addr} {vs : List Value} {n : Nat} {l : List D}, ¬ X a → h.get? a = some (seqO "tuple" vs n) → vs.length ≤ BIG → RdL C h X vs l → RdL C' h' X' vs l → Rd C' h' X' (.ref a) (.tup l) := fun n e z _ r => .tup (q n e (by decide)).1 (q n e (by decide)).2 z r
  have ml : ∀ {a : Addr} {vs : List Value} {n : Nat} {l : List D}, ¬ X a → h.get? a = some (seqO "list" vs n) → vs.length ≤ BIG → RdL C h X vs l → RdL C' h' X' vs l → Rd C' h' X' (.ref a) (.list l) := fun n e z _ r => .list (q n e (by decide)).1 (q n e (by decide)).2 z r
  have ms : ∀ {a : Addr} {o : Obj} {es : Array (Int × Value)} {ep n : Nat} {t : SetTable}, ¬ X a → h.get? a = some o → o.ExactSet → o.data = .set es ep t → t.fits es.size = true → es.size = n → n ≤ 100 → Rd C' h' X' (.ref a) (.set n) := fun n e c dn z r q => have p := K _ _ n e (by rw [c.1]; simp) (by rw [c.1]; simp); .set p.1 p.2 c dn z r q
  have md : ∀ {a : Addr} {es : List DictEntry} {n : Nat} {kvs : List (Array UInt8 × D)}, ¬ X a → (a == sysModules) = false → h.get? a = some (dictO es n) → es.length ≤ BIG → RdE C h X es kvs → RdE C' h' X' es kvs → Rd C' h' X' (.ref a) (.dict kvs) := fun n y e z _ r => have q := K _ _ n e (by simp) (by simp); .dict q.1 y q.2 z r
  have mf : ∀ {f c : Addr} {name qual : Str} {params : Arguments} {body : Expr} {scope : Scope} {cl : List (Str × Addr)} {pm ct : Value} {fvs : List (Str × D)},
      ¬ X f → h.get? f = some { cls := .type "function", data := .func (kla_fn name qual params body scope cl pm (.ref c) ct) } → h.CodeRec (.ref c) qual → RdC C h X cl fvs → RdC C' h' X' cl fvs → Rd C' h' X' (.ref f) (.lam qual params body scope fvs) := fun n e r _ rc => have q := K _ _ n e (by simp) (by simp); .lam q.1 q.2 (Kc _ _ r) rc
  have mg : ∀ {f c : Addr} {name qual : Str} {params : Arguments} {body : List Stmt} {scope : Scope} {cl : List (Str × Addr)} {doc pm ct : Value} {fvs : List (Str × D)},
      ¬ X f → h.get? f = some { cls := .type "function", data := .func (fnX name qual params body scope cl .none .none doc pm none (.ref c) ct) } → h.CodeRec (.ref c) qual → RdC C h X cl fvs → RdC C' h' X' cl fvs → Rd C' h' X' (.ref f) (.fdef qual params body scope fvs) := fun n e r _ rc => have q := K _ _ n e (by simp) (by simp); .fdef q.1 q.2 (Kc _ _ r) rc
  have mw : ∀ {a dx p : Addr} {es : List DictEntry} {n k : Nat} {vs : List Value} {items : List (Int × Array UInt8)}, ¬ X a → ¬ X dx → ¬ X p → h.get? a = some (instObj C.wlC dx) → h.get? dx = some (dictO es n) →
      (∃ hk tk, es = [⟨hk, .str (Str.ofString "pq") tk, .ref p⟩] ∧ hk = PyData.keyHash C.w.params (Str.ofString "pq")) → h.get? p = some (seqO "list" vs k) → vs.length ≤ BIG → RdW C h X vs items → Rd C' h' X' (.ref a) (.wl items) := fun n1 n2 n3 e1 e2 e3 e4 z r =>
    have q1 := K _ _ n1 e1 (by simp) (by simp); have q2 := K _ _ n2 e2 (by simp) (by simp); have q3 := q n3 e4 (by decide)
    .wl q1.1 q2.1 q3.1 (hl ▸ q1.2) q2.2 (hw ▸ e3) q3.2 z (w5 r)
  have l2 : ∀ {v : Value} {vs : List Value} {d : D} {ds : List D}, Rd C h X v d → RdL C h X vs ds → Rd C' h' X' v d → RdL C' h' X' vs ds → RdL C' h' X' (v :: vs) (d :: ds) := fun _ _ a r => .cons a r
  have l3 : ∀ {k : Array UInt8} {t : Tok} {v : Value} {d : D} {es : List DictEntry} {kvs : List (Array UInt8 × D)}, Rd C h X v d → RdE C h X es kvs → Rd C' h' X' v d → RdE C' h' X' es kvs → RdE C' h' X' (⟨hashB C.w k, .bytes k t, v⟩ :: es) ((k, d) :: kvs) := fun _ _ a r => hw ▸ .cons a r
  have l4 : ∀ {x : Str} {c : Addr} {v : Value} {d : D} {cl : List (Str × Addr)} {fvs : List (Str × D)}, ¬ X c → h.get? c = some (cellObj (some v)) → Rd C h X v d → RdC C h X cl fvs → Rd C' h' X' v d → RdC C' h' X' cl fvs → RdC C' h' X' ((x, c) :: cl) ((x, d) :: fvs) := fun n e _ _ a r => have q := K _ _ n e (by simp) (by simp); .cons q.1 q.2 a r
  exact ⟨fun r => Rd.rec (motive_1 := fun v d _ => Rd C' h' X' v d) (motive_2 := fun v d _ => RdL C' h' X' v d) (motive_3 := fun v d _ => RdE C' h' X' v d) (motive_4 := fun v d _ => RdC C' h' X' v d) .none mb mi my ma mt ml ms md mf mg mw .nil l2 .nil l3 .nil l4 r,
    fun r => RdL.rec (motive_1 := fun v d _ => Rd C' h' X' v d) (motive_2 := fun v d _ => RdL C' h' X' v d) (motive_3 := fun v d _ => RdE C' h' X' v d) (motive_4 := fun v d _ => RdC C' h' X' v d) .none mb mi my ma mt ml ms md mf mg mw .nil l2 .nil l3 .nil l4 r,
    fun r => RdE.rec (motive_1 := fun v d _ => Rd C' h' X' v d) (motive_2 := fun v d _ => RdL C' h' X' v d) (motive_3 := fun v d _ => RdE C' h' X' v d) (motive_4 := fun v d _ => RdC C' h' X' v d) .none mb mi my ma mt ml ms md mf mg mw .nil l2 .nil l3 .nil l4 r,
    fun r => RdC.rec (motive_1 := fun v d _ => Rd C' h' X' v d) (motive_2 := fun v d _ => RdL C' h' X' v d) (motive_3 := fun v d _ => RdE C' h' X' v d) (motive_4 := fun v d _ => RdC C' h' X' v d) .none mb mi my ma mt ml ms md mf mg mw .nil l2 .nil l3 .nil l4 r,
    w5⟩

theorem genK (k : Ks C M h h') (hm : ∀ a, M a → X a) (T : TabOK C h) : ∀ a o, ¬ X a → h.get? a = some o → o.cls ≠ .none → o.cls ≠ .type "frame" → ¬ X a ∧ h'.get? a = some o := fun a o n e c f => ⟨n, k.exact (fun q => n (hm _ q)) (T.notab e c) e f⟩
theorem genKc (k : Ks C M h h') (T : TabOK C h) : ∀ c q, h.CodeRec (.ref c) q → h'.CodeRec (.ref c) q := fun c q r => CodeRec.ks r k (CodeRec.notab T r)
theorem gen_keep (k : Ks C M h h') (hm : ∀ a, M a → X a) (T : TabOK C h) : Gen C C h h' X X := gen rfl rfl (genK k hm T) (genKc k T)
theorem Rd.keepS (k : Ks C M h h') (hm : ∀ a, M a → X a) (T : TabOK C h) {v : Value} {d : D} (r : Rd C h X v d) : Rd C h' X v d := (gen_keep k hm T).r1 r
theorem RdL.keepS (k : Ks C M h h') (hm : ∀ a, M a → X a) (T : TabOK C h) {v : List Value} {d : List D} (r : RdL C h X v d) : RdL C h' X v d := (gen_keep k hm T).r2 r
theorem RdE.keepS (k : Ks C M h h') (hm : ∀ a, M a → X a) (T : TabOK C h) {v : List DictEntry} {d : List (Array UInt8 × D)} (r : RdE C h X v d) : RdE C h' X v d := (gen_keep k hm T).r3 r
theorem RdC.keepS (k : Ks C M h h') (hm : ∀ a, M a → X a) (T : TabOK C h) {v : List (Str × Addr)} {d : List (Str × D)} (r : RdC C h X v d) : RdC C h' X v d := (gen_keep k hm T).r4 r
theorem RdW.keepS (k : Ks C M h h') (hm : ∀ a, M a → X a) (T : TabOK C h) {v : List Value} {d : List (Int × Array UInt8)} (r : RdW C h X v d) : RdW C h' X v d := (gen_keep k hm T).r5 r
theorem gen_anti {X' : Addr → Prop} (hx : ∀ a o, h.get? a = some o → X' a → X a) : Gen C C h h X X' := gen rfl rfl (fun a o n e _ _ => ⟨fun q => n (hx a o e q), e⟩) fun _ _ r => r
theorem Rd.anti {X' : Addr → Prop} (hx : ∀ a o, h.get? a = some o → X' a → X a) {v : Value} {d : D} (r : Rd C h X v d) : Rd C h X' v d := (gen_anti hx).r1 r
theorem RdL.anti {X' : Addr → Prop} (hx : ∀ a o, h.get? a = some o → X' a → X a) {v : List Value} {d : List D} (r : RdL C h X v d) : RdL C h X' v d := (gen_anti hx).r2 r
theorem RdE.anti {X' : Addr → Prop} (hx : ∀ a o, h.get? a = some o → X' a → X a) {v : List DictEntry} {d : List (Array UInt8 × D)} (r : RdE C h X v d) : RdE C h X' v d := (gen_anti hx).r3 r
theorem RdW.anti {X' : Addr → Prop} (hx : ∀ a o, h.get? a = some o → X' a → X a) {v : List Value} {d : List (Int × Array UInt8)} (r : RdW C h X v d) : RdW C h X' v d := (gen_anti hx).r5 r

theorem Rd.keep (k : Kq C M h h') (hm : ∀ a, M a → X a) (T : TabOK C h) {v : Value} {d : D} (r : Rd C h X v d) : Rd C h' X v d := Rd.keepS k.ks hm T r
theorem RdL.keep (k : Kq C M h h') (hm : ∀ a, M a → X a) (T : TabOK C h) {v : List Value} {d : List D} (r : RdL C h X v d) : RdL C h' X v d := RdL.keepS k.ks hm T r
theorem RdE.keep (k : Kq C M h h') (hm : ∀ a, M a → X a) (T : TabOK C h) {v : List DictEntry} {d : List (Array UInt8 × D)} (r : RdE C h X v d) : RdE C h' X v d := RdE.keepS k.ks hm T r
theorem RdC.keep (k : Kq C M h h') (hm : ∀ a, M a → X a) (T : TabOK C h) {v : List (Str × Addr)} {d : List (Str × D)} (r : RdC C h X v d) : RdC C h' X v d := RdC.keepS k.ks hm T r
theorem RdW.keep (k : Kq C M h h') (hm : ∀ a, M a → X a) (T : TabOK C h) {v : List Value} {d : List (Int × Array UInt8)} (r : RdW C h X v d) : RdW C h' X v d := RdW.keepS k.ks hm T r

theorem RdL.ind {P : List Value → List D → Prop} (h0 : P [] []) (h1 : ∀ {v : Value} {vs : List Value} {d : D} {ds : List D}, Rd C h X v d → RdL C h X vs ds → P vs ds → P (v :: vs) (d :: ds)) {vs : List Value} {ds : List D} (r : RdL C h X vs ds) : P vs ds :=
  RdL.rec (motive_1 := fun _ _ _ => True) (motive_2 := fun v d _ => P v d) (motive_3 := fun _ _ _ => True) (motive_4 := fun _ _ _ => True) trivial (by intros; trivial) (by intros; trivial) (by intros; trivial) (by intros; trivial) (by intros; trivial) (by intros; trivial) (by intros; trivial) (by intros; trivial) (by intros; trivial) (by intros; trivial) (by intros; trivial) h0 (fun a r _ q => h1 a r q) trivial (by intros; trivial) trivial (by intros; trivial) r
theorem RdE.ind {P : List DictEntry → List (Array UInt8 × D) → Prop} (h0 : P [] []) (h1 : ∀ {k : Array UInt8} {t : Tok} {v : Value} {d : D} {es : List DictEntry} {kvs : List (Array UInt8 × D)}, Rd C h X v d → RdE C h X es kvs → P es kvs → P (⟨hashB C.w k, .bytes k t, v⟩ :: es) ((k, d) :: kvs))
    {es : List DictEntry} {kvs : List (Array UInt8 × D)} (r : RdE C h X es kvs) : P es kvs :=
  RdE.rec (motive_1 := fun _ _ _ => True) (motive_2 := fun _ _ _ => True) (motive_3 := fun v d _ => P v d) (motive_4 := fun _ _ _ => True) trivial (by intros; trivial) (by intros; trivial) (by intros; trivial) (by intros; trivial) (by intros; trivial) (by intros; trivial) (by intros; trivial) (by intros; trivial) (by intros; trivial) (by intros; trivial) (by intros; trivial) trivial (by intros; trivial) h0 (fun a r _ q => h1 a r q) trivial (by intros; trivial) r
theorem RdC.ind {P : List (Str × Addr) → List (Str × D) → Prop} (h0 : P [] []) (h1 : ∀ {x : Str} {c : Addr} {v : Value} {d : D} {cl : List (Str × Addr)} {fvs : List (Str × D)}, ¬ X c → h.get? c = some (cellObj (some v)) → Rd C h X v d → RdC C h X cl fvs → P cl fvs → P ((x, c) :: cl) ((x, d) :: fvs))
    {cl : List (Str × Addr)} {fvs : List (Str × D)} (r : RdC C h X cl fvs) : P cl fvs :=
  RdC.rec (motive_1 := fun _ _ _ => True) (motive_2 := fun _ _ _ => True) (motive_3 := fun _ _ _ => True) (motive_4 := fun v d _ => P v d) trivial (by intros; trivial) (by intros; trivial) (by intros; trivial) (by intros; trivial) (by intros; trivial) (by intros; trivial) (by intros; trivial) (by intros; trivial) (by intros; trivial) (by intros; trivial) (by intros; trivial) trivial (by intros; trivial) trivial (by intros; trivial) h0 (fun n e a r _ q => h1 n e a r q) r
noncomputable def RdI (h : Heap) (X : Addr → Prop) (v : Value) (x : Int × Array UInt8) : Prop := ∃ a t u n, v = .ref a ∧ ¬ X a ∧ h.get? a = some (seqO "tuple" [.int x.1 t, .bytes x.2 u] n)
theorem RdW.consI {v : Value} {x : Int × Array UInt8} {vs : List Value} {items : List (Int × Array UInt8)} (i : RdI h X v x) (r : RdW C h X vs items) : RdW C h X (v :: vs) (x :: items) := by
  refine ex4_3 i fun a t u n zq2 nx e => ?_; try clear i; subst zq2
  exact .cons nx e r
theorem RdW.ind {P : List Value → List (Int × Array UInt8) → Prop} (h0 : P [] []) (h1 : ∀ {v : Value} {x : Int × Array UInt8} {vs : List Value} {items : List (Int × Array UInt8)}, RdI h X v x → RdW C h X vs items → P vs items → P (v :: vs) (x :: items))
    {vs : List Value} {items : List (Int × Array UInt8)} (r : RdW C h X vs items) : P vs items :=
  RdW.rec (motive := fun v d _ => P v d) h0 (fun n e r q => h1 ⟨_, _, _, _, rfl, n, e⟩ r q) r
theorem RdW.head {v : Value} {x : Int × Array UInt8} {vs : List Value} {l : List (Int × Array UInt8)} (r : RdW C h X (v :: vs) (x :: l)) : RdI h X v x ∧ RdW C h X vs l :=
  RdW.ind (P := fun vs items => ∀ {v x ws l}, vs = v :: ws → items = x :: l → RdI h X v x ∧ RdW C h X ws l) (fun e _ => nomatch e) (fun i q _ _ _ _ _ e e' => by
    cases e; cases e'; exact ⟨i, q⟩) r rfl rfl

theorem RdL.length {vs : List Value} {ds : List D} (r : RdL C h X vs ds) : vs.length = ds.length := r.ind (P := fun vs ds => vs.length = ds.length) rfl fun _ _ e => congrArg (· + 1) e
theorem RdL.append {vs us : List Value} {ds es : List D} (r : RdL C h X vs ds) (q : RdL C h X us es) : RdL C h X (vs ++ us) (ds ++ es) := r.ind (P := fun vs ds => RdL C h X (vs ++ us) (ds ++ es)) q fun a _ q => .cons a q
theorem RdL.one {v : Value} {d : D} (a : Rd C h X v d) : RdL C h X [v] [d] := .cons a .nil
theorem RdL.get {vs : List Value} {ds : List D} {i : Nat} {v : Value} (r : RdL C h X vs ds) (e : vs[i]? = some v) : ∃ d, ds[i]? = some d ∧ Rd C h X v d :=
  r.ind (P := fun vs ds => ∀ i, vs[i]? = some v → ∃ d, ds[i]? = some d ∧ Rd C h X v d) (fun i e => by simp at e) (fun a _ q i e => by
    cases i with
    | zero => exact ⟨_, rfl, Option.some.inj e ▸ a⟩
    | succ i => exact q i e) i e
theorem RdL.get' {vs : List Value} {ds : List D} {i : Nat} {d : D} (r : RdL C h X vs ds) (e : ds[i]? = some d) : ∃ v, vs[i]? = some v ∧ Rd C h X v d :=
  r.ind (P := fun vs ds => ∀ i, ds[i]? = some d → ∃ v, vs[i]? = some v ∧ Rd C h X v d) (fun i e => by simp at e) (fun a _ q i e => by
    cases i with
    | zero => exact ⟨_, rfl, Option.some.inj e ▸ a⟩
    | succ i => exact q i e) i e
theorem RdL.mem {vs : List Value} {ds : List D} {v : Value} (r : RdL C h X vs ds) (m : v ∈ vs) : ∃ d ∈ ds, Rd C h X v d :=
  let ⟨i, e⟩ := List.getElem?_of_mem m
  let ⟨d, e, q⟩ := r.get e
  ⟨d, List.mem_of_getElem? e, q⟩
theorem RdL.drop {vs : List Value} {ds : List D} (n : Nat) (r : RdL C h X vs ds) : RdL C h X (vs.drop n) (ds.drop n) :=
  r.ind (P := fun vs ds => ∀ n, RdL C h X (vs.drop n) (ds.drop n)) (fun n => by rw [List.drop_nil, List.drop_nil]; exact .nil) (fun a r q n => by
    cases n with
    | zero => exact .cons a r
    | succ n => exact q n) n
theorem RdL.take {vs : List Value} {ds : List D} (n : Nat) (r : RdL C h X vs ds) : RdL C h X (vs.take n) (ds.take n) :=
  r.ind (P := fun vs ds => ∀ n, RdL C h X (vs.take n) (ds.take n)) (fun n => by rw [List.take_nil, List.take_nil]; exact .nil) (fun a _ q n => by
    cases n with
    | zero => exact .nil
    | succ n => exact .cons a (q n)) n
end

end Mine
namespace Mine

section
variable {prog : Program} {w : World} {A : Around} {E : Value → Shared → Prop} {s : Shared}

theorem putName_cls (x : Str) (hs : Int) (k v : Value) (o : Obj) : (Obj.putName x hs k v o).cls = o.cls := by
  obtain ⟨c, d, dt, sl⟩ := o
  rw [Obj.putName_eq]
  cases dt <;> (simp only [Obj.putNameByArray]; try rfl)
  split <;> rfl
theorem putName_nf (x : Str) (hs : Int) (k v : Value) (o : Obj) (n : NF o) : NF (Obj.putName x hs k v o) := by
  obtain ⟨c, d, dt, sl⟩ := o
  rw [Obj.putName_eq]
  cases dt <;> (simp only [Obj.putNameByArray]; try exact n)
  split <;> (intro vs; simp)

theorem wpAny_nsSet2 {a : Addr} {m : Str → Option Value} {x : Str} {v : Value} {Q : Unit → Shared → Prop} (hn : s.heap.Ns a m)
    (h : ∀ h', h'.Ns a (fun y => if y = x then some v else m y) → Heap.SameBut a s.heap h' →
      (∀ o, s.heap.get? a = some o → NF o → ∃ o', h'.get? a = some o' ∧ o'.cls = o.cls ∧ NF o') → Q () { s with heap := h', toks := s.toks + 1 }) :
    wpAny (model prog w) A (nsSet a x v) Q E s := by
  have hn0 := hn
  refine ex3_4 hn fun o es ep ho hd hk hm => ?_; try clear hn
  have hany : es.any (·.refKey) = false := by
    rw [Array.any_eq_false']; intro e he; refine ex2_1 (hk e he) fun n t h => ?_; simp [DictEntry.refKey, h]
  unfold nsSet
  refine wpAny_bind (wpAny_strHash (wpAny_bind (wpAny_mkText (wpAny_bind (wpAny_loadPart (o := o) ho ?_)))))
  rw [hd]
  show wpAny _ _ (if aRefKeyMayBeTheName x es = true then _ else _) Q E _
  rw [aRefKeyMayBeTheName_eq]
  simp only [aRefKeyMayBeTheNameByArray, hany, Bool.and_false, Bool.false_eq_true, if_false]
  refine wpAny_updatePart ho ?_
  have key : ∀ (hash : Int) (tk : Tok), (s.heap.update a (Obj.putName x hash (.str x tk) v)).Ns a (fun y => if y = x then some v else m y) := by
    intro hash tk
    obtain ⟨c, d, dt, sl⟩ := o
    subst hd
    cases hi : es.findIdx? (·.key.isStr x) with
    | some i =>
      refine ⟨_, _, ep, Heap.get?_update_self _ ho (by simp only [Obj.putName_eq, Obj.putNameByArray, hi]; rfl), by simp only [Obj.putName_eq, Obj.putNameByArray, hi]; rfl, hk.modify _ _, fun y => ?_⟩
      show _ = if y = x then some v else m y
      rw [← hm]; exact findBy_modify (fun n v => v.isStr n) Value.isStr_inj es x y v i hi
    | none =>
      refine ⟨_, _, ep + 1, Heap.get?_update_self _ ho (by simp only [Obj.putName_eq, Obj.putNameByArray, hi]; rfl), by simp only [Obj.putName_eq, Obj.putNameByArray, hi]; rfl, hk.push _ _ _ _, fun y => ?_⟩
      show _ = if y = x then some v else m y
      rw [← hm]
      exact findBy_push (fun n v => v.isStr n) es x y _ _ v (fun y => by
        show (x == y) = decide (y = x)
        by_cases h : y = x
        · subst h; simp
        · have : ¬ x = y := fun e => h e.symm
          simp [h, this]) hi
  refine h _ (key _ _) (Heap.SameBut.update ..) fun o' e nf => ?_
  refine ⟨_, Heap.get?_update_self _ e ?_, putName_cls .., putName_nf _ _ _ _ _ nf⟩
  obtain rfl := is_some ho e
  obtain ⟨c, d, dt, sl⟩ := o
  subst hd
  simp only [Obj.putName_eq, Obj.putNameByArray]
  split <;> rfl

theorem wpAny_storeCell {env : Env} {x : Str} {c : Addr} {v₀ : Option Value} {v : Value} {Q : Unit → Shared → Prop} (hk : env.scope.kind = .function) (hl : env.kindOf x = some .cell)
    (hc : env.cells.lookup x = some c) (hv : s.heap.get? c = some (cellObj v₀))
    (h : ∀ h', h'.get? c = some (cellObj (some v)) → Heap.SameBut c s.heap h' → Q () { s with heap := h' }) : wpAny (model prog w) A (storeName env x v) Q E s := by
  unfold storeName
  simp only [hl, hk]
  refine wpAny_bind (wpAny_cellOf hc ?_)
  show wpAny _ _ (cellSet c (some v)) Q E s
  unfold cellSet
  refine wpAny_bind (wpAny_load hv ?_)
  exact wpAny_update hv (h _ (Heap.get?_update_self _ hv rfl) (Heap.SameBut.update ..))
end

inductive Slot where
  | unk
  | val (d : D)
  | frz (d : D)
  | ext (d : D)
  | lst (l : List D)
  | dct (kvs : List (Array UInt8 × D))
  | wl (items : List (Int × Array UInt8))

noncomputable def Slot.capt : Slot → Bool
  | .frz _ | .ext _ => true
  | _ => false

noncomputable abbrev Rho := List (Str × Slot)
noncomputable def Rho.get (ρ : Rho) (x : Str) : Slot := (ρ.lookup x).getD .unk

structure Sc where
  scope : Scope
  qual : Str
  cp : Option (Addr × Addr)
noncomputable def Sc.inner (sc : Sc) (scope : Scope) : Sc := { sc with scope }

noncomputable def EnvIs (C : Cx) (sc : Sc) (env : Env) : Prop :=
  env.scope = sc.scope ∧ env.qual = sc.qual ∧ ∀ c P, sc.cp = some (c, P) → env.code = .ref c ∧ c ∉ tabs ∧ P ∈ tabs ∧ CodeHd C.h₁ c P

noncomputable def Look (h : Heap) (env : Env) (x : Str) (v : Value) : Prop :=
  (env.kindOf x = some .local ∧ ∃ m, h.Ns env.locals m ∧ m x = some v) ∨
  ((env.kindOf x = some .cell ∨ env.kindOf x = some .free) ∧ ∃ c, env.cells.lookup x = some c ∧ h.get? c = some (cellObj (some v)))

inductive WlAt (C : Cx) (h : Heap) (X : Addr → Prop) (a p : Addr) (items : List (Int × Array UInt8)) : Prop where
  | mk (dx : Addr) (es : List DictEntry) (n k : Nat) (vs : List Value) : ¬ X a → ¬ X dx → h.get? a = some (instObj C.wlC dx) → h.get? dx = some (dictO es n) →
    (∃ hk tk, es = [⟨hk, .str (Str.ofString "pq") tk, .ref p⟩] ∧ hk = PyData.keyHash C.w.params (Str.ofString "pq")) → h.get? p = some (seqO "list" vs k) → vs.length ≤ BIG → RdW C h X vs items → WlAt C h X a p items

noncomputable def SlotOk (C : Cx) (env : Env) (X M : Addr → Prop) (h : Heap) (x : Str) : Slot → Option Addr → Prop
  | .unk, oa => oa = none
  | .val d, oa => oa = none ∧ ∃ v, Look h env x v ∧ Rd C h X v d
  | .frz d, oa => oa = none ∧ ∃ v, Look h env x v ∧ Rd C h X v d
  | .ext d, oa => oa = none ∧ ∃ v, Look h env x v ∧ Rd C h X v d
  | .lst l, oa => ∃ a n vs, oa = some a ∧ Look h env x (.ref a) ∧ h.get? a = some (seqO "list" vs n) ∧ vs.length ≤ BIG ∧ RdL C h X vs l ∧ M a
  | .dct kvs, oa => ∃ a n es, oa = some a ∧ Look h env x (.ref a) ∧ h.get? a = some (dictO es n) ∧ es.length ≤ BIG ∧ RdE C h X es kvs ∧ M a ∧ (kvs.map (·.1)).Nodup ∧ a ≠ env.locals ∧ a ≠ sysModules
  | .wl items, oa => ∃ a p, oa = some p ∧ Look h env x (.ref a) ∧ WlAt C h X a p items ∧ M p

structure Mod (C : Cx) (env : Env) (ρ : Rho) (X M : Addr → Prop) (h : Heap) : Prop where
  glob : env.globals = mainGlobals
  blt : env.builtins = builtinsNs
  kind : env.scope.kind = .function
  ns : ∃ m, h.Ns env.locals m
  lm : M env.locals
  mx : ∀ a, M a → X a
  live : ∀ a, X a → ∃ o, h.get? a = some o
  alive : ∀ a, M a → C.h₁.get? a = none ∧ ∃ o, h.get? a = some o ∧ NF o
  cinj : ∀ x y c, M c → env.cells.lookup x = some c → env.cells.lookup y = some c → x = y
  cells : ∀ x c, env.cells.lookup x = some c → ∃ v, h.get? c = some (cellObj v)
  cellM : ∀ x c, env.kindOf x = some .cell → env.cells.lookup x = some c → (ρ.get x).capt = false → M c
  hasc : ∀ x, env.kindOf x = some .cell → ∃ c, env.cells.lookup x = some c
  cellX : ∀ x c d, env.cells.lookup x = some c → ρ.get x = .frz d → ¬ X c
  vars : ∃ own : Str → Option Addr, (∀ x, SlotOk C env X M h x (ρ.get x) (own x)) ∧ ∀ x y a, own x = some a → own y = some a → x = y

section
variable {C : Cx} {env : Env} {ρ : Rho} {X M : Addr → Prop} {h h' : Heap} {x : Str} {v : Value}

theorem Ns_kq {K : Addr → Prop} {a : Addr} {m : Str → Option Value} (k : Kq C K h h') (T : TabOK C h) (n : ¬ K a) (q : h.Ns a m) : h'.Ns a m := by
  refine ex3_3 q fun o es ep ho hd r => ?_; try clear q
  have ht : a ∉ tabs := fun t => by
    refine ex1_2 (T a t) fun ps e _ => ?_
    obtain rfl := is_some ho e; cases hd
  refine ex1_2 (k.same a o n ht ho) fun sl e _ => ?_
  exact ⟨_, es, ep, e, hd, r⟩

theorem Look.keep (k : Kp C h h') (T : TabOK C h) (q : Look h env x v) : Look h' env x v := by
  rcases q with ⟨q1, m, q2, q3⟩ | ⟨q1, c, q2, q3⟩
  · exact .inl ⟨q1, m, Ns_kq k T id q2, q3⟩
  · exact .inr ⟨q1, c, q2, k.exact id (T.notab q3 (by simp)) q3 (by simp)⟩

theorem WlAt.keep {a p : Addr} {items : List (Int × Array UInt8)} (k : Kq C M h h') (hm : ∀ a, M a → X a) (hp : ¬ M p) (T : TabOK C h) (q : WlAt C h X a p items) : WlAt C h' X a p items := by
  obtain ⟨dx, es, n, j, vs, n1, n2, e1, e2, e3, e4, z, r⟩ := q
  exact ⟨dx, es, n, j, vs, n1, n2, k.exact (fun q => n1 (hm _ q)) (T.notab e1 (by simp)) e1 (by simp), k.exact (fun q => n2 (hm _ q)) (T.notab e2 (by simp)) e2 (by simp), e3, k.exact hp (T.notab e4 (by simp)) e4 (by simp), z, RdW.keep k hm T r⟩

theorem SlotOk.keep {s : Slot} {oa : Option Addr} (k : Kp C h h') (T : TabOK C h) (q : SlotOk C env X M h x s oa) : SlotOk C env X M h' x s oa := by
  have f : ∀ a, False → X a := fun _ q => q.elim
  cases s with
  | unk => exact q
  | val d => refine ex0_2 q fun q1 zq1 => ?_; try clear q; refine ex1_2 zq1 fun v q2 q3 => ?_; try clear zq1; exact ⟨q1, v, q2.keep k T, q3.keep k f T⟩
  | frz d => refine ex0_2 q fun q1 zq2 => ?_; try clear q; refine ex1_2 zq2 fun v q2 q3 => ?_; try clear zq2; exact ⟨q1, v, q2.keep k T, q3.keep k f T⟩
  | ext d => refine ex0_2 q fun q1 zq3 => ?_; try clear q; refine ex1_2 zq3 fun v q2 q3 => ?_; try clear zq3; exact ⟨q1, v, q2.keep k T, q3.keep k f T⟩
  | lst l => refine ex3_6 q fun a n vs q1 q2 q3 q4 q5 q6 => ?_; try clear q; exact ⟨a, n, vs, q1, q2.keep k T, k.exact id (T.notab q3 (by simp)) q3 (by simp), q4, q5.keep k f T, q6⟩
  | dct l => refine ex3_6 q fun a n es q1 q2 q3 q4 q5 q6 => ?_; try clear q; exact ⟨a, n, es, q1, q2.keep k T, k.exact id (T.notab q3 (by simp)) q3 (by simp), q4, q5.keep k f T, q6⟩
  | wl items => refine ex2_4 q fun a p q1 q2 q3 q4 => ?_; try clear q; exact ⟨a, p, q1, q2.keep k T, q3.keep k f id T, q4⟩

theorem Kq.live {K : Addr → Prop} (k : Kq C K h h') (hk : ∀ a o, K a → h.get? a = some o → NF o) (T' : TabOK C h') {a : Addr} {o : Obj} (e : h.get? a = some o) : ∃ o', h'.get? a = some o' := by
  by_cases q : K a
  · refine ex1_2 (k.kind a o e (hk a o q e)) fun o' e' _ => ?_; exact ⟨o', e'⟩
  · by_cases t : a ∈ tabs
    · refine ex1_2 (T' a t) fun ps e' _ => ?_; exact ⟨_, e'⟩
    · refine ex1_2 (k.same a o q t e) fun sl e' _ => ?_; exact ⟨_, e'⟩

theorem Mod.keep (m : Mod C env ρ X M h) (k : Kp C h h') (T : TabOK C h) (T' : TabOK C h') : Mod C env ρ X M h' where
  glob := m.glob
  blt := m.blt
  kind := m.kind
  ns := let ⟨f, q⟩ := m.ns; ⟨f, Ns_kq k T id q⟩
  lm := m.lm
  mx := m.mx
  live a q := let ⟨_, e⟩ := m.live a q; k.live (fun _ _ q => q.elim) T' e
  alive a q := let ⟨q1, o, q2, q3⟩ := m.alive a q; let ⟨o', e, _, n⟩ := k.kind a o q2 q3; ⟨q1, o', e, n⟩
  cinj := m.cinj
  cells y c q := let ⟨v, e⟩ := m.cells y c q; ⟨v, k.exact id (T.notab e (by simp)) e (by simp)⟩
  cellM := m.cellM
  hasc := m.hasc
  cellX := m.cellX
  vars := let ⟨own, q1, q2⟩ := m.vars; ⟨own, fun y => (q1 y).keep k T, q2⟩
end

noncomputable def Ev (C : Cx) (n : Lv) (sc : Sc) (ρ : Rho) (e : Expr) (d : D) : Prop :=
  ∀ A env X M s, Sit C n A s → EnvIs C sc env → Mod C env ρ X M s.heap →
    wpAny C.M A (eval e env) (fun v s' => Nx C s s' ∧ Rd C s'.heap X v d) (fun _ _ => False) s
noncomputable def Et (C : Cx) (n : Lv) (sc : Sc) (ρ : Rho) (e : Expr) (b : Bool) : Prop :=
  ∀ A env X M s, Sit C n A s → EnvIs C sc env → Mod C env ρ X M s.heap →
    wpAny C.M A (isTrue e env (eval e env)) (fun r s' => Nx C s s' ∧ r = b) (fun _ _ => False) s
noncomputable def El (C : Cx) (n : Lv) (sc : Sc) (ρ : Rho) (es : List Expr) (ds : List D) : Prop :=
  ∀ A env X M s pos, Sit C n A s → EnvIs C sc env → Mod C env ρ X M s.heap →
    wpAny C.M A (spliced (backTo pos (starEach es env))) (fun vs s' => Nx C s s' ∧ RdL C s'.heap X vs ds) (fun _ _ => False) s

inductive Fl where
  | next | brk | cont
  | ret (d : D)
noncomputable def FlR (C : Cx) (h : Heap) (X : Addr → Prop) : Flow → Fl → Prop
  | .next, .next => True
  | .brk, .brk => True
  | .cont, .cont => True
  | .ret v, .ret d => Rd C h X v d
  | _, _ => False

inductive FlI (C : Cx) (h : Heap) (X : Addr → Prop) : Flow → Fl → Prop where
  | next : FlI C h X .next .next
  | brk : FlI C h X .brk .brk
  | cont : FlI C h X .cont .cont
  | ret {v : Value} {d : D} (r : Rd C h X v d) : FlI C h X (.ret v) (.ret d)
theorem FlR.i {C : Cx} {h : Heap} {X : Addr → Prop} {f : Flow} {fl : Fl} (r : FlR C h X f fl) : FlI C h X f fl := by
  cases f <;> cases fl <;> first | exact r.elim | constructor
  exact r

theorem FlR.nx {C : Cx} {h : Heap} {X : Addr → Prop} {f : Flow} (r : FlR C h X f .next) : f = .next := by
  cases f <;> first | rfl | exact r.elim
theorem FlR.rt {C : Cx} {h : Heap} {X : Addr → Prop} {f : Flow} {d : D} (r : FlR C h X f (.ret d)) : ∃ v, f = .ret v ∧ Rd C h X v d := by
  cases f <;> first | exact ⟨_, rfl, r⟩ | exact r.elim

structure Post (C : Cx) (env : Env) (X M : Addr → Prop) (s : Shared) (ρ' : Rho) (X' M' : Addr → Prop) (s' : Shared) : Prop where
  mod : Mod C env ρ' X' M' s'.heap
  kq : Kq C M s.heap s'.heap
  ok : Ok C s'
  xx : ∀ a, X a → ¬ M a → X' a
  mm : ∀ a, M' a → M a ∨ s.heap.get? a = none
  xm : ∀ a, X' a → X a ∨ s.heap.get? a = none

noncomputable def Top (A : Around) (env : Env) : Prop := ∃ outer L, A.frames = some (env :: outer) ∧ env.frame = some L

inductive HtP (C : Cx) (env : Env) (X M : Addr → Prop) (s : Shared) (Q : Fl → Rho → Prop) (f : Flow) (s' : Shared) : Prop where
  | mk (fl : Fl) (ρ' : Rho) (X' M' : Addr → Prop) : Q fl ρ' → FlR C s'.heap X' f fl → Post C env X M s ρ' X' M' s' → HtP C env X M s Q f s'

noncomputable def Ht (C : Cx) (n : Lv) (sc : Sc) (ρ : Rho) (t : Env → Sem Flow) (Q : Fl → Rho → Prop) : Prop :=
  ∀ A env X M s, Sit C n A s → EnvIs C sc env → Mod C env ρ X M s.heap → Top A env →
    wpAny C.M A (t env) (fun f s' => HtP C env X M s Q f s') (fun _ _ => False) s
noncomputable abbrev Hs (C : Cx) (n : Lv) (sc : Sc) (ρ : Rho) (ss : List Stmt) (Q : Fl → Rho → Prop) : Prop := Ht C n sc ρ (execs ss) Q
noncomputable abbrev H1 (C : Cx) (n : Lv) (sc : Sc) (ρ : Rho) (st : Stmt) (Q : Fl → Rho → Prop) : Prop := Ht C n sc ρ (exec st) Q

section
variable {C : Cx} {n : Lv} {sc : Sc} {ρ : Rho} {env : Env} {X M : Addr → Prop} {s s' s'' : Shared}

theorem Post.refl (m : Mod C env ρ X M s.heap) (o : Ok C s) : Post C env X M s ρ X M s := ⟨m, .refl, o, fun _ q _ => q, fun _ q => .inl q, fun _ q => .inl q⟩
theorem Post.dead {ρ' : Rho} {X' M' : Addr → Prop} (m : Mod C env ρ X M s.heap) (p : Post C env X M s ρ' X' M' s') {a : Addr} (e : s'.heap.get? a = none) : s.heap.get? a = none := by
  cases e0 : s.heap.get? a with
  | none => rfl
  | some o =>
    refine ex1_1 (p.kq.live (fun a o hm e => by refine ex0_2 (m.alive a hm) fun _ zq1 => ?_; refine ex1_2 zq1 fun o' e' nf => ?_; try clear zq1; obtain rfl := is_some e e'; exact nf) p.ok.t e0) fun o' e' => ?_
    exact no_some e e'
theorem Post.trans {ρ' ρ'' : Rho} {X' M' X'' M'' : Addr → Prop} (m : Mod C env ρ X M s.heap) (p : Post C env X M s ρ' X' M' s') (q : Post C env X' M' s' ρ'' X'' M'' s'') : Post C env X M s ρ'' X'' M'' s'' where
  mod := q.mod
  kq := p.kq.trans' q.kq fun a o e z => (p.mm a z).elim id fun e' => by rw [e] at e'; cases e'
  ok := q.ok
  xx a hx hm := q.xx a (p.xx a hx hm) fun z => (p.mm a z).elim hm fun e => by refine ex1_1 (m.live a hx) fun o e' => ?_; exact no_some e e'
  mm a z := (q.mm a z).elim (p.mm a) fun e => .inr (p.dead m e)
  xm a z := (q.xm a z).elim (p.xm a) fun e => .inr (p.dead m e)

theorem Hs_nil {Q : Fl → Rho → Prop} (h : Q .next ρ) : Hs C n sc ρ [] Q := fun A env X M s S _ m tp => wpAny_execs_nil ⟨.next, ρ, X, M, h, trivial, .refl m S.ok⟩

theorem Ht.mono {t : Env → Sem Flow} {Q Q' : Fl → Rho → Prop} (h : Ht C n sc ρ t Q) (hq : ∀ fl ρ', Q fl ρ' → Q' fl ρ') : Ht C n sc ρ t Q' := fun A env X M s S e m tp =>
  wpAny_mono (h A env X M s S e m tp) (fun f s' ⟨fl, ρ', X', M', q, r, p⟩ => ⟨fl, ρ', X', M', hq _ _ q, r, p⟩) fun _ _ x => x

theorem Hs_cons {st : Stmt} {rest : List Stmt} {Q : Fl → Rho → Prop} (h : H1 C n sc ρ st (fun fl ρ' => match fl with | .next => Hs C n sc ρ' rest Q | fl => Q fl ρ')) : Hs C n sc ρ (st :: rest) Q := by
  intro A env X M s S e m tp
  refine wpAny_execs_cons (wpAny_mono (h A env X M s S e m tp) (fun f s' hq => ?_) fun _ _ x => x)
  obtain ⟨fl, ρ', X', M', q, r, p⟩ := hq
  cases r.i
  · exact wpAny_mono (q A env X' M' s' (S.step p.kq p.ok fun a z => (m.alive a z).2) e p.mod tp) (fun f s'' ⟨fl, ρ'', X'', M'', q', r', p'⟩ => ⟨fl, ρ'', X'', M'', q', r', p.trans m p'⟩) fun _ _ x => x
  · exact ⟨.brk, ρ', X', M', q, r, p⟩
  · exact ⟨.cont, ρ', X', M', q, r, p⟩
  · exact ⟨.ret _, ρ', X', M', q, r, p⟩
end

end Mine
namespace Mine

noncomputable def Xl (X : Addr → Prop) (h : Heap) : Prop := ∀ a, X a → ∃ o, h.get? a = some o

section
variable {C : Cx} {s s' : Shared} {X M : Addr → Prop} {h h' : Heap}
theorem Ok.tok {t : Nat} (o : Ok C s) : Ok C { s with toks := t } := ⟨o.k, o.t, o.g, o.o⟩
theorem Nx.tok {t : Nat} (o : Ok C s) : Nx C s { s with toks := t } := ⟨Kq.refl, o.tok⟩
theorem TabOK.keeps (T : TabOK C h) (k : ∀ b o, h.get? b = some o → h'.get? b = some o) : TabOK C h' := fun P hP => by
  refine ex1_3 (T P hP) fun ps e t q => ?_
  exact ⟨ps, k _ _ e, t, fun pos cv hc => (q pos cv hc).keeps k⟩
theorem Ok.keeps {t : Nat} (o : Ok C s) (k : ∀ b o, s.heap.get? b = some o → h'.get? b = some o) : Ok C { s with heap := h', toks := t } :=
  ⟨o.k.trans (Kq.keeps k), o.t.keeps k, o.g, o.o⟩
theorem Nx.keeps {t : Nat} (o : Ok C s) (k : ∀ b o, s.heap.get? b = some o → h'.get? b = some o) : Nx C s { s with heap := h', toks := t } := ⟨Kq.keeps k, o.keeps k⟩
theorem Nx.keeps' (o : Ok C s) (k : ∀ b o, s.heap.get? b = some o → h'.get? b = some o) : Nx C s { s with heap := h' } := Nx.keeps o k
theorem Rd.keeps (k : ∀ b o, h.get? b = some o → h'.get? b = some o) (T : TabOK C h) {v : Value} {d : D} (r : Rd C h X v d) : Rd C h' X v d := r.keep (Kq.keeps (M := fun _ => False) k) (fun _ q => q.elim) T
theorem RdL.keeps (k : ∀ b o, h.get? b = some o → h'.get? b = some o) (T : TabOK C h) {v : List Value} {d : List D} (r : RdL C h X v d) : RdL C h' X v d := r.keep (Kq.keeps (M := fun _ => False) k) (fun _ q => q.elim) T
theorem Rd.nx (n : Nx C s s') (o : Ok C s) {v : Value} {d : D} (r : Rd C s.heap X v d) : Rd C s'.heap X v d := r.keep n.k (fun _ q => q.elim) o.t
theorem RdL.nx (n : Nx C s s') (o : Ok C s) {v : List Value} {d : List D} (r : RdL C s.heap X v d) : RdL C s'.heap X v d := r.keep n.k (fun _ q => q.elim) o.t
theorem Mod.nx {env : Env} {ρ : Rho} (m : Mod C env ρ X M s.heap) (n : Nx C s s') (o : Ok C s) : Mod C env ρ X M s'.heap := m.keep n.k o.t n.ok.t
theorem Xl.nx (x : Xl X s.heap) (n : Nx C s s') : Xl X s'.heap := fun a q => let ⟨_, e⟩ := x a q; n.k.live (fun _ _ q => q.elim) n.ok.t e
theorem Xl.keeps (x : Xl X h) (k : ∀ b o, h.get? b = some o → h'.get? b = some o) : Xl X h' := fun a q => let ⟨_, e⟩ := x a q; ⟨_, k _ _ e⟩
theorem Xl.fresh (x : Xl X h) : ¬ X h.objs.size := fun q => let ⟨_, e⟩ := x _ q; absurd (Heap.lt_size e) (Nat.lt_irrefl _)
theorem Mod.xl {env : Env} {ρ : Rho} (m : Mod C env ρ X M h) : Xl X h := m.live
theorem push_keeps (o : Obj) : ∀ b x, h.get? b = some x → (h.push o).get? b = some x := fun _ _ e => Heap.get?_push_of_some _ e
end

theorem wp_false {α : Type} {M : Model} {A : Around} {t : Sem α} {Q Q' : α → Shared → Prop} {E : Value → Shared → Prop} {s : Shared}
    (h : wpAny M A t Q (fun _ _ => False) s) (q : ∀ a s', Q a s' → Q' a s') : wpAny M A t Q' E s := wpAny_mono h q fun _ _ x => x.elim

noncomputable def Op2 (C : Cx) (n : Lv) (t : Value → Value → Sem Value) (d₁ d₂ d : D) : Prop :=
  ∀ A X s v₁ v₂, Sit C n A s → Xl X s.heap → Rd C s.heap X v₁ d₁ → Rd C s.heap X v₂ d₂ → wpAny C.M A (t v₁ v₂) (fun v s' => Nx C s s' ∧ Rd C s'.heap X v d) (fun _ _ => False) s
noncomputable def Truth (C : Cx) (n : Lv) (d : D) (b : Bool) : Prop :=
  ∀ A X s v, Sit C n A s → Rd C s.heap X v d → wpAny C.M A (truthy v) (fun r s' => Nx C s s' ∧ r = b) (fun _ _ => False) s

section
variable {C : Cx} {n : Lv} {sc : Sc} {ρ : Rho}

theorem Ev_none {k pos} : Ev C n sc ρ (.Constant .none k pos) .none := fun A env X M s S e m => wpAny_pure ⟨.refl S.ok, .none⟩
theorem Ev_bool {b k pos} : Ev C n sc ρ (.Constant (.bool b) k pos) (.bool b) := fun A env X M s S e m => wpAny_pure ⟨.refl S.ok, .bool b⟩
theorem Ev_int {i k pos} : Ev C n sc ρ (.Constant (.int i) k pos) (.int i) := fun A env X M s S e m => wpAny_Constant_int ⟨.tok S.ok, .int i _⟩
theorem Ev_bytes {b k pos} : Ev C n sc ρ (.Constant (.bytes b) k pos) (.byt b.toArray) := fun A env X M s S e m => Constant_bytes ⟨.tok S.ok, .byt _ _⟩

theorem wpAny_look {env : Env} {x : Str} {v : Value} {A : Around} {s : Shared} {Q : Value → Shared → Prop} {E : Value → Shared → Prop} (hk : env.scope.kind = .function) (l : Look s.heap env x v) (h : Q v s)
    (hn : (x == ("__classdict__" : Str)) = false) : wpAny C.M A (loadName env x) Q E s := by
  rcases l with ⟨q1, m, q2, q3⟩ | ⟨q1 | q1, c, q2, q3⟩
  · exact wpAny_loadName_local hk q1 q2 q3 h
  · exact wpAny_loadName_cell hk q1 q2 ⟨_, q3, rfl⟩ h
  · exact wpAny_loadName_free hk q1 q2 ⟨_, q3, rfl⟩ h hn

theorem look_of {d : D} {x : Str} {env : Env} {X M : Addr → Prop} {h : Heap} (m : Mod C env ρ X M h) (hv : ρ.get x = .val d ∨ ρ.get x = .frz d ∨ ρ.get x = .ext d) : ∃ v, Look h env x v ∧ Rd C h X v d := by
  refine ex1_2 m.vars fun own q _ => ?_
  have q := q x
  rcases hv with hv | hv | hv <;> rw [hv] at q <;> exact q.2

theorem Ev_name' {x pos d} (hv : ρ.get x = .val d ∨ ρ.get x = .frz d ∨ ρ.get x = .ext d) (hd : (x == ("__debug__" : Str)) = false) (hn : (x == ("__classdict__" : Str)) = false) : Ev C n sc ρ (.Name x pos) d := fun A env X M s S e m => by
  refine ex1_2 (look_of m hv) fun v l r => ?_
  exact wpAny_Name (wpAny_look m.kind l ⟨.refl S.ok, r⟩ hn) hd
theorem Ev_name {x pos d} (hv : ρ.get x = .val d) (hd : (x == ("__debug__" : Str)) = false := by decide) (hn : (x == ("__classdict__" : Str)) = false := by decide) : Ev C n sc ρ (.Name x pos) d := Ev_name' (.inl hv) hd hn
theorem Ev_namef {x pos d} (hv : ρ.get x = .frz d) (hd : (x == ("__debug__" : Str)) = false := by decide) (hn : (x == ("__classdict__" : Str)) = false := by decide) : Ev C n sc ρ (.Name x pos) d := Ev_name' (.inr (.inl hv)) hd hn
theorem Ev_namee {x pos d} (hv : ρ.get x = .ext d) (hd : (x == ("__debug__" : Str)) = false := by decide) (hn : (x == ("__classdict__" : Str)) = false := by decide) : Ev C n sc ρ (.Name x pos) d := Ev_name' (.inr (.inr hv)) hd hn

theorem Ev_bin {l op r pos d₁ d₂ d} (h1 : Ev C n sc ρ l d₁) (h2 : Ev C n sc ρ r d₂) (h : Op2 C n (binaryOp op) d₁ d₂ d) : Ev C n sc ρ (.BinOp l op r pos) d := fun A env X M s S e m =>
  wpAny_BinOp (wp_false (h1 A env X M s S e m) fun v1 s1 zq1 => ex0_2 zq1 fun n1 r1 => wp_false (h2 A env X M s1 (S.next n1) e (m.nx n1 S.ok)) fun v2 s2 zq2 => ex0_2 zq2 fun n2 r2 =>
    wp_false (h A X s2 v1 v2 ((S.next n1).next n2) ((m.nx n1 S.ok).nx n2 n1.ok).xl (r1.nx n2 n1.ok) r2) fun v s3 zq3 => ex0_2 zq3 fun n3 r3 => ⟨(n1.trans n2).trans n3, r3⟩)
theorem Ev_cmp {l op r pos d₁ d₂ d} (h1 : Ev C n sc ρ l d₁) (h2 : Ev C n sc ρ r d₂) (h : Op2 C n (compareOp op) d₁ d₂ d) (hm : behindInMarks op r = false := by with_unfolding_all rfl) : Ev C n sc ρ (.Compare l [op] [r] pos) d := fun A env X M s S e m =>
  wpAny_Compare1 (hm := hm) (wp_false (h1 A env X M s S e m) fun v1 s1 zq4 => ex0_2 zq4 fun n1 r1 => wp_false (h2 A env X M s1 (S.next n1) e (m.nx n1 S.ok)) fun v2 s2 zq5 => ex0_2 zq5 fun n2 r2 =>
    wp_false (h A X s2 v1 v2 ((S.next n1).next n2) ((m.nx n1 S.ok).nx n2 n1.ok).xl (r1.nx n2 n1.ok) r2) fun v s3 zq6 => ex0_2 zq6 fun n3 r3 => ⟨(n1.trans n2).trans n3, r3⟩)
theorem Et_cmp {l op r pos d₁ d₂ b} (h1 : Ev C n sc ρ l d₁) (h2 : Ev C n sc ρ r d₂) (h : Op2 C n (compareOp op) d₁ d₂ (.bool b)) (hm : behindInMarks op r = false := by with_unfolding_all rfl) : Et C n sc ρ (.Compare l [op] [r] pos) b := fun A env X M s S e m =>
  wpAny_isTrue_Compare1 (hm := hm) (wp_false (h1 A env X M s S e m) fun v1 s1 zq7 => ex0_2 zq7 fun n1 r1 => wp_false (h2 A env X M s1 (S.next n1) e (m.nx n1 S.ok)) fun v2 s2 zq8 => ex0_2 zq8 fun n2 r2 =>
    wp_false (h A X s2 v1 v2 ((S.next n1).next n2) ((m.nx n1 S.ok).nx n2 n1.ok).xl (r1.nx n2 n1.ok) r2) fun v s3 zq9 => ex0_2 zq9 fun n3 r3 => by
      cases r3.i_bool
      exact wpAny_truthy_bool ⟨(n1.trans n2).trans n3, rfl⟩)

theorem isTrue_not_eq (x : Expr) (pos : Pos) (env : Env) (w : Sem Value) : isTrue (.UnaryOp .Not x pos) env w = (do return !(← isTrue x env (eval x env))) := rfl
theorem Et_not {x pos b} (h : Et C n sc ρ x b) : Et C n sc ρ (.UnaryOp .Not x pos) (!b) := fun A env X M s S e m => by
  rw [isTrue_not_eq]
  exact wpAny_bind (wp_false (h A env X M s S e m) fun r s' zq10 => ex0_2 zq10 fun n1 hr => wpAny_pure ⟨n1, by rw [hr]⟩)

theorem allTrue_cons_eq (op : BoolOp) (x : Expr) (rest : List Expr) (env : Env) : allTrue op (x :: rest) env = (do
    match op, ← isTrue x env (eval x env) with
    | .And, false => pure false
    | .Or, true => pure true
    | _, _ => allTrue op rest env) := rfl
noncomputable def Ea (C : Cx) (n : Lv) (sc : Sc) (ρ : Rho) (op : BoolOp) (es : List Expr) (b : Bool) : Prop :=
  ∀ A env X M s, Sit C n A s → EnvIs C sc env → Mod C env ρ X M s.heap → wpAny C.M A (allTrue op es env) (fun r s' => Nx C s s' ∧ r = b) (fun _ _ => False) s
theorem Ea_nil {op} : Ea C n sc ρ op [] (op == .And) := fun A env X M s S e m => wpAny_pure ⟨.refl S.ok, rfl⟩
theorem Ea_and_nil : Ea C n sc ρ .And [] true := Ea_nil
theorem Ea_or_nil : Ea C n sc ρ .Or [] false := Ea_nil
theorem Ea_and {x rest b c} (h : Et C n sc ρ x b) (h2 : b = true → Ea C n sc ρ .And rest c) : Ea C n sc ρ .And (x :: rest) (b && c) := fun A env X M s S e m => by
  rw [allTrue_cons_eq]
  refine wpAny_bind (wp_false (h A env X M s S e m) fun r s' zq11 => ex0_2 zq11 fun n1 hr => ?_)
  subst hr
  cases r with
  | false => exact wpAny_pure ⟨n1, rfl⟩
  | true => exact wp_false (h2 rfl A env X M s' (S.next n1) e (m.nx n1 S.ok)) fun r s2 zq12 => ex0_2 zq12 fun n2 hr => ⟨n1.trans n2, hr⟩
theorem Ea_or {x rest b c} (h : Et C n sc ρ x b) (h2 : b = false → Ea C n sc ρ .Or rest c) : Ea C n sc ρ .Or (x :: rest) (b || c) := fun A env X M s S e m => by
  rw [allTrue_cons_eq]
  refine wpAny_bind (wp_false (h A env X M s S e m) fun r s' zq13 => ex0_2 zq13 fun n1 hr => ?_)
  subst hr
  cases r with
  | true => exact wpAny_pure ⟨n1, rfl⟩
  | false => exact wp_false (h2 rfl A env X M s' (S.next n1) e (m.nx n1 S.ok)) fun r s2 zq14 => ex0_2 zq14 fun n2 hr => ⟨n1.trans n2, hr⟩
theorem Et_bool {op es pos b} (h : Ea C n sc ρ op es b) : Et C n sc ρ (.BoolOp op es pos) b := h

theorem Et_plain {e : Expr} {d : D} {b : Bool} (h : Ev C n sc ρ e d) (t : Truth C n d b) (he : ∀ env w, isTrue e env w = (do let v ← w; standAt e.pos; holding [v] (truthy v)) := by intro env w; rfl) : Et C n sc ρ e b := fun A env X M s S e m => by
  rw [he]
  exact wpAny_bind (wp_false (h A env X M s S e m) fun v s1 zq15 => ex0_2 zq15 fun n1 r1 => wpAny_bind (wpAny_standAt (wpAny_holding (wp_false (t A X s1 v (S.next n1) r1) fun r s2 zq16 => ex0_2 zq16 fun n2 hr => ⟨n1.trans n2, hr⟩))))

theorem Truth_bool {b} : Truth C n (.bool b) b := fun A X s v S r => by cases r.i_bool; exact wpAny_truthy_bool ⟨.refl S.ok, rfl⟩

theorem eval_IfExp_eq (t b o pos env) : eval (.IfExp t b o pos) env = (do if ← isTrue t env (eval t env) then eval b env else eval o env) := rfl
theorem Ev_if {t b o pos c d} (h : Et C n sc ρ t c) (h1 : c = true → Ev C n sc ρ b d) (h2 : c = false → Ev C n sc ρ o d) : Ev C n sc ρ (.IfExp t b o pos) d := fun A env X M s S e m => by
  rw [eval_IfExp_eq]
  refine wpAny_bind (wp_false (h A env X M s S e m) fun r s' zq17 => ex0_2 zq17 fun n1 hr => ?_)
  subst hr
  cases r with
  | true => exact wp_false (h1 rfl A env X M s' (S.next n1) e (m.nx n1 S.ok)) fun v s2 zq18 => ex0_2 zq18 fun n2 r2 => ⟨n1.trans n2, r2⟩
  | false => exact wp_false (h2 rfl A env X M s' (S.next n1) e (m.nx n1 S.ok)) fun v s2 zq19 => ex0_2 zq19 fun n2 r2 => ⟨n1.trans n2, r2⟩

theorem eval_Unary_eq (op x pos env) : eval (.UnaryOp op x pos) env = (do let v ← eval x env; standAt pos; holding [v] (unaryOp op v)) := rfl
theorem Ev_neg {x pos i} (h : Ev C n sc ρ x (.int i)) : Ev C n sc ρ (.UnaryOp .USub x pos) (.int (-i)) := fun A env X M s S e m => by
  rw [eval_Unary_eq]
  refine wpAny_bind (wp_false (h A env X M s S e m) fun v s1 zq20 => ex0_2 zq20 fun n1 r1 => wpAny_bind (wpAny_standAt (wpAny_holding ?_)))
  cases r1.i_int
  exact PyProof.Rows.neg_int ⟨n1.trans (.tok n1.ok), .int _ _⟩

section
variable {a b : Int}
theorem Op_add : Op2 C n (binaryOp .Add) (.int a) (.int b) (.int (a + b)) := fun A X s v1 v2 S _ r1 r2 => by cases r1.i_int; cases r2.i_int; exact PyProof.Rows.add_int ⟨.tok S.ok, .int _ _⟩
theorem Op_mul (hm : IntMulOk a b) : Op2 C n (binaryOp .Mult) (.int a) (.int b) (.int (a * b)) := fun A X s v1 v2 S _ r1 r2 => by cases r1.i_int; cases r2.i_int; exact PyProof.Rows.mul_int (hm := hm) ⟨.tok S.ok, .int _ _⟩
theorem fmod_pos (h : 0 < b) : a.fmod b = a % b := Int.fmod_eq_emod_of_nonneg _ (by lia)
theorem fdiv_pos (h : 0 < b) : a.fdiv b = a / b := Int.fdiv_eq_ediv_of_nonneg _ (by lia)
theorem Op_mod (h : 0 < b) : Op2 C n (binaryOp .Mod) (.int a) (.int b) (.int (a % b)) := fun A X s v1 v2 S _ r1 r2 => by
  cases r1.i_int; cases r2.i_int; exact PyProof.Rows.mod_int' (by lia) (by rw [fmod_pos h]; exact ⟨.tok S.ok, .int _ _⟩)
theorem Op_div (h : 0 < b) (hb : b < 2 ^ 60) : Op2 C n (binaryOp .FloorDiv) (.int a) (.int b) (.int (a / b)) := fun A X s v1 v2 S _ r1 r2 => by
  cases r1.i_int; cases r2.i_int
  exact PyProof.Rows.floordiv_int (by omega) (by rw [fdiv_pos h]; exact ⟨.tok S.ok, .int _ _⟩) (.inl (by
    unfold Builtin.divisionGoesByPylong
    have : ¬ ((if (b == 0) = true then 0 else b.natAbs.log2 / 30 + 1) > 300) := by
      split
      · omega
      · have : b.natAbs.log2 < 60 := (Nat.log2_lt (by omega)).mpr (by omega)
        omega
    simp only [this, decide_false, Bool.false_and]))
theorem Op_pow (h0 : 0 ≤ b) (h1 : b ≤ 1000000) (ha : a.natAbs < 2 ^ 64) : Op2 C n (binaryOp .Pow) (.int a) (.int b) (.int (a ^ b.toNat)) := fun A X s v1 v2 S _ r1 r2 => by
  cases r1.i_int; cases r2.i_int; exact PyProof.Rows.pow_int_small h0 h1 ha ⟨.tok S.ok, .int _ _⟩
theorem Op_band : Op2 C n (binaryOp .BitAnd) (.int a) (.int b) (.int (Builtin.bitAnd a b)) := fun A X s v1 v2 S _ r1 r2 => by
  cases r1.i_int; cases r2.i_int; exact PyProof.Rows.and_int ⟨.tok S.ok, .int _ _⟩
theorem Op_bor : Op2 C n (binaryOp .BitOr) (.int a) (.int b) (.int (Builtin.bitOr a b)) := fun A X s v1 v2 S _ r1 r2 => by
  cases r1.i_int; cases r2.i_int; exact PyProof.Rows.or_int ⟨.tok S.ok, .int _ _⟩
theorem Op_lt : Op2 C n (compareOp .Lt) (.int a) (.int b) (.bool (decide (a < b))) := fun A X s v1 v2 S _ r1 r2 => by
  cases r1.i_int; cases r2.i_int; exact PyProof.Rows.lt_int ⟨.refl S.ok, .bool _⟩
theorem Op_gt : Op2 C n (compareOp .Gt) (.int a) (.int b) (.bool (decide (b < a))) := fun A X s v1 v2 S _ r1 r2 => by
  cases r1.i_int; cases r2.i_int; exact PyProof.Rows.gt_int ⟨.refl S.ok, .bool _⟩
theorem Op_ieq : Op2 C n (compareOp .Eq) (.int a) (.int b) (.bool (decide (a = b))) := fun A X s v1 v2 S _ r1 r2 => by
  cases r1.i_int; cases r2.i_int
  have e : decide (a = b) = (a == b) := by rw [Bool.eq_iff_iff, decide_eq_true_iff, beq_iff_eq]
  rw [e]
  exact SeqAt.RcAt.int_int a _ b _ _ _ _ _ ⟨.refl S.ok, .bool _⟩
theorem Op_ine : Op2 C n (compareOp .NotEq) (.int a) (.int b) (.bool (!decide (a = b))) := fun A X s v1 v2 S _ r1 r2 => by
  cases r1.i_int; cases r2.i_int
  have e : decide (a = b) = (a == b) := by rw [Bool.eq_iff_iff, decide_eq_true_iff, beq_iff_eq]
  rw [e]
  exact SeqAt.RcNeAt.int_int a _ b _ _ _ _ _ ⟨.refl S.ok, .bool _⟩
end
end

end Mine
namespace Mine

section
variable {C : Cx} {n : Lv} {sc : Sc} {ρ : Rho}

noncomputable def Eqv (C : Cx) (d₁ d₂ : D) (b : Bool) : Prop :=
  ∀ A s X v₁ v₂, A.units ≤ 9500 → Rd C s.heap X v₁ d₁ → Rd C s.heap X v₂ d₂ → SeqAt.EqAt A s v₁ v₂ b
noncomputable def Eqr (C : Cx) (d₁ d₂ : D) (b : Bool) : Prop :=
  ∀ A s X v₁ v₂, A.units ≤ 9300 → Rd C s.heap X v₁ d₁ → Rd C s.heap X v₂ d₂ → SeqAt.RcAt A s v₁ v₂ b
noncomputable def Ner (C : Cx) (d₁ d₂ : D) (b : Bool) : Prop :=
  ∀ A s X v₁ v₂, A.units ≤ 9300 → Rd C s.heap X v₁ d₁ → Rd C s.heap X v₂ d₂ → SeqAt.RcNeAt A s v₁ v₂ b

noncomputable def Eqx (C : Cx) (d₁ d₂ : D) (b : Bool) : Prop :=
  ∀ A s X v₁ v₂, A.units ≤ 9200 → Rd C s.heap X v₁ d₁ → Rd C s.heap X v₂ d₂ → SeqAt.EqAt A s v₁ v₂ b
theorem int_beq (a b : Int) : decide (a = b) = (a == b) := by rw [Bool.eq_iff_iff, decide_eq_true_iff, beq_iff_eq]
theorem Eqv_int {a b : Int} : Eqv C (.int a) (.int b) (decide (a = b)) := fun A s X v1 v2 _ r1 r2 => by
  cases r1.i_int; cases r2.i_int; rw [int_beq]; exact SeqAt.EqAt.int_int a _ b _
theorem Eqv_byt {a b : Array UInt8} : Eqv C (.byt a) (.byt b) (decide (a = b)) := fun A s X v1 v2 _ r1 r2 => by
  cases r1.i_byt; cases r2.i_byt; exact EqAt_bytes _ _ _ _
theorem Eqr_byt {a b : Array UInt8} : Eqr C (.byt a) (.byt b) (decide (a = b)) := fun A s X v1 v2 _ r1 r2 => by
  cases r1.i_byt; cases r2.i_byt; exact RcAt_bytes _ _ _ _

theorem isTup {h : Heap} {a : Addr} {vs : List Value} {k : Nat} (e : h.get? a = some (seqO "tuple" vs k)) : h.IsTuple a vs.toArray := ⟨_, e, rfl, k, rfl⟩
theorem isLst {h : Heap} {a : Addr} {vs : List Value} {k : Nat} (e : h.get? a = some (seqO "list" vs k)) : h.IsList a vs.toArray := ⟨_, e, rfl, k, rfl⟩

theorem RdL.two {h : Heap} {X : Addr → Prop} {vs : List Value} {d₁ d₂ : D} (r : RdL C h X vs [d₁, d₂]) : ∃ v₁ v₂, vs = [v₁, v₂] ∧ Rd C h X v₁ d₁ ∧ Rd C h X v₂ d₂ := by
  cases r.i_cons with
  | mk a r1 => cases r1.i_cons with
    | mk b r2 => cases r2.i_nil; exact ⟨_, _, rfl, a, b⟩
theorem in1_units (A : Around) : A.in1.units = A.units + 1 := rfl

theorem Eqv_pair {a b a' b' : D} {p q : Bool} (h1 : Eqv C a a' p) (h2 : Eqv C b b' q) : ∀ A s X v₁ v₂, A.units ≤ 9400 → Rd C s.heap X v₁ (.tup [a, b]) → Rd C s.heap X v₂ (.tup [a', b']) → (v₁ = v₂ → p = true ∧ q = true) → SeqAt.EqAt A s v₁ v₂ (p && q) := fun A s X v1 v2 hu r1 r2 hs => by
  cases r1.i_tup with
  | @mk l1 vs1 n1 x1 e1 z1 rl1 =>
  cases r2.i_tup with
  | @mk l2 vs2 n2 x2 e2 z2 rl2 =>
    by_cases hne : l1 = l2
    · refine ex0_2 (hs (by rw [hne])) fun hp hq => ?_
      subst hne; rw [hp, hq]; exact SeqAt.EqAt.same _
    · refine SeqAt.EqAt.of_refs hne ?_
      refine ex2_3 rl1.two fun y1 z1 zq1 ra rb => ?_; subst zq1
      refine ex2_3 rl2.two fun y2 z2 zq2 ra' rb' => ?_; subst zq2
      have := SeqAt.RcAt.tuples (A := A) (s := s) (e := fun j => if j = 0 then p else q) (isTup e1) (isTup e2) (show A.units < 9900 by lia) (fun j j1 j2 => by
        match j, j1 with
        | 0, _ => exact h1 A.in1 s X _ _ (by rw [in1_units]; lia) ra ra'
        | 1, _ => exact h2 A.in1 s X _ _ (by rw [in1_units]; lia) rb rb'
        | (j + 2), j1 => exact absurd j1 (by simp))
      revert this
      cases p <;> cases q <;> exact id

theorem Eqx_item {i j : Int} {b c : Array UInt8} : Eqx C (.tup [.int i, .byt b]) (.tup [.int j, .byt c]) (decide (i = j) && decide (b = c)) := fun A s X v1 v2 hu r1 r2 => by
  refine Eqv_pair Eqv_int Eqv_byt A s X v1 v2 (by lia) r1 r2 fun e => ?_
  subst e
  cases r1.i_tup with
  | @mk l1 vs1 n1 x1 e1 z1 rl1 =>
  cases r2.i_tup with
  | @mk l2 vs2 n2 x2 e2 z2 rl2 =>
    have e3 := e1.symm.trans e2; injection e3 with e3; injection e3 with _ _ e3; injection e3 with e3; have e3 : vs1 = vs2 := by simpa using e3
    subst e3
    refine ex2_3 rl1.two fun y1 z1 e ra rb => ?_
    refine ex2_3 rl2.two fun y2 z2 e' ra' rb' => ?_
    rw [e] at e'; injection e' with e1 e2; injection e2 with e2; subst e1; subst e2
    cases ra.i_int; cases ra'.i_int; cases rb.i_byt; cases rb'.i_byt
    simp
theorem RdL.atm {h : Heap} {X : Addr → Prop} {α : Type} {f : α → D} {l : List α} {vs : List Value} {j : Nat} (r : RdL C h X vs (l.map f)) (hj : j < vs.length) : ∃ x, l[j]? = some x ∧ Rd C h X vs[j] (f x) :=
  let ⟨_, e, q⟩ := r.get (List.getElem?_eq_getElem hj)
  let ⟨x, ex, hx⟩ := Option.map_eq_some_iff.mp (List.getElem?_map.symm.trans e)
  ⟨x, ex, hx ▸ q⟩

theorem all_range_eq {l1 l2 : List (Array UInt8)} (h : l1.length = l2.length) : (List.range l1.length).all (fun j => decide (l1[j]? = l2[j]?)) = decide (l1 = l2) := by
  rw [Bool.eq_iff_iff, decide_eq_true_iff, List.all_eq_true]
  constructor
  · intro q
    apply List.ext_getElem? 
    intro j
    by_cases hj : j < l1.length
    · exact of_decide_eq_true (q j (List.mem_range.mpr hj))
    · rw [List.getElem?_eq_none (by lia), List.getElem?_eq_none (by lia)]
  · rintro rfl x _; simp

theorem Eqr_bytl {l1 l2 : List (Array UInt8)} : Eqr C (.list (l1.map .byt)) (.list (l2.map .byt)) (decide (l1 = l2)) := fun A s X v1 v2 hu r1 r2 => by
  cases r1.i_list with
  | @mk a1 vs1 n1 x1 e1 z1 rl1 =>
  cases r2.i_list with
  | @mk a2 vs2 n2 x2 e2 z2 rl2 =>
    have L1 : vs1.length = l1.length := by simpa using rl1.length
    have L2 : vs2.length = l2.length := by simpa using rl2.length
    by_cases hl : l1.length = l2.length
    · have := SeqAt.RcAt.lists (A := A) (s := s) (e := fun j => decide (l1[j]? = l2[j]?)) (isLst e1) (isLst e2) (by simp [L1, L2, hl]) (show A.units < 9900 by lia) (fun j j1 j2 => by
        refine ex1_2 (rl1.atm (j := j) (by simpa using j1)) fun x hx ra => ?_
        refine ex1_2 (rl2.atm (j := j) (by simpa using j2)) fun y hy rb => ?_
        have := Eqv_byt A.in1 s X _ _ (by rw [in1_units]; lia) ra rb
        rw [hx, hy]; simpa using this)
      simp only [List.size_toArray, L1] at this
      rw [all_range_eq hl] at this
      exact this
    · have : decide (l1 = l2) = false := decide_eq_false fun e => hl (by rw [e])
      rw [this]
      exact SeqAt.RcAt.lists_lengths (isLst e1) (isLst e2) (by simp [L1, L2, hl]) (show A.units < 9900 by lia)

theorem Ner_bytl {l1 l2 : List (Array UInt8)} : Ner C (.list (l1.map .byt)) (.list (l2.map .byt)) (!decide (l1 = l2)) := fun A s X v1 v2 hu r1 r2 => by
  cases r1.i_list with
  | @mk a1 vs1 n1 x1 e1 z1 rl1 =>
  cases r2.i_list with
  | @mk a2 vs2 n2 x2 e2 z2 rl2 =>
    have L1 : vs1.length = l1.length := by simpa using rl1.length
    have L2 : vs2.length = l2.length := by simpa using rl2.length
    by_cases hl : l1.length = l2.length
    · have := SeqAt.RcNeAt.lists (A := A) (s := s) (e := fun j => decide (l1[j]? = l2[j]?)) (isLst e1) (isLst e2) (by simp [L1, L2, hl]) (show A.units < 9900 by lia) (fun j j1 j2 => by
        refine ex1_2 (rl1.atm (j := j) (by simpa using j1)) fun x hx ra => ?_
        refine ex1_2 (rl2.atm (j := j) (by simpa using j2)) fun y hy rb => ?_
        have := Eqv_byt A.in1 s X _ _ (by rw [in1_units]; lia) ra rb
        rw [hx, hy]; simpa using this)
      simp only [List.size_toArray, L1] at this
      rw [all_range_eq hl] at this
      exact this
    · have : decide (l1 = l2) = false := decide_eq_false fun e => hl (by rw [e])
      rw [this]
      exact SeqAt.RcNeAt.lists_lengths (isLst e1) (isLst e2) (by simp [L1, L2, hl]) (show A.units < 9900 by lia)

theorem Op_eq {d₁ d₂ b} (h : Eqr C d₁ d₂ b) : Op2 C n (compareOp .Eq) d₁ d₂ (.bool b) := fun A X s v1 v2 S _ r1 r2 =>
  h A s X v1 v2 (by have := S.un; lia) r1 r2 _ _ _ _ ⟨.refl S.ok, .bool _⟩
theorem Op_ne {d₁ d₂ b} (h : Ner C d₁ d₂ b) : Op2 C n (compareOp .NotEq) d₁ d₂ (.bool b) := fun A X s v1 v2 S _ r1 r2 =>
  h A s X v1 v2 (by have := S.un; lia) r1 r2 _ _ _ _ ⟨.refl S.ok, .bool _⟩

theorem Eqv.x {d₁ d₂ b} (h : Eqv C d₁ d₂ b) : Eqx C d₁ d₂ b := fun A s X v₁ v₂ hu => h A s X v₁ v₂ (by lia)

open Classical in
theorem in_any {h : Heap} {X : Addr → Prop} {l : List D} {vs : List Value} {f : D → Bool} (r : RdL C h X vs l) :
    vs.any (fun y => decide (∃ d ∈ l, Rd C h X y d ∧ f d = true)) = l.any f := by
  rw [Bool.eq_iff_iff, List.any_eq_true, List.any_eq_true]
  constructor
  · intro zi1; refine ex1_2 zi1 fun y hy q => ?_; try clear zi1
    refine ex1_3 (of_decide_eq_true q) fun d hd _ hf => ?_
    exact ⟨d, hd, hf⟩
  · intro zi2; refine ex1_2 zi2 fun d hd hf => ?_; try clear zi2
    refine ex1_1 (List.getElem?_of_mem hd) fun j hj => ?_
    refine ex1_2 (RdL.get' r hj) fun v hv rv => ?_
    exact ⟨v, List.mem_of_getElem? hv, decide_eq_true ⟨d, hd, rv, hf⟩⟩

open Classical in
theorem Op_in {d : D} {l : List D} {f : D → Bool} (h : ∀ y ∈ l, Eqx C y d (f y)) : Op2 C n (compareOp .In) d (.list l) (.bool (l.any f)) := fun A X s v1 v2 S _ r1 r2 => by
  cases r2.i_list with
  | @mk a vs k x e z rl =>
    refine SeqAt.in_listAt (fun y => decide (∃ d ∈ l, Rd C s.heap X y d ∧ f d = true)) (isLst e) (fun y hy => ?_) ?_
    · refine ex1_2 (rl.mem (by simpa using hy)) fun d0 h0 q0 => ?_
      have hu : A.in1.units ≤ 9200 := by rw [in1_units]; have := S.un; lia
      by_cases hh : ∃ d ∈ l, Rd C s.heap X y d ∧ f d = true
      · refine ex1_3 hh fun d1 h1 q1 f1 => ?_; try clear hh
        rw [decide_eq_true ⟨d1, h1, q1, f1⟩, ← f1]; exact h d1 h1 A.in1 s X _ _ hu q1 r1
      · have : f d0 = false := by cases hf : f d0 with | false => rfl | true => exact absurd ⟨d0, h0, q0, hf⟩ hh
        rw [decide_eq_false hh, ← this]; exact h d0 h0 A.in1 s X _ _ hu q0 r1
    · rw [List.any_toArray, in_any rl]; exact ⟨.refl S.ok, .bool _⟩
open Classical in
theorem Op_notin {d : D} {l : List D} {f : D → Bool} (h : ∀ y ∈ l, Eqx C y d (f y)) : Op2 C n (compareOp .NotIn) d (.list l) (.bool (!l.any f)) := fun A X s v1 v2 S _ r1 r2 => by
  cases r2.i_list with
  | @mk a vs k x e z rl =>
    refine SeqAt.notIn_listAt (fun y => decide (∃ d ∈ l, Rd C s.heap X y d ∧ f d = true)) (isLst e) (fun y hy => ?_) ?_
    · refine ex1_2 (rl.mem (by simpa using hy)) fun d0 h0 q0 => ?_
      have hu : A.in1.units ≤ 9200 := by rw [in1_units]; have := S.un; lia
      by_cases hh : ∃ d ∈ l, Rd C s.heap X y d ∧ f d = true
      · refine ex1_3 hh fun d1 h1 q1 f1 => ?_; try clear hh
        rw [decide_eq_true ⟨d1, h1, q1, f1⟩, ← f1]; exact h d1 h1 A.in1 s X _ _ hu q1 r1
      · have : f d0 = false := by cases hf : f d0 with | false => rfl | true => exact absurd ⟨d0, h0, q0, hf⟩ hh
        rw [decide_eq_false hh, ← this]; exact h d0 h0 A.in1 s X _ _ hu q0 r1
    · rw [List.any_toArray, in_any rl]; exact ⟨.refl S.ok, .bool _⟩

theorem big_line {k : Nat} (h : k ≤ BIG) : k ≤ sizeLine := by
  have : BIG ≤ sizeLine := by decide
  lia
theorem Rd_newList {h : Heap} {X : Addr → Prop} {vs : List Value} {ds : List D} (T : TabOK C h) (x : Xl X h) (r : RdL C h X vs ds) (z : vs.length ≤ BIG) : Rd C (h.push { cls := .type "list", data := .seq vs.toArray }) X (.ref h.objs.size) (.list ds) :=
  .list x.fresh (PySem.Heap.get?_push_size _ rfl) z (r.keeps (push_keeps _) T)
theorem Rd_newTuple {h : Heap} {X : Addr → Prop} {vs : List Value} {ds : List D} (T : TabOK C h) (x : Xl X h) (r : RdL C h X vs ds) (z : vs.length ≤ BIG) : Rd C (h.push { cls := .type "tuple", data := .seq vs.toArray }) X (.ref h.objs.size) (.tup ds) :=
  .tup x.fresh (PySem.Heap.get?_push_size _ rfl) z (r.keeps (push_keeps _) T)

theorem El_nil : El C n sc ρ [] [] := fun A env X M s pos S e m => args_nil ⟨.refl S.ok, .nil⟩
theorem El_cons {x rest d ds} (h : Ev C n sc ρ x d) (h2 : El C n sc ρ rest ds) (he : ∀ env, starEach (x :: rest) env = (false, eval x env) :: starEach rest env := by intro env; rfl) : El C n sc ρ (x :: rest) (d :: ds) := fun A env X M s pos S e m =>
  args_cons (he := he env) (wp_false (h A env X M s S e m) fun v s1 zq3 => ex0_2 zq3 fun n1 r1 => wp_false (h2 A env X M s1 pos (S.next n1) e (m.nx n1 S.ok)) fun vs s2 zq4 => ex0_2 zq4 fun n2 r2 => ⟨n1.trans n2, .cons (r1.nx n2 n1.ok) r2⟩)

theorem Ev_list {es pos ds} (h : El C n sc ρ es ds) (z : ds.length ≤ BIG := by exact Nat.le_of_ble_eq_true rfl) : Ev C n sc ρ (.List es pos) (.list ds) := fun A env X M s S e m =>
  List_ (wp_false (h A env X M s pos S e m) fun vs s1 zq5 => ex0_2 zq5 fun n1 r1 => wpAny_newList ⟨n1.trans (.keeps' n1.ok (push_keeps _)), Rd_newList n1.ok.t (m.nx n1 S.ok).xl r1 (by rw [r1.length]; exact z)⟩ (big_line (by rw [r1.length]; exact z)))
theorem Ev_tuple {es k pos ds} (h : El C n sc ρ es ds) (z : ds.length ≤ BIG := by exact Nat.le_of_ble_eq_true rfl) : Ev C n sc ρ (.Tuple es k pos) (.tup ds) := fun A env X M s S e m =>
  Tuple_ (wp_false (h A env X M s pos S e m) fun vs s1 zq6 => ex0_2 zq6 fun n1 r1 => wpAny_newTuple ⟨n1.trans (.keeps' n1.ok (push_keeps _)), Rd_newTuple n1.ok.t (m.nx n1 S.ok).xl r1 (by rw [r1.length]; exact z)⟩ (big_line (by rw [r1.length]; exact z)))
end
end Mine
namespace Mine

section
variable {C : Cx} {n : Lv} {sc : Sc} {ρ : Rho}


theorem wpAny_sub {A : Around} {E : Value → Shared → Prop} {s : Shared} {value slice : Expr} {o i : Value} {T id : String} {ops : List Value} {Q : Value → Shared → Prop} (hT : s.TypeIs o T)
    (hl : typeLookup (.type T) "__getitem__" = pure (some (.builtin id))) (h : wpAny C.M A (getItem o i) Q E s)
    (hs : subscripted slice false o i = operate ops (getItem o i)) : wpAny C.M A (subscriptTail value slice o i) Q E s :=
  kba_turn (value' := .Name "x" ⟨0, 0, 0, 0⟩) (fun _ => rfl) (subscriptTail_ops hT hl h hs fun _ => rfl)

theorem Ev_sub_list {v i pos l k d} (h1 : Ev C n sc ρ v (.list l)) (h2 : Ev C n sc ρ i (.int k)) (h0 : 0 ≤ k) (hx : l[k.toNat]? = some d)
    (hs : ∀ o i', subscripted i false o i' = operate [o, i'] (getItem o i') := by intro _ _; rfl) : Ev C n sc ρ (.Subscript v i pos) d := fun A env X M s S e m =>
  Subscript_ (wp_false (h1 A env X M s S e m) fun o s1 zq3 => ex0_2 zq3 fun n1 r1 => wp_false (h2 A env X M s1 (S.next n1) e (m.nx n1 S.ok)) fun iv s2 zq4 => ex0_2 zq4 fun n2 r2 => by
    have r1 := r1.nx n2 n1.ok
    cases r2.i_int
    cases r1.i_list with
    | @mk a vs _ xa ea za rl =>
      refine ex1_2 (RdL.get' rl hx) fun v hv rv => ?_
      refine wpAny_sub (isLst ea).typeIs F.slot_list_getitem.lookup (wpAny_getItem_list (isLst ea) h0 ?_ (x := v) (by simpa using hv) ⟨n1.trans n2, rv⟩) (hs _ _)
      have : k.toNat < vs.length := by
        rcases Nat.lt_or_ge k.toNat vs.length with q | q
        · exact q
        · exact no_some (List.getElem?_eq_none q) hv
      have : BIG = 1048576 := rfl
      lia)

theorem RdE.keys {h : Heap} {X : Addr → Prop} {es : List DictEntry} {kvs : List (Array UInt8 × D)} (r : RdE C h X es kvs) : KeysOf (bytesKind C.prog C.w) es.toArray :=
  r.ind (P := fun es _ => KeysOf (bytesKind C.prog C.w) es.toArray) (fun e he => by simp at he) fun {k t _ _ _ _} a _ ih e he => by
    rcases List.mem_cons.mp (List.mem_toArray.mp he) with rfl | he
    · exact ⟨k, isB_self k t, rfl⟩
    · exact ih e (List.mem_toArray.mpr he)
theorem RdE.find {h : Heap} {X : Addr → Prop} {k : Array UInt8} {es : List DictEntry} {kvs : List (Array UInt8 × D)} (r : RdE C h X es kvs) :
    (kvs.lookup k = none ∧ es.find? (fun e => isB k e.key) = none) ∨ ∃ d e, kvs.lookup k = some d ∧ es.find? (fun e => isB k e.key) = some e ∧ Rd C h X e.val d :=
  r.ind (P := fun es kvs => (kvs.lookup k = none ∧ es.find? (fun e => isB k e.key) = none) ∨ ∃ d e, kvs.lookup k = some d ∧ es.find? (fun e => isB k e.key) = some e ∧ Rd C h X e.val d) (.inl ⟨rfl, rfl⟩) fun {k' t v d es kvs} a _ ih => by
    by_cases e : k' = k
    · refine .inr ⟨d, ⟨hashB C.w k', .bytes k' t, v⟩, ?_, ?_, a⟩
      · rw [List.lookup_cons, beq_iff_eq.mpr e.symm]
      · exact List.find?_cons_of_pos (p := fun e : DictEntry => isB k e.key) (e ▸ isB_self k' t)
    · have e2 : isB k (Value.bytes k' t) = false := beq_eq_false_iff_ne.mpr e
      rw [List.lookup_cons, beq_eq_false_iff_ne.mpr fun q => e q.symm, List.find?_cons_of_neg (p := fun e : DictEntry => isB k e.key) (ne_true_of_eq_false e2)]
      exact ih
theorem findBy_list (es : List DictEntry) (k : Array UInt8) : findBy isB es.toArray k = (es.find? fun e => isB k e.key).map (·.val) := by
  unfold findBy; simp
theorem RdE.map {h : Heap} {X : Addr → Prop} {a : Addr} {es : List DictEntry} {j : Nat} {kvs : List (Array UInt8 × D)} (e : h.get? a = some (dictO es j)) (r : RdE C h X es kvs) :
    h.MapOf (bytesKind C.prog C.w) a (findBy isB es.toArray) := ⟨_, _, _, e, ⟨rfl, rfl, rfl⟩, rfl, r.keys, fun _ => rfl⟩

theorem Ev_sub_dict {v i pos kvs k d} (h1 : Ev C n sc ρ v (.dict kvs)) (h2 : Ev C n sc ρ i (.byt k)) (hx : kvs.lookup k = some d)
    (hs : ∀ o i', subscripted i false o i' = operate [o, i'] (getItem o i') := by intro _ _; rfl) : Ev C n sc ρ (.Subscript v i pos) d := fun A env X M s S e m =>
  Subscript_ (wp_false (h1 A env X M s S e m) fun o s1 zq5 => ex0_2 zq5 fun n1 r1 => wp_false (h2 A env X M s1 (S.next n1) e (m.nx n1 S.ok)) fun iv s2 zq6 => ex0_2 zq6 fun n2 r2 => by
    have r1 := r1.nx n2 n1.ok
    cases r2.i_byt with
    | mk t =>
    cases r1.i_dict with
    | @mk a es _ xa na ea za rl =>
      have M1 := rl.map ea
      rcases rl.find (k := k) with ⟨q, _⟩ | ⟨d', e', q1, q2, q3⟩
      · rw [hx] at q; cases q
      · obtain rfl := is_some hx q1
        exact wpAny_sub M1.typeIs F.slot_dict_getitem.lookup (wpAny_getItem_of (knd := bytesKind C.prog C.w) (k := k) (isB_self k t) M1 (v := e'.val) (by rw [findBy_list, q2]; rfl) ⟨(n1.trans n2).trans (.tok n2.ok), q3⟩) (hs _ _))

theorem Op_indict {kvs k} : Op2 C n (compareOp .In) (.byt k) (.dict kvs) (.bool (kvs.lookup k).isSome) := fun A X s v1 v2 S _ r1 r2 => by
  cases r1.i_byt with
  | mk t =>
  cases r2.i_dict with
  | @mk a es _ xa na ea za rl =>
    refine wpAny_in_of (knd := bytesKind C.prog C.w) (k := k) (isB_self k t) na (rl.map ea) ⟨.tok S.ok, ?_⟩
    rcases rl.find (k := k) with ⟨q, q'⟩ | ⟨d', e', q1, q2, q3⟩
    · rw [findBy_list, q, q']; exact .bool _
    · rw [findBy_list, q1, q2]; exact .bool _

theorem Rd_newListAt {h : Heap} {X : Addr → Prop} {vs : List Value} {ds : List D} {a : Addr} (ha : a = h.objs.size) (T : TabOK C h) (x : Xl X h) (r : RdL C h X vs ds) (z : vs.length ≤ BIG) : Rd C (h.push { cls := .type "list", data := .seq vs.toArray }) X (.ref a) (.list ds) := by
  subst ha; exact Rd_newList T x r z
theorem Ev_upto {v : Expr} {j k : Nat} {p p' pos : Pos} {l : List D} (h1 : Ev C n sc ρ v (.list l)) (ht : ∀ o r, letTemporaryGo v o r = pure () := by intro _ _; rfl) : Ev C n sc ρ (.Subscript v (.Slice none (some (.Constant (.int (Int.ofNat j)) k p)) none p') pos) (.list (l.take j)) := fun A env X M s S e m => by
  refine wpAny_Subscript_list_slice (ht := ht) (wp_false (h1 A env X M s S e m) fun o s1 zq7 => ex0_2 zq7 fun n1 r1 => by
    rw [evalPart_none]
    refine wpAny_pure ?_
    rw [evalPart_some]
    refine wpAny_Constant_int ?_
    cases r1.i_list with
    | @mk a vs _ xa ea za rl =>
      refine ⟨a, vs.toArray, none, some (j : Int), rfl, isLst ea, by rw [List.size_toArray]; exact big_line za, .none, .int _ _, n1.trans (Nx.keeps n1.ok fun b o e => push_keeps _ _ _ (push_keeps _ _ _ e)), ?_⟩
      rw [slicePick_upto']
      have T1 := n1.ok.t.keeps (push_keeps (h := s1.heap) { cls := .type "slice", data := .fields #[.none, .int (Int.ofNat j) s1.toks, .none] })
      exact Rd_newListAt (by simp [Heap.push]) T1 ((m.nx n1 S.ok).xl.keeps (push_keeps _)) ((rl.keeps (push_keeps _) n1.ok.t).take j) (by simp; lia))
theorem Ev_from {v : Expr} {j k : Nat} {p p' pos : Pos} {l : List D} (h1 : Ev C n sc ρ v (.list l)) (ht : ∀ o r, letTemporaryGo v o r = pure () := by intro _ _; rfl) : Ev C n sc ρ (.Subscript v (.Slice (some (.Constant (.int (Int.ofNat j)) k p)) none none p') pos) (.list (l.drop j)) := fun A env X M s S e m => by
  refine wpAny_Subscript_list_slice (ht := ht) (wp_false (h1 A env X M s S e m) fun o s1 zq8 => ex0_2 zq8 fun n1 r1 => by
    rw [evalPart_some]
    refine wpAny_Constant_int ?_
    rw [evalPart_none]
    refine wpAny_pure ?_
    cases r1.i_list with
    | @mk a vs _ xa ea za rl =>
      refine ⟨a, vs.toArray, some (j : Int), none, rfl, isLst ea, by rw [List.size_toArray]; exact big_line za, .int _ _, .none, n1.trans (Nx.keeps n1.ok fun b o e => push_keeps _ _ _ (push_keeps _ _ _ e)), ?_⟩
      rw [slicePick_from']
      have T1 := n1.ok.t.keeps (push_keeps (h := s1.heap) { cls := .type "slice", data := .fields #[.int (Int.ofNat j) s1.toks, .none, .none] })
      exact Rd_newListAt (by simp [Heap.push]) T1 ((m.nx n1 S.ok).xl.keeps (push_keeps _)) ((rl.keeps (push_keeps _) n1.ok.t).drop j) (by simp; lia))
theorem Ev_whole {v : Expr} {p' pos : Pos} {l : List D} (h1 : Ev C n sc ρ v (.list l)) (ht : ∀ o r, letTemporaryGo v o r = pure () := by intro _ _; rfl) : Ev C n sc ρ (.Subscript v (.Slice none none none p') pos) (.list l) := fun A env X M s S e m => by
  refine wpAny_Subscript_list_slice (ht := ht) (wp_false (h1 A env X M s S e m) fun o s1 zq9 => ex0_2 zq9 fun n1 r1 => by
    rw [evalPart_none]
    refine wpAny_pure (wpAny_pure ?_)
    cases r1.i_list with
    | @mk a vs _ xa ea za rl =>
      refine ⟨a, vs.toArray, none, none, rfl, isLst ea, by rw [List.size_toArray]; exact big_line za, .none, .none, n1.trans (Nx.keeps n1.ok fun b o e => push_keeps _ _ _ (push_keeps _ _ _ e)), ?_⟩
      rw [slicePick_all]
      have T1 := n1.ok.t.keeps (push_keeps (h := s1.heap) { cls := .type "slice", data := .fields #[.none, .none, .none] })
      exact Rd_newListAt (by simp [Heap.push]) T1 ((m.nx n1 S.ok).xl.keeps (push_keeps _)) (rl.keeps (push_keeps _) n1.ok.t) za)
theorem Op_cat {l₁ l₂ : List D} (z : l₁.length + l₂.length ≤ BIG) : Op2 C n (binaryOp .Add) (.list l₁) (.list l₂) (.list (l₁ ++ l₂)) := fun A X s v1 v2 S x r1 r2 => by
  cases r1.i_list with
  | @mk a vs j xa ea za ra =>
  cases r2.i_list with
  | @mk b ws k xb eb zb rb =>
    have l1 := ra.length
    have l2 := rb.length
    have hB : BIG ≤ sizeLine := by decide
    refine PySem.P.add_list (n := j) (n2 := k) ea eb ⟨.keeps' S.ok (push_keeps _), ?_⟩ (by simp only [List.size_toArray]; lia)
    rw [List.append_toArray]
    exact Rd_newList S.ok.t x (RdL.append ra rb) (by rw [List.length_append]; lia)

theorem Op_isnone {d : D} (h : d ≠ .none) : Op2 C n (compareOp .Is) d .none (.bool false) := fun A X s v1 v2 S x r1 r2 => by
  cases r2.i_none
  refine is_none_ne (fun e => ?_) ⟨.refl S.ok, .bool _⟩
  exact h (r1.none_of e)

theorem Truth_list {l : List D} : Truth C n (.list l) (!l.isEmpty) := fun A X s v S r => by
  cases r.i_list with
  | @mk a vs j xa ea za ra =>
    have l1 := ra.length
    refine wpAny_truthy_list (isLst ea) (by rw [List.size_toArray]; have : BIG = 1048576 := rfl; lia) ⟨.tok S.ok, ?_⟩
    cases ra <;> rfl
theorem Truth_tup {l : List D} : Truth C n (.tup l) (!l.isEmpty) := fun A X s v S r => by
  cases r.i_tup with
  | @mk a vs j xa ea za ra =>
    have l1 := ra.length
    refine ktl_truthy (n := j) ea (by rw [List.size_toArray]; have : BIG = 1048576 := rfl; lia) ⟨.tok S.ok, ?_⟩
    cases ra <;> rfl
theorem Truth_set {j : Nat} : Truth C n (.set j) (decide (j ≠ 0)) := fun A X s v S r => by
  cases r.i_set with
  | @mk a o es ep t xa ea hex hd hf hz hj =>
    have hT : s.TypeIs (.ref a) "set" := ⟨o, ea, hex.1⟩
    have hne : ((es.size : Int) != 0) = decide (j ≠ 0) := by
      rw [hz, Bool.eq_iff_iff, decide_eq_true_iff, bne_iff_ne]; lia
    have key : wpAny C.M A (runValue (.builtin "len" ⟨[.ref a], []⟩)) (fun r s' => r = .int es.size (s.toks + 1) ∧ Nx C s s') (fun _ _ => False) s := by
      refine wpAny_runValue (codeAny_builtin entry_len ?_)
      rw [Around.under_plainId plain_len _]
      exact wpAny_mono (wpAny_len_body_set (Q := fun r s' => r = .int es.size (s.toks + 1) ∧ Nx C s s') ea hex hd hf (by lia) ⟨rfl, .tok S.ok⟩)
        (fun fin s' h' => by refine ex1_2 h' fun r zq1 hq => ?_; try clear h'; subst zq1; exact hq) fun _ _ e => e
    unfold truthy
    first
      | refine wpAny_bind (wpAny_callSpecial?_none (name := Str.ofString "__bool__") hT noBool_set ?_)
      | refine wpAny_bind (wpAny_pure (wpAny_bind (wpAny_callSpecial?_none (name := Str.ofString "__bool__") hT noBool_set ?_)))
    first
      | refine wpAny_bind (wpAny_specialOf (name := Str.ofString "__len__") hT PySem.F.slot_set_len.lookup ?_)
      | refine wpAny_bind (wpAny_pure (wpAny_bind (wpAny_specialOf (name := Str.ofString "__len__") hT PySem.F.slot_set_len.lookup ?_)))
    first
      | exact wpAny_bind (wpAny_mono key (fun r s' h' => by refine ex0_2 h' fun zq2 hq => ?_; try clear h'; subst zq2; exact wpAny_pure ⟨hq, hne⟩) fun _ _ e => e)
      | exact wpAny_bind (wpAny_pure (wpAny_bind (wpAny_mono key (fun r s' h' => by obtain ⟨rfl, hq⟩ := h'; exact wpAny_pure ⟨hq, hne⟩) fun _ _ e => e)))
end
end Mine
namespace Mine

theorem Rho.get_cons (x y : Str) (sl : Slot) (ρ : Rho) : Rho.get ((x, sl) :: ρ) y = if y = x then sl else ρ.get y := by
  unfold Rho.get
  rw [List.lookup_cons]
  by_cases h : y = x
  · subst h; simp
  · have : (y == x) = false := by rw [beq_eq_false_iff_ne]; exact h
    rw [this, if_neg h]

section
variable {C : Cx} {env : Env} {ρ : Rho} {X M X' M' N : Addr → Prop} {h h₂ h₃ : Heap} {x : Str} {v : Value}

noncomputable def SlotV (C : Cx) (env : Env) (X M : Addr → Prop) (h : Heap) (v : Value) : Slot → Option Addr → Prop
  | .unk, oa => oa = none
  | .val d, oa => oa = none ∧ Rd C h X v d
  | .frz d, oa => oa = none ∧ Rd C h X v d
  | .ext d, oa => oa = none ∧ Rd C h X v d
  | .lst l, oa => ∃ a n vs, oa = some a ∧ v = .ref a ∧ h.get? a = some (seqO "list" vs n) ∧ vs.length ≤ BIG ∧ RdL C h X vs l ∧ M a
  | .dct kvs, oa => ∃ a n es, oa = some a ∧ v = .ref a ∧ h.get? a = some (dictO es n) ∧ es.length ≤ BIG ∧ RdE C h X es kvs ∧ M a ∧ (kvs.map (·.1)).Nodup ∧ a ≠ env.locals ∧ a ≠ sysModules
  | .wl items, oa => ∃ a p, oa = some p ∧ v = .ref a ∧ WlAt C h X a p items ∧ M p

theorem SlotOk.toV {sl : Slot} {oa : Option Addr} (q : SlotOk C env X M h x sl oa) (hu : sl ≠ .unk) : ∃ v, Look h env x v ∧ SlotV C env X M h v sl oa := by
  cases sl with
  | unk => exact absurd rfl hu
  | val d => refine ex0_2 q fun q1 zq1 => ?_; try clear q; refine ex1_2 zq1 fun v q2 q3 => ?_; try clear zq1; exact ⟨v, q2, q1, q3⟩
  | frz d => refine ex0_2 q fun q1 zq2 => ?_; try clear q; refine ex1_2 zq2 fun v q2 q3 => ?_; try clear zq2; exact ⟨v, q2, q1, q3⟩
  | ext d => refine ex0_2 q fun q1 zq3 => ?_; try clear q; refine ex1_2 zq3 fun v q2 q3 => ?_; try clear zq3; exact ⟨v, q2, q1, q3⟩
  | lst l => refine ex3_3 q fun a n vs q1 q2 q3 => ?_; try clear q; exact ⟨_, q2, a, n, vs, q1, rfl, q3⟩
  | dct l => refine ex3_3 q fun a n vs q1 q2 q3 => ?_; try clear q; exact ⟨_, q2, a, n, vs, q1, rfl, q3⟩
  | wl l => refine ex2_3 q fun a p q1 q2 q3 => ?_; try clear q; exact ⟨_, q2, a, p, q1, rfl, q3⟩
theorem SlotV.ok {sl : Slot} {oa : Option Addr} (l : Look h env x v) (q : SlotV C env X M h v sl oa) : SlotOk C env X M h x sl oa := by
  cases sl with
  | unk => exact q
  | val d => exact ⟨q.1, v, l, q.2⟩
  | frz d => exact ⟨q.1, v, l, q.2⟩
  | ext d => exact ⟨q.1, v, l, q.2⟩
  | lst _ => refine ex3_3 q fun a n vs q1 zq4 q3 => ?_; try clear q; subst zq4; exact ⟨a, n, vs, q1, l, q3⟩
  | dct _ => refine ex3_3 q fun a n vs q1 zq5 q3 => ?_; try clear q; subst zq5; exact ⟨a, n, vs, q1, l, q3⟩
  | wl _ => refine ex2_3 q fun a p q1 zq6 q3 => ?_; try clear q; subst zq6; exact ⟨a, p, q1, l, q3⟩

theorem SlotV.keep {K : Addr → Prop} {sl : Slot} {oa : Option Addr} (k : Kq C K h h₂) (hk : ∀ a, K a → X a) (T : TabOK C h) (nb : ∀ a, oa = some a → ¬ K a) (hm : ∀ a, M a → M' a)
    (q : SlotV C env X M h v sl oa) : SlotV C env X M' h₂ v sl oa := by
  cases sl with
  | unk => exact q
  | val d => exact ⟨q.1, q.2.keep k hk T⟩
  | frz d => exact ⟨q.1, q.2.keep k hk T⟩
  | ext d => exact ⟨q.1, q.2.keep k hk T⟩
  | lst l => refine ex3_6 q fun a n vs q1 q2 q3 q4 q5 q6 => ?_; try clear q; exact ⟨a, n, vs, q1, q2, k.exact (nb a q1) (T.notab q3 (by simp)) q3 (by simp), q4, q5.keep k hk T, hm _ q6⟩
  | dct l => refine ex3_7 q fun a n es q1 q2 q3 q4 q5 q6 q7 => ?_; try clear q; exact ⟨a, n, es, q1, q2, k.exact (nb a q1) (T.notab q3 (by simp)) q3 (by simp), q4, q5.keep k hk T, hm _ q6, q7⟩
  | wl items => refine ex2_4 q fun a p q1 q2 q3 q4 => ?_; try clear q; exact ⟨a, p, q1, q2, q3.keep k hk (nb p q1) T, hm _ q4⟩

theorem WlAt.anti {a p : Addr} {items : List (Int × Array UInt8)} (hx : ∀ a o, h.get? a = some o → X' a → X a) (q : WlAt C h X a p items) : WlAt C h X' a p items := by
  obtain ⟨dx, es, n, j, vs, n1, n2, e1, e2, e3, e4, z, r⟩ := q
  exact ⟨dx, es, n, j, vs, fun q => n1 (hx _ _ e1 q), fun q => n2 (hx _ _ e2 q), e1, e2, e3, e4, z, RdW.anti hx r⟩

theorem SlotV.anti {sl : Slot} {oa : Option Addr} (hx : ∀ a o, h.get? a = some o → X' a → X a) (hm : ∀ a, M a → M' a) (q : SlotV C env X M h v sl oa) : SlotV C env X' M' h v sl oa := by
  cases sl with
  | unk => exact q
  | val d => exact ⟨q.1, q.2.anti hx⟩
  | frz d => exact ⟨q.1, q.2.anti hx⟩
  | ext d => exact ⟨q.1, q.2.anti hx⟩
  | lst l => refine ex3_6 q fun a n vs q1 q2 q3 q4 q5 q6 => ?_; try clear q; exact ⟨a, n, vs, q1, q2, q3, q4, q5.anti hx, hm _ q6⟩
  | dct l => refine ex3_7 q fun a n es q1 q2 q3 q4 q5 q6 q7 => ?_; try clear q; exact ⟨a, n, es, q1, q2, q3, q4, RdE.anti hx q5, hm _ q6, q7⟩
  | wl items => refine ex2_4 q fun a p q1 q2 q3 q4 => ?_; try clear q; exact ⟨a, p, q1, q2, q3.anti hx, hm _ q4⟩

theorem SlotV.own_live {sl : Slot} {a : Addr} (q : SlotV C env X M h v sl (some a)) : (∃ o, h.get? a = some o) ∧ M a ∧ (∀ w, h.get? a ≠ some (cellObj w)) ∧ (∀ m, h.Ns env.locals m → a ≠ env.locals) := by
  cases sl with
  | unk => cases q
  | val d => cases q.1
  | frz d => cases q.1
  | ext d => cases q.1
  | lst l =>
    refine ex3_6 q fun a n vs q1 q2 q3 q4 q5 q6 => ?_; try clear q; cases q1
    exact ⟨⟨_, q3⟩, q6, (fun w e => by rw [q3] at e; simp at e), fun m zq14 => ex3_3 zq14 fun o es ep e hd _ e' => by rw [← e', q3] at e; cases e; cases hd⟩
  | dct l =>
    refine ex3_8 q fun a n es q1 q2 q3 q4 q5 q6 q7 q8 => ?_; try clear q; cases q1
    exact ⟨⟨_, q3⟩, q6, (fun w e => by rw [q3] at e; simp at e), fun m _ => q8.1⟩
  | wl l =>
    refine ex2_4 q fun a p q1 q2 zq7 q4 => ?_; try clear q; obtain ⟨dx, es, n, j, vs, n1, n2, e1, e2, e3, e4, z, r⟩ := zq7; cases q1
    exact ⟨⟨_, e4⟩, q4, (fun w e => by rw [e4] at e; simp at e), fun m zq15 => ex3_3 zq15 fun o es ep e hd _ e' => by rw [← e', e4] at e; cases e; cases hd⟩

inductive PutAt (C : Cx) (env : Env) (x : Str) (v : Value) (h₂ h₃ : Heap) : Addr → Prop where
  | loc {m : Str → Option Value} : env.kindOf x = some .local → h₂.Ns env.locals m → h₃.Ns env.locals (fun y => if y = x then some v else m y) → PutAt C env x v h₂ h₃ env.locals
  | cell {b : Addr} {v₀ : Option Value} : env.kindOf x = some .cell → env.cells.lookup x = some b → h₂.get? b = some (cellObj v₀) → h₃.get? b = some (cellObj (some v)) → PutAt C env x v h₂ h₃ b

theorem PutAt.look {b : Addr} (P : PutAt C env x v h₂ h₃ b) : Look h₃ env x v := by
  cases P with
  | loc k n n' => exact .inl ⟨k, _, n', by simp⟩
  | cell k l e e' => exact .inr ⟨.inl k, b, l, e'⟩
theorem PutAt.other {b : Addr} (P : PutAt C env x v h₂ h₃ b) (hb : ∀ c, c ≠ b → h₃.get? c = h₂.get? c) (ci : ∀ x y, env.cells.lookup x = some b → env.cells.lookup y = some b → x = y) {y : Str} {u : Value} (hy : y ≠ x)
    (l : Look h₂ env y u) : Look h₃ env y u := by
  cases P with
  | loc k n n' =>
    rcases l with ⟨q1, m, q2, q3⟩ | ⟨q1, c, q2, q3⟩
    · refine .inl ⟨q1, _, n', ?_⟩
      rw [if_neg hy, ← q3, q2.eq_nsMap, n.eq_nsMap]
    · refine .inr ⟨q1, c, q2, ?_⟩
      rw [hb c ?_]
      · exact q3
      · rintro rfl
        refine ex3_3 n fun o es ep e hd _ => ?_; try clear n
        obtain rfl := is_some q3 e; cases hd
  | cell k l' e e' =>
    rcases l with ⟨q1, m, q2, q3⟩ | ⟨q1, c, q2, q3⟩
    · refine .inl ⟨q1, m, ?_, q3⟩
      refine ex3_3 q2 fun o es ep e2 hd r => ?_; try clear q2
      refine ⟨o, es, ep, ?_, hd, r⟩
      rw [hb _ ?_]
      · exact e2
      · intro e3
        rw [e3, e] at e2; cases e2; cases hd
    · refine .inr ⟨q1, c, q2, ?_⟩
      rw [hb c ?_]
      · exact q3
      · rintro rfl
        exact hy (ci _ _ q2 l')

theorem Kp.dead (k : Kp C C.h₁ h) (T : TabOK C h) {a : Addr} (e : h.get? a = none) : C.h₁.get? a = none := by
  cases e0 : C.h₁.get? a with
  | none => rfl
  | some o => refine ex1_1 (k.live (fun _ _ q => q.elim) T e0) fun o' e' => ?_; exact no_some e e'

theorem Mod.put {sl : Slot} {oa : Option Addr} {b : Addr} (m : Mod C env ρ X M h) (T : TabOK C h) (T2 : TabOK C h₂) (k1 : Kp C C.h₁ h)
    (ext : ∀ c o, h.get? c = some o → h₂.get? c = some o) (hX : ∀ a, X' a ↔ X a ∨ N a) (hM : ∀ a, M' a ↔ M a ∨ N a) (hN : ∀ a, N a → h.get? a = none ∧ ∃ o, h₂.get? a = some o ∧ NF o)
    (P : PutAt C env x v h₂ h₃ b) (hs : Heap.SameBut b h₂ h₃) (kb : ∀ o, h₂.get? b = some o → NF o → ∃ o', h₃.get? b = some o' ∧ o'.cls = o.cls ∧ NF o')
    (hf : (ρ.get x).capt = false) (hv : SlotV C env X' M' h₂ v sl oa) (ho : ∀ a, oa = some a → N a) (nf : sl.capt = false) :
    Mod C env ((x, sl) :: ρ) X' M' h₃ ∧ Kq C M h₂ h₃ ∧ M b := by
  have hMb : M b := by
    cases P with
    | loc => exact m.lm
    | cell k l _ _ => exact m.cellM _ _ k l hf
  have hMb' : M' b := (hM b).mpr (.inl hMb)
  have hMX : ∀ a, M' a → X' a := fun a q => (hX a).mpr (((hM a).mp q).elim (fun q => .inl (m.mx a q)) .inr)
  have nfb : ∀ o, h₂.get? b = some o → NF o := fun o e vs z => by
    cases P with
    | loc _ n _ => refine ex3_3 n fun o' es ep e2 hd _ => ?_; try clear n; rw [e] at e2; cases e2; rw [z] at hd; cases hd
    | cell _ _ e2 _ => obtain rfl := is_some e e2; cases z
  have kq : Kq C (fun a => a = b) h₂ h₃ := Kq.one (fun c hc o e => (hs.2 c hc).trans e) kb nfb rfl
  have back : ∀ a o, h.get? a = some o → X' a → X a := fun a o e q => ((hX a).mp q).elim id fun z => by exact no_some ((hN a z).1) e
  have live2 : ∀ a, X' a → ∃ o, h₂.get? a = some o := fun a q => ((hX a).mp q).elim (fun q => let ⟨o, e⟩ := m.live a q; ⟨o, ext _ _ e⟩) fun z => let ⟨_, o, e, _⟩ := hN a z; ⟨o, e⟩
  refine ex1_2 m.vars fun own q1 q2 => ?_
  have oldM : ∀ y a, own y = some a → M a := fun y a e => by
    have := q1 y
    rw [e] at this
    by_cases hu : ρ.get y = .unk
    · rw [hu] at this; cases this
    · refine ex1_2 (this.toV hu) fun v _ q => ?_; exact q.own_live.2.1
  have own2 : ∀ y u, ρ.get y ≠ .unk → SlotV C env X M h u (ρ.get y) (own y) → SlotV C env X' M' h₃ u (ρ.get y) (own y) := fun y u hu q => by
    have q' := (q.keep (K := fun _ => False) (M' := M) (Kq.keeps ext) (fun _ z => z.elim) T (fun _ _ => id) (fun _ => id))
    have q'' : SlotV C env X' M' h₂ u (ρ.get y) (own y) := by
      have := q.anti (X' := X') (M' := M') back (fun a z => (hM a).mpr (.inl z))
      exact this.keep (K := fun _ => False) (Kq.keeps ext) (fun _ z => z.elim) T (fun _ _ => id) (fun _ => id)
    refine q''.keep kq (fun a e => e ▸ hMX b hMb') T2 (fun a e => ?_) (fun _ => id)
    rintro rfl
    rw [e] at q''
    refine ex0_4 q''.own_live fun _ _ n1 n2 => ?_
    cases P with
    | loc _ n _ => exact n2 _ n rfl
    | cell _ _ e _ => exact n1 _ e
  refine ⟨{ glob := m.glob, blt := m.blt, kind := m.kind, ns := ?_, lm := (hM _).mpr (.inl m.lm), mx := hMX, live := ?_, alive := ?_, cinj := fun y z c q hc => ((hM c).mp q).elim (fun q => m.cinj y z c q hc) (fun q => by refine ex1_1 (m.cells y c hc) fun w e => ?_; exact no_some ((hN c q).1) e), cells := ?_, cellM := ?_, hasc := m.hasc, cellX := ?_, vars := ?_ }, ?_, hMb⟩
  · cases P with
    | loc k n n' => exact ⟨_, n'⟩
    | cell k l e e' =>
      refine ex4_3 m.ns fun f o es ep e2 hd r => ?_
      refine ⟨f, o, es, ep, ?_, hd, r⟩
      rw [hs.2 _ ?_]
      · exact ext _ _ e2
      · intro e3
        have := ext _ _ e2
        rw [e3, e] at this; cases this; cases hd
  · intro a q
    refine ex1_1 (live2 a q) fun o e => ?_
    by_cases hab : a = b
    · subst hab
      have : NF o := by
        rcases (hM a).mp hMb' with z | z
        · refine ex0_2 (m.alive a z) fun _ zq8 => ?_; refine ex1_2 zq8 fun o2 e2 nf => ?_; try clear zq8
          have := ext _ _ e2; obtain rfl := is_some e this; exact nf
        · refine ex0_2 (hN a z) fun _ zq9 => ?_; refine ex1_2 zq9 fun o2 e2 nf => ?_; try clear zq9; obtain rfl := is_some e e2; exact nf
      refine ex1_2 (kb o e this) fun o' e' _ => ?_; exact ⟨o', e'⟩
    · exact ⟨o, (hs.2 a hab).trans e⟩
  · intro a q
    have : C.h₁.get? a = none ∧ ∃ o, h₂.get? a = some o ∧ NF o := by
      rcases (hM a).mp q with z | z
      · refine ex0_2 (m.alive a z) fun z1 zq10 => ?_; refine ex1_2 zq10 fun o z2 z3 => ?_; try clear zq10; exact ⟨z1, o, ext _ _ z2, z3⟩
      · refine ex0_2 (hN a z) fun z1 z2 => ?_; exact ⟨k1.dead T z1, z2⟩
    refine ex0_2 this fun z1 zq11 => ?_; try clear this; refine ex1_2 zq11 fun o z2 z3 => ?_; try clear zq11
    refine ⟨z1, ?_⟩
    by_cases hab : a = b
    · subst hab; refine ex1_3 (kb o z2 z3) fun o' e' _ n' => ?_; exact ⟨o', e', n'⟩
    · exact ⟨o, (hs.2 a hab).trans z2, z3⟩
  · intro y c hc
    refine ex1_1 (m.cells y c hc) fun w e => ?_
    have e := ext _ _ e
    by_cases hcb : c = b
    · subst hcb
      cases P with
      | loc _ n _ =>
        refine ex3_3 n fun o es ep e2 hd _ => ?_; try clear n
        obtain rfl := is_some e e2; cases hd
      | cell _ _ _ e' => exact ⟨_, e'⟩
    · exact ⟨w, (hs.2 c hcb).trans e⟩
  · intro y c hy hc hf'
    rw [Rho.get_cons] at hf'
    refine (hM c).mpr (.inl (m.cellM y c hy hc ?_))
    by_cases hyx : y = x
    · subst hyx; exact hf
    · rw [if_neg hyx] at hf'; exact hf'
  · intro y c d hc hg
    rw [Rho.get_cons] at hg
    by_cases hyx : y = x
    · subst hyx; rw [if_pos rfl] at hg; subst hg; cases nf
    · rw [if_neg hyx] at hg
      intro z
      refine ex1_1 (m.cells y c hc) fun w e => ?_
      exact m.cellX y c d hc hg (back c _ e z)
  · refine ⟨fun y => if y = x then oa else own y, fun y => ?_, fun y z a => ?_⟩
    · rw [Rho.get_cons]
      show SlotOk C env X' M' h₃ y _ (if y = x then oa else own y)
      by_cases hyx : y = x
      · subst hyx
        rw [if_pos rfl, if_pos rfl]
        refine SlotV.ok P.look (hv.keep kq (fun a e => e ▸ hMX b hMb') T2 (fun a e => ?_) fun _ => id)
        rintro rfl
        rw [e] at hv
        refine ex0_4 hv.own_live fun _ _ n1 n2 => ?_
        cases P with
        | loc _ n _ => exact n2 _ n rfl
        | cell _ _ e _ => exact n1 _ e
      · rw [if_neg hyx, if_neg hyx]
        by_cases hu : ρ.get y = .unk
        · have := q1 y; rw [hu] at this ⊢; exact this
        · refine ex1_2 ((q1 y).toV hu) fun u l q => ?_
          have l2 : Look h₂ env y u := l.keep (Kq.keeps ext) T
          exact SlotV.ok (P.other hs.2 (fun x y => m.cinj x y b hMb) hyx l2) (own2 y u hu q)
    · show (if y = x then oa else own y) = some a → (if z = x then oa else own z) = some a → y = z
      by_cases hy : y = x <;> by_cases hz : z = x
      · intro _ _; rw [hy, hz]
      · rw [if_pos hy, if_neg hz]; intro e1 e2
        have e3 := (hN a (ho a e1)).1
        refine ex0_2 (m.alive a (oldM z a e2)) fun _ zq12 => ?_; refine ex1_2 zq12 fun o e4 _ => ?_; try clear zq12
        exact no_some e3 e4
      · rw [if_neg hy, if_pos hz]; intro e1 e2
        have e3 := (hN a (ho a e2)).1
        refine ex0_2 (m.alive a (oldM y a e1)) fun _ zq13 => ?_; refine ex1_2 zq13 fun o e4 _ => ?_; try clear zq13
        exact no_some e3 e4
      · rw [if_neg hy, if_neg hz]; exact q2 y z a
  · exact kq.mono fun a e => e ▸ hMb
end
end Mine
namespace Mine

theorem entry_unchain : entryFor table "proto.unchain" = some Builtin.«proto.unchain» := entryFor_of_fast (by kernel_rfl)
theorem plain_unchain : plainId "proto.unchain" = true := by decide +kernel

section
variable {prog : Program} {w : World} {A : Around} {E : Value → Shared → Prop} {s : Shared}

noncomputable def HeldOr (h : Heap) (A : Around) : Prop := A.handled = none ∨ Held h A

theorem wpAny_raiseNew_held {α : Type} {e : Addr} {o : Obj} {vs : Array Value} {Q : α → Shared → Prop} (H : HeldOr s.heap A) (he : s.heap.get? e = some o) (hd : o.data = .fields vs) (hne : ∀ a, A.handled = some (.ref a) → a ≠ e)
    (h : ∀ h', Heap.ExtBut e s.heap h' → (∃ o', h'.get? e = some o' ∧ o'.cls = o.cls) → E (.ref e) { s with heap := h' }) (hsz : 2 < vs.size) : wpAny (model prog w) A (raiseNew (.ref e) : Sem α) Q E s := by
  simp only [raiseNew]
  refine wpAny_bind (wpAny_handled ?_)
  rcases H with H | ⟨a, oa, va, H, ha, hc, hda, h2⟩
  · rw [H]
    exact wpAny_bind (wpAny_pure (wpAny_throw (h s.heap (fun _ _ _ e => e) ⟨o, he, rfl⟩)))
  · rw [H]
    have hne' := hne a H
    have nb : (Value.ref a != Value.ref e) = true := by simp [hne']
    simp only [nb, if_true]
    refine wpAny_bind (wpAny_holding (wpAny_runValue (codeAny_builtin entry_unchain ?_)))
    rw [Around.under_plainId plain_unchain _]
    unfold Builtin.«proto.unchain»
    refine wpAny_bind (wpAny_field ha hda (x := .none) h2 ?_)
    show wpAny _ _ (do return ← ret Value.none) _ _ s
    refine wpAny_bind (wpAny_pure (wpAny_pure ?_))
    show wpAny _ _ (do updateField e 2 (Value.ref a); throw (Value.ref e)) _ _ s
    refine wpAny_bind ?_
    obtain ⟨c, d, dt, sl⟩ := o
    dsimp at hd
    subst hd
    exact wpAny_setField (i := 2) he rfl hsz (wpAny_throw (h _ (Heap.SameBut.update ..).extBut ⟨_, Heap.get?_update_self _ he rfl, rfl⟩))

theorem pyNext_tuple_end {it t : Addr} {i : Nat} {items : Array Value} {Q : Option Value → Shared → Prop} (H : HeldOr s.heap A) (hit : s.heap.IsTupleIter it t i) (ht : s.heap.IsTuple t items) (hx : items[i]? = none) (hne : ∀ a, A.handled = some (.ref a) → a ≠ it)
    (hQ : ∀ h', Heap.ExtBut it s.heap h' → Q none { s with heap := h' }) : wpAny (model prog w) A (pyNext (.ref it)) Q E s := by
  refine ex1_3 (id hit) fun o ho hc hd => ?_
  refine ex1_3 ht fun ol hol _ zq1 => ?_; try clear ht; refine ex1_1 zq1 fun nl hdl => ?_; try clear zq1
  unfold pyNext
  refine wpAny_bind (wpAny_attempt (wpAny_callSpecial?_slot (name := Str.ofString "__next__") hit.typeIs F.slot_tuple_iterator_next
    (wpAny_call_entry F.slot_tuple_iterator_next hit.typeIs F.entry_tuple_iterator_next ?_ (F.args_tuple_iterator_next_1 _))))
  show wpAny _ _ (field (.ref it) 0 >>= _) _ _ s
  refine wpAny_bind (wpAny_field ho hd (x := .ref t) rfl ?_)
  show wpAny _ _ (if (Value.ref t == Value.none) = true then _ else _) _ _ s
  rw [if_neg (show ¬ ((Value.ref t == Value.none) = true) from Bool.false_ne_true)]
  show wpAny _ _ (field (.ref it) 1 >>= _) _ _ s
  refine wpAny_bind (wpAny_field ho hd (x := .int i 0) rfl ?_)
  show wpAny _ _ (seqItems? (.ref t) >>= _) _ _ s
  refine wpAny_bind (wpAny_seqItems hol hdl ?_)
  simp only [Int.toNat_natCast, hx]
  refine wpAny_bind (wpAny_rule (wpAny_bind (wpAny_setField ho hd (by simp) ?_)))
  show wpAny _ _ (newExc (.type "StopIteration") [] >>= _) _ _ _
  refine wpAny_bind ?_
  simp only [newExc, newTuple]
  refine wpAny_bind (wpAny_newObj_type ?_ (by size_fits))
  refine wpAny_bind (m := firstArgMember _ _) (wpAny_of_eq (a := Value.none) (by first | rfl | (simp only [firstArgMember]; rfl)) ?_)
  refine wpAny_newObj_type ?_ (by size_fits)
  have key : ∀ {b ob}, b ≠ it → s.heap.get? b = some ob → (((s.heap.update it (Obj.mapFields fun x => x.setIfInBounds 0 Value.none)).push { cls := Value.type "tuple", data := Data.seq ([] : List Value).toArray }).push
      { cls := Value.type "StopIteration", data := Data.fields (#[Value.ref (s.heap.update it (Obj.mapFields fun x => x.setIfInBounds 0 Value.none)).objs.size, Value.none, Value.none, Value.none, Value.bool false, Value.none] ++ ownMembersOf (Value.type "StopIteration") []) }).get? b = some ob := fun {b ob} n e =>
    push_keeps _ _ _ (push_keeps _ _ _ (((Heap.SameBut.update s.heap it _).2 b n).trans e))
  refine wpAny_raiseNew_held (A := A.in1) ?_ (Heap.get?_push_size _ rfl) rfl ?_ ?_ ?_
  · rcases H with H | ⟨a, oa, va, h1, h2, h3, h4, h5⟩
    · exact .inl H
    · exact .inr ⟨a, oa, va, h1, key (hne a h1) h2, h3, h4, h5⟩
  · intro a h1 z
    rcases H with H | ⟨a', oa, va, h1', h2, _⟩
    · rw [show A.handled = some (.ref a) from h1] at H; cases H
    · have : a = a' := by
        have e1 : A.handled = some (.ref a) := h1
        rw [h1'] at e1; cases e1; rfl
      subst this
      have := Heap.lt_size h2
      rw [z] at this
      simp only [Heap.size_push] at this
      rw [show (s.heap.update it (Obj.mapFields fun x => x.setIfInBounds 0 Value.none)).objs.size = s.heap.objs.size from (Heap.SameBut.update ..).1] at this
      exact absurd this (Nat.not_lt.mpr (Nat.le_succ _))
  · intro h' hx' zi1; refine ex1_2 zi1 fun o' e' c' => ?_; try clear zi1
    refine wpAny_bind (wpAny_isInstance (T := "StopIteration") (b := true) ⟨o', e', c'⟩ isSubtype_stop ?_)
    refine wpAny_pure (hQ _ fun b ob n e => hx' b ob ?_ (key n e))
    intro z
    have := Heap.lt_size e
    rw [z] at this
    simp only [Heap.size_push] at this
    rw [show (s.heap.update it (Obj.mapFields fun x => x.setIfInBounds 0 Value.none)).objs.size = s.heap.objs.size from (Heap.SameBut.update ..).1] at this
    exact absurd this (Nat.not_lt.mpr (Nat.le_succ _))
  · show 2 < (#[_, _, _, _, _, _] ++ ownMembersOf _ _ : Array Value).size
    rw [Array.size_append]
    simp; lia

theorem assign_Tuple_held {env : Env} {elts : List Expr} {x1 : Nat} {pos : Pos} {t : Addr} {items : Array Value} {Q : Unit → Shared → Prop} (H : HeldOr s.heap A) (ht : s.heap.IsTuple t items)
    (hn : (assignEach elts env).length = items.size) (hstar : (assignEach elts env).findIdx? (·.1) = none)
    (h : ∀ h', Heap.ExtBut s.heap.objs.size s.heap h' → wpAny (model prog w) A (assignInOrder ((assignEach elts env).map (·.2)) items.toList) Q E { s with heap := h' }) :
    wpAny (model prog w) A (assign (.Tuple elts x1 pos) env (.ref t)) Q E s := by
  rw [arm_assign_Tuple]
  refine wpAny_bind (wpAny_standAt ?_)
  unfold unpack
  rw [hn, hstar]
  refine wpAny_bind (wpAny_holding ?_)
  have hlt : t ≠ s.heap.objs.size := by refine ex1_2 ht fun o ho _ => ?_; try clear ht; exact Nat.ne_of_lt (Heap.lt_size ho)
  unfold unpackItems
  refine wpAny_bind ?_
  unfold notIterableAtAll
  refine wpAny_bind (wpAny_specialOf ht.typeIs F.slot_tuple_iter.lookup (wpAny_pure ?_))
  simp only [Bool.false_eq_true, if_false]
  refine wpAny_bind (wpAny_holding (wpAny_pyIter_tuple ht ?_))
  refine wpAny_bind (wpAny_holding (wpAny_draw_tuple hlt items.size 0 _ _ ⟨_, Heap.get?_push_size _ rfl, rfl, rfl⟩ (ht.push _) (by lia) fun h₁ hit₁ hs₁ => ?_))
  have hall : List.take items.size (List.drop 0 items.toList) = items.toList := by
    rw [List.drop_zero]; exact List.take_of_length_le (by simp)
  rw [hall, if_neg (by simp)]
  have keep : ∀ b ob, b ≠ s.heap.objs.size → s.heap.get? b = some ob → h₁.get? b = some ob := fun b ob n e => (hs₁.2 b n).trans (push_keeps _ _ _ e)
  refine wpAny_bind (wpAny_holding (pyNext_tuple_end ?_ hit₁ ((ht.push _).extBut hs₁.extBut hlt) (by simp) (fun a h1 z => ?_) fun h₂ he₂ => ?_))
  · rcases H with H | ⟨a, oa, va, h1, h2, h3, h4, h5⟩
    · exact .inl H
    · exact .inr ⟨a, oa, va, h1, keep a oa (Nat.ne_of_lt (Heap.lt_size h2)) h2, h3, h4, h5⟩
  · rcases H with H | ⟨a', oa, va, h1', h2, _⟩
    · rw [h1] at H; cases H
    · rw [h1'] at h1; cases h1
      exact absurd (Heap.lt_size h2) (by rw [z]; exact Nat.lt_irrefl _)
  · simp only [Option.isSome_none, Bool.false_eq_true, if_false]
    exact wpAny_pure (h h₂ fun b o hb e => he₂ b o hb (keep b o hb e))
end
end Mine
namespace Mine

section
variable {C : Cx} {n : Lv} {sc : Sc} {ρ : Rho} {env : Env} {X M X' M' N : Addr → Prop} {s₀ s s' : Shared} {h h' : Heap}

theorem TabOK.touch {K : Addr → Prop} (T : TabOK C h) (k : Kq C K h h') (kt : ∀ P ∈ tabs, ∀ o, h.get? P = some o → h'.get? P = some o) : TabOK C h' := fun P hP => by
  refine ex1_3 (T P hP) fun ps e t q => ?_
  refine ⟨ps, kt P hP _ e, t, fun pos cv hc => ?_⟩
  have cr := q pos cv hc
  have cr' := cr
  refine ex4_4 cr fun c o vs tk e1 e2 e3 e4 => ?_; try clear cr
  subst e1
  exact k.code c _ cr' (CodeRec.notab T cr')

theorem Ok.touch {b : Addr} {t : Nat} (o : Ok C s) (hs : Heap.SameBut b s.heap h') (kb : ∀ o, s.heap.get? b = some o → NF o → ∃ o', h'.get? b = some o' ∧ o'.cls = o.cls ∧ NF o')
    (hb : C.h₁.get? b = none) (nf : ∀ o, s.heap.get? b = some o → NF o) : Ok C { s with heap := h', toks := t } := by
  have kq : Kq C (fun a => a = b) s.heap h' := Kq.one (fun c hc o e => (hs.2 c hc).trans e) kb nf rfl
  refine ⟨o.k.trans' kq fun a o' e z => ?_, o.t.touch kq (fun P hP o' e => ?_), o.g, o.o⟩
  · subst z; exact no_some hb e
  · rw [hs.2 P ?_]
    · exact e
    · rintro rfl
      refine ex1_1 (C.tabIn P hP) fun _ e' => ?_; exact no_some hb e'

theorem names_loc {x : Str} {env : Env} (e : EnvIs C sc env) {k : Option NameKind} (h : sc.scope.names.lookup x = k) : env.kindOf x = k := by
  unfold Env.kindOf; rw [e.1]; exact h

theorem wpAny_put {A : Around} {E : Value → Shared → Prop} {x : Str} {v : Value} {sl : Slot} {oa : Option Addr} {Q : Unit → Shared → Prop} (o0 : Ok C s₀) (o : Ok C s) (m : Mod C env ρ X M s₀.heap)
    (ext : ∀ c o, s₀.heap.get? c = some o → s.heap.get? c = some o) (hk : env.kindOf x = some .local ∨ env.kindOf x = some .cell)
    (hX : ∀ a, X' a ↔ X a ∨ N a) (hM : ∀ a, M' a ↔ M a ∨ N a) (hN : ∀ a, N a → s₀.heap.get? a = none ∧ ∃ o, s.heap.get? a = some o ∧ NF o)
    (hf : (ρ.get x).capt = false) (hv : SlotV C env X' M' s.heap v sl oa) (ho : ∀ a, oa = some a → N a) (nf : sl.capt = false)
    (q : ∀ s', Ok C s' → Mod C env ((x, sl) :: ρ) X' M' s'.heap → Kq C M s.heap s'.heap → Q () s') : wpAny C.M A (storeName env x v) Q E s := by
  have key : ∀ (b : Addr) (h' : Heap) (t : Nat), PutAt C env x v s.heap h' b → Heap.SameBut b s.heap h' → (∀ o, s.heap.get? b = some o → NF o → ∃ o', h'.get? b = some o' ∧ o'.cls = o.cls ∧ NF o') → M b → Q () { s with heap := h', toks := t } := fun b h' t P hs kb hb => by
    refine ex0_3 (m.put o0.t o.t o0.k ext hX hM hN P hs kb hf hv ho nf) fun m' kq _ => ?_
    refine ex0_2 (m.alive b hb) fun z1 zq1 => ?_; refine ex1_2 zq1 fun ob z2 z3 => ?_; try clear zq1
    refine q _ (o.touch hs kb z1 fun o' e => ?_) m' kq
    have := ext _ _ z2; obtain rfl := is_some e this; exact z3
  rcases hk with hk | hk
  · refine ex1_1 m.ns fun mm hn => ?_
    have hn : s.heap.Ns env.locals mm := let ⟨o, es, ep, e, r⟩ := hn; ⟨o, es, ep, ext _ _ e, r⟩
    rw [storeName_local hk (by rw [m.kind]; rfl)]
    exact wpAny_nsSet2 hn fun h' hn' hs kb => key _ h' _ (.loc hk hn hn') hs kb m.lm
  · refine ex1_1 (m.hasc x hk) fun c hc => ?_
    refine ex1_1 (m.cells x c hc) fun w e => ?_
    have e := ext _ _ e
    refine wpAny_storeCell m.kind hk hc e fun h' e' hs => key c h' s.toks (.cell hk hc e e') hs (fun o e2 nf => ?_) (m.cellM x c hk hc hf)
    obtain rfl := is_some e e2
    exact ⟨_, e', rfl, fun _ z => by cases z⟩

theorem Sit.held {A : Around} (S : Sit C n A s) : HeldOr s.heap A := by
  cases h : n.h with
  | false => exact .inl (S.hd h)
  | true => exact .inr (S.hx h)

noncomputable def Asg (C : Cx) (n : Lv) (sc : Sc) (ρ : Rho) (t : Expr) (d : D) (ρ' : Rho) : Prop :=
  ∀ A env X M s v, Sit C n A s → EnvIs C sc env → Mod C env ρ X M s.heap → Rd C s.heap X v d →
    wpAny C.M A (assign t env v) (fun _ s' => Ok C s' ∧ Mod C env ρ' X M s'.heap ∧ Kq C M s.heap s'.heap) (fun _ _ => False) s

noncomputable def isLoc : Option NameKind → Bool
  | some .local => true
  | some .cell => true
  | _ => false
theorem isLoc_or {k : Option NameKind} (h : isLoc k = true) : k = some .local ∨ k = some .cell := by
  match k, h with
  | some .local, _ => exact .inl rfl
  | some .cell, _ => exact .inr rfl
theorem kind_or (e : EnvIs C sc env) {x : Str} (h : isLoc (sc.scope.names.lookup x) = true) : env.kindOf x = some .local ∨ env.kindOf x = some .cell := by
  rw [names_loc e rfl]; exact isLoc_or h

theorem Asg_name {x : Str} {pos : Pos} {d : D} (hk : isLoc (sc.scope.names.lookup x) = true := by rfl) (hf : (ρ.get x).capt = false := by rfl) : Asg C n sc ρ (.Name x pos) d ((x, .val d) :: ρ) := fun A env X M s v S e m r =>
  wpAny_assign_Name (wpAny_put (N := fun _ => False) (X' := X) (M' := M) (oa := none) (sl := .val d) S.ok S.ok m (fun _ _ => id) (kind_or e hk) (by simp) (by simp) (fun _ z => z.elim) hf ⟨rfl, r⟩ (by simp) rfl fun s' o m k => ⟨o, m, k⟩)

theorem Asg_pair {t₁ t₂ : Expr} {k : Nat} {pos : Pos} {d₁ d₂ : D} {ρ₁ ρ₂ : Rho} (h1 : Asg C n sc ρ t₁ d₁ ρ₁) (h2 : Asg C n sc ρ₁ t₂ d₂ ρ₂)
    (he : ∀ env, assignEach [t₁, t₂] env = [(false, assign t₁ env), (false, assign t₂ env)] := by intro env; rfl) : Asg C n sc ρ (.Tuple [t₁, t₂] k pos) (.tup [d₁, d₂]) ρ₂ := fun A env X M s v S e m r => by
  cases r.i_tup with
  | @mk a vs j xa ea za rl =>
    refine ex2_3 rl.two fun y z zq2 ra rb => ?_; subst zq2
    refine assign_Tuple_held (items := #[y, z]) S.held (isTup ea) (by rw [he]; rfl) (by rw [he]; rfl) fun h' ext => ?_
    have ext' : ∀ b o, s.heap.get? b = some o → h'.get? b = some o := fun b o e => ext b o (fun q => by subst q; exact absurd (Heap.lt_size e) (Nat.lt_irrefl _)) e
    have nx : Nx C s { s with heap := h' } := Nx.keeps' S.ok ext'
    rw [he]
    refine wpAny_assignInOrder_more (wp_false (h1 A env X M _ y (S.next nx) e (m.nx nx S.ok) (ra.nx nx S.ok)) fun _ s1 zq3 => ex0_3 zq3 fun o1 m1 k1 => ?_)
    refine wpAny_assignInOrder_more (wp_false (h2 A env X M _ z ((S.next nx).step k1 o1 fun a z => ((m.nx nx S.ok).alive a z).2) e m1 ((rb.nx nx S.ok).keep k1 m.mx nx.ok.t)) fun _ s2 zq4 => ex0_3 zq4 fun o2 m2 k2 => ?_)
    exact wpAny_assignInOrder_none ⟨o2, m2, (Kq.of_kp nx.k).trans (k1.trans k2)⟩

theorem Post.of {ρ' : Rho} (m : Mod C env ρ' X M s'.heap) (k : Kq C M s.heap s'.heap) (o : Ok C s') : Post C env X M s ρ' X M s' := ⟨m, k, o, fun _ q _ => q, fun _ q => .inl q, fun _ q => .inl q⟩


theorem H1_assign {t v : Expr} {pos : Pos} {d : D} {ρ' : Rho} {Q : Fl → Rho → Prop} (h1 : Ev C n sc ρ v d) (h2 : Asg C n sc ρ t d ρ') (q : Q .next ρ')
    (hs : ∀ env, swapsWithSole [t] v pos.line env = pure false := by intro env; rfl) (hw : ∀ env, swappedStores [t] v env = pure none := by intro env; rfl)
    (he : ∀ env v', assignAll v' ((assignEach [t] env).map (·.2)) = assign t env v' := by intro env v; rfl) : H1 C n sc ρ (.Assign [t] v pos) Q := fun A env X M s S e m tp =>
  wpAny_Assign_stores (wp_false (h1 A env X M s S e m) fun v' s1 zq5 => ex0_2 zq5 fun n1 r1 => by
    rw [he]
    exact wp_false (h2 A env X M s1 v' (S.next n1) e (m.nx n1 S.ok) r1) fun _ s2 zq6 => ex0_3 zq6 fun o2 m2 k2 => ⟨.next, ρ', X, M, q, trivial, .of m2 ((Kq.of_kp n1.k).trans k2) o2⟩) (hs env) (hw env)

theorem H1_newlist {x : Str} {es : List Expr} {p1 p2 pos : Pos} {ds : List D} {Q : Fl → Rho → Prop} (h1 : El C n sc ρ es ds) (q : Q .next ((x, .lst ds) :: ρ))
    (hk : isLoc (sc.scope.names.lookup x) = true := by rfl) (hf : (ρ.get x).capt = false := by rfl) (z : ds.length ≤ BIG := by exact Nat.le_of_ble_eq_true rfl) : H1 C n sc ρ (.Assign [.Name x p1] (.List es p2) pos) Q := fun A env X M s S e m tp => by
  refine wpAny_Assign_Name (List_ (wp_false (h1 A env X M s p2 S e m) fun vs s1 zq7 => ex0_2 zq7 fun n1 r1 => ?_))
  have z1 : vs.length ≤ BIG := by rw [r1.length]; exact z
  refine wpAny_newList ?_ (big_line z1)
  have m1 := m.nx n1 S.ok
  have fr : s1.heap.get? s1.heap.objs.size = none := by
    cases e : s1.heap.get? s1.heap.objs.size with
    | none => rfl
    | some o => exact absurd (Heap.lt_size e) (Nat.lt_irrefl _)
  have n2 : Nx C s1 { s1 with heap := s1.heap.push { cls := .type "list", data := .seq vs.toArray } } := Nx.keeps' n1.ok (push_keeps _)
  have at1 : (s1.heap.push { cls := .type "list", data := .seq vs.toArray }).get? s1.heap.objs.size = some (seqO "list" vs 0) := Heap.get?_push_size _ rfl
  refine wpAny_put (X' := fun a => X a ∨ a = s1.heap.objs.size) (M' := fun a => M a ∨ a = s1.heap.objs.size) (N := fun a => a = s1.heap.objs.size) (oa := some s1.heap.objs.size) (sl := .lst ds) n1.ok n2.ok m1 (push_keeps _) (kind_or e hk) (fun _ => Iff.rfl) (fun _ => Iff.rfl)
    (fun a z => by subst z; exact ⟨fr, _, at1, fun _ z => by cases z⟩) hf ⟨_, _, vs, rfl, rfl, at1, z1, ?_, .inr rfl⟩ (fun a z => by cases z; rfl) rfl fun s' o' m' k' => ⟨.next, _, _, _, q, trivial, m', ?_, o', fun a z _ => .inl z, fun a z => z.elim .inl fun z => .inr ?_, fun a z => z.elim .inl fun z => .inr ?_⟩
  · exact (r1.anti (X' := fun a => X a ∨ a = s1.heap.objs.size) fun a o e z => z.elim id fun z => by subst z; exact no_some fr e).keeps (push_keeps _) n1.ok.t
  · exact (Kq.of_kp n1.k).trans ((Kq.of_kp n2.k).trans k')
  · subst z
    cases e0 : s.heap.get? s1.heap.objs.size with
    | none => rfl
    | some o => refine ex1_1 (n1.k.live (fun _ _ q => q.elim) n1.ok.t e0) fun o' e' => ?_; exact no_some fr e'
  · subst z
    cases e0 : s.heap.get? s1.heap.objs.size with
    | none => rfl
    | some o => refine ex1_1 (n1.k.live (fun _ _ q => q.elim) n1.ok.t e0) fun o' e' => ?_; exact no_some fr e'
end
end Mine
namespace Mine

section
variable {C : Cx} {n : Lv} {sc : Sc} {ρ : Rho} {env : Env} {X M X' M' N : Addr → Prop} {s₀ s s' : Shared} {h h' : Heap} {x : Str}

inductive MineAt (C : Cx) (env : Env) (ρ : Rho) (X M : Addr → Prop) (h : Heap) (x : Str) : Prop where
  | mk (v : Value) (oa : Option Addr) : Look h env x v → SlotV C env X M h v (ρ.get x) oa →
    (∀ a, oa = some a → ∀ h' sl', Heap.SameBut a h h' → (∀ o, h.get? a = some o → NF o → ∃ o', h'.get? a = some o' ∧ o'.cls = o.cls ∧ NF o') → SlotV C env X M h' v sl' (some a) → sl'.capt = false → (ρ.get x).capt = false → Mod C env ((x, sl') :: ρ) X M h') → MineAt C env ρ X M h x
theorem Mod.mine (m : Mod C env ρ X M h) (T : TabOK C h) (x : Str) (hu : ρ.get x ≠ .unk) : MineAt C env ρ X M h x := by
  refine ex1_2 m.vars fun own q1 q2 => ?_
  refine ex1_2 ((q1 x).toV hu) fun v l sv => ?_
  refine ⟨v, own x, l, sv, fun a ha h' sl' hs kb hv nc nc0 => ?_⟩
  rw [ha] at sv
  refine ex0_4 sv.own_live fun zq1 hMa nc1 nl => ?_; refine ex1_1 zq1 fun oa ea => ?_; try clear zq1
  refine ex0_2 (m.alive a hMa) fun z1 zq2 => ?_; refine ex1_2 zq2 fun oa' ea' nfa => ?_; try clear zq2
  obtain rfl := is_some ea ea'
  have kq : Kq C (fun b => b = a) h h' := Kq.one (fun c hc o e => (hs.2 c hc).trans e) kb (fun o e => by obtain rfl := is_some ea e; exact nfa) rfl
  refine ex1_1 m.ns fun mm hn => ?_
  have nloc : env.locals ≠ a := fun e => nl mm hn e.symm
  have look : ∀ y u, Look h env y u → Look h' env y u := fun y u l => by
    rcases l with ⟨q1, m, ⟨o, es, ep, e, r⟩, q3⟩ | ⟨q1, c, q2, q3⟩
    · exact .inl ⟨q1, m, ⟨o, es, ep, (hs.2 _ nloc).trans e, r⟩, q3⟩
    · refine .inr ⟨q1, c, q2, (hs.2 c ?_).trans q3⟩
      rintro rfl; exact nc1 _ q3
  refine { glob := m.glob, blt := m.blt, kind := m.kind, ns := ?_, lm := m.lm, mx := m.mx, live := fun b q => ?_, alive := fun b q => ?_, cinj := m.cinj, cells := fun y c hc => ?_, cellM := fun y c hy hc hf' => ?_, hasc := m.hasc, cellX := fun y c d hc hg => ?_, vars := ?_ }
  · refine ex3_2 hn fun o es ep e r => ?_; try clear hn; exact ⟨mm, o, es, ep, (hs.2 _ nloc).trans e, r⟩
  · refine ex1_1 (m.live b q) fun o e => ?_
    by_cases hb : b = a
    · subst hb; obtain rfl := is_some ea e; refine ex1_2 (kb _ ea nfa) fun o' e' _ => ?_; exact ⟨o', e'⟩
    · exact ⟨o, (hs.2 b hb).trans e⟩
  · refine ex0_2 (m.alive b q) fun y1 zq3 => ?_; refine ex1_2 zq3 fun o e nf => ?_; try clear zq3
    refine ⟨y1, ?_⟩
    by_cases hb : b = a
    · subst hb; obtain rfl := is_some ea e; refine ex1_3 (kb _ ea nfa) fun o' e' _ nf' => ?_; exact ⟨o', e', nf'⟩
    · exact ⟨o, (hs.2 b hb).trans e, nf⟩
  · refine ex1_1 (m.cells y c hc) fun w e => ?_
    refine ⟨w, (hs.2 c ?_).trans e⟩
    rintro rfl; exact nc1 _ e
  · refine m.cellM y c hy hc ?_
    rw [Rho.get_cons] at hf'
    by_cases hyx : y = x
    · subst hyx; exact nc0
    · rw [if_neg hyx] at hf'; exact hf'
  · rw [Rho.get_cons] at hg
    by_cases hyx : y = x
    · subst hyx; rw [if_pos rfl] at hg; subst hg; cases nc
    · rw [if_neg hyx] at hg; exact m.cellX y c d hc hg
  · refine ⟨own, fun y => ?_, q2⟩
    rw [Rho.get_cons]
    by_cases hyx : y = x
    · subst hyx; rw [if_pos rfl, ha]; exact SlotV.ok (look _ _ l) hv
    · rw [if_neg hyx]
      by_cases hu : ρ.get y = .unk
      · have := q1 y; rw [hu] at this ⊢; exact this
      · refine ex1_2 ((q1 y).toV hu) fun u l' q => ?_
        refine SlotV.ok (look _ _ l') (q.keep kq (fun b e => e ▸ m.mx a hMa) T (fun b e => ?_) fun _ => id)
        rintro rfl; exact hyx (q2 y x b e ha)

theorem Post.upd {ρ' : Rho} {b : Addr} {t : Nat} (m : Mod C env ρ X M s.heap) (o : Ok C s) (hs : Heap.SameBut b s.heap h') (kb : ∀ o, s.heap.get? b = some o → NF o → ∃ o', h'.get? b = some o' ∧ o'.cls = o.cls ∧ NF o')
    (hb : M b) (m' : Mod C env ρ' X M h') : Post C env X M s ρ' X M { s with heap := h', toks := t } := by
  refine ex0_2 (m.alive b hb) fun z1 zq4 => ?_; refine ex1_2 zq4 fun ob z2 z3 => ?_; try clear zq4
  refine .of m' (Kq.one (fun c hc o e => (hs.2 c hc).trans e) kb (fun o' e => by obtain rfl := is_some z2 e; exact z3) hb) (o.touch hs kb z1 fun o' e => ?_)
  obtain rfl := is_some z2 e; exact z3

theorem eval_name_eq {A : Around} {E : Value → Shared → Prop} {pos : Pos} {v : Value} {Q : Value → Shared → Prop} (m : Mod C env ρ X M s.heap) (l : Look s.heap env x v) (h : Q v s)
    (hd : (x == ("__debug__" : Str)) = false) (hn : (x == ("__classdict__" : Str)) = false) : wpAny C.M A (eval (.Name x pos) env) Q E s := wpAny_Name (wpAny_look m.kind l h hn) hd

end
end Mine
namespace Mine

section
variable {C : Cx} {n : Lv} {sc : Sc} {ρ ρ' : Rho} {env : Env} {X M X' M' N : Addr → Prop} {s₀ s s' : Shared} {h h' : Heap} {x : Str}

theorem Look.inj {u v : Value} (p : Look h env x u) (q : Look h env x v) : u = v := by
  rcases p with ⟨p1, f, p2, p3⟩ | ⟨p1, c, p2, p3⟩ <;> rcases q with ⟨q1, g, q2, q3⟩ | ⟨q1, c', q2, q3⟩
  · rw [p2.eq_nsMap] at p3; rw [q2.eq_nsMap] at q3; rw [p3] at q3; injection q3
  · rw [p1] at q1; rcases q1 with q1 | q1 <;> cases q1
  · rw [q1] at p1; rcases p1 with p1 | p1 <;> cases p1
  · obtain rfl := is_some p2 q2; rw [p3] at q3; injection q3 with q3; injection q3 with _ _ q3; injection q3 with q3; injection q3

noncomputable def Upd (C : Cx) (env : Env) (ρ : Rho) (X M : Addr → Prop) (h : Heap) (x : Str) (a : Addr) : Prop :=
  ∀ h' sl', Heap.SameBut a h h' → (∀ o, h.get? a = some o → NF o → ∃ o', h'.get? a = some o' ∧ o'.cls = o.cls ∧ NF o') → SlotV C env X M h' (.ref a) sl' (some a) → sl'.capt = false → Mod C env ((x, sl') :: ρ) X M h'
inductive LstAt (C : Cx) (env : Env) (ρ : Rho) (X M : Addr → Prop) (h : Heap) (x : Str) (l : List D) : Prop where
  | mk (a : Addr) (k : Nat) (vs : List Value) : Look h env x (.ref a) → h.get? a = some (seqO "list" vs k) → vs.length ≤ BIG → RdL C h X vs l → M a → Upd C env ρ X M h x a → LstAt C env ρ X M h x l
inductive DctAt (C : Cx) (env : Env) (ρ : Rho) (X M : Addr → Prop) (h : Heap) (x : Str) (l : List (Array UInt8 × D)) : Prop where
  | mk (a : Addr) (k : Nat) (es : List DictEntry) : Look h env x (.ref a) → h.get? a = some (dictO es k) → es.length ≤ BIG → RdE C h X es l → M a → (l.map (·.1)).Nodup → (a ≠ env.locals ∧ a ≠ sysModules) → Upd C env ρ X M h x a → DctAt C env ρ X M h x l
theorem Mod.lst (m : Mod C env ρ X M h) (T : TabOK C h) {l : List D} (hx : ρ.get x = .lst l) : LstAt C env ρ X M h x l := by
  obtain ⟨v, oa, lk, sv, up⟩ := m.mine T x (by rw [hx]; simp)
  rw [hx] at sv
  refine ex3_6 sv fun a k vs zq1 zq2 ea za ra Ma => ?_; try clear sv; subst zq1; subst zq2
  exact ⟨a, k, vs, lk, ea, za, ra, Ma, fun h' sl' hs kb hv nc => up a rfl h' sl' hs kb hv nc (by rw [hx]; rfl)⟩
theorem Mod.dct (m : Mod C env ρ X M h) (T : TabOK C h) {l : List (Array UInt8 × D)} (hx : ρ.get x = .dct l) : DctAt C env ρ X M h x l := by
  obtain ⟨v, oa, lk, sv, up⟩ := m.mine T x (by rw [hx]; simp)
  rw [hx] at sv
  refine ex3_8 sv fun a k vs zq3 zq4 ea za ra Ma nd nl => ?_; try clear sv; subst zq3; subst zq4
  exact ⟨a, k, vs, lk, ea, za, ra, Ma, nd, nl, fun h' sl' hs kb hv nc => up a rfl h' sl' hs kb hv nc (by rw [hx]; rfl)⟩

theorem H1_append {e : Expr} {xp ap cp pos : Pos} {l : List D} {d : D} {Q : Fl → Rho → Prop} (hx : ρ.get x = .lst l) (he : Ev C n sc ρ e d) (z : l.length + 1 ≤ BIG) (q : Q .next ((x, .lst (l ++ [d])) :: ρ))
    (hline : (ap.endLine == cp.line) = true := by decide) (htrees : ∀ env, backTo cp (starEach [e] env) = [(false, eval e env)] := by intro env; rfl)
    (hd : (x == ("__debug__" : Str)) = false := by decide) (hn : (x == ("__classdict__" : Str)) = false := by decide)
    (hi : ∀ env : Env, env.scope.kind = .function → interactive env = false := by intro env h; simp [interactive, h]) :
    H1 C n sc ρ (.Expr (.Call (.Attribute (.Name x xp) "append" ap) [e] [] cp) pos) Q := fun A env X M s S en m tp => by
  refine wpAny_Expr_any (hi := hi env m.kind) (wpAny_Call_method1_late rfl hline (htrees env) ?_)
  obtain ⟨a, k, vs, lk, ea, za, ra, Ma, -⟩ := m.lst S.ok.t hx
  refine eval_name_eq m lk ⟨"list", "list.append", F.plainAttrs_list, F.slot_list_append, F.type_list_append, (isLst ea).typeIs, fun b e => by cases e; exact ⟨_, ea, rfl⟩, ?_⟩ hd hn
  refine PySem.P.append_list (wp_false (he A env X M s S en m) fun u s1 ⟨n1, r1⟩ => ?_)
  have m1 := m.nx n1 S.ok
  obtain ⟨a', k1, vs1, lk1, ea1, za1, ra1, Ma1, up⟩ := m1.lst n1.ok.t hx
  cases Look.inj (lk.keep n1.k S.ok.t) lk1
  have lenv : vs1.length = l.length := ra1.length
  refine ⟨vs1.toArray, k1, by rw [List.size_toArray]; exact big_line za1, ea1, ?_⟩
  have up1 : (s1.heap.update a (Obj.mapSeq fun xs => xs.push u)).get? a = some (seqO "list" (vs1 ++ [u]) (k1 + 1)) := by
    have := PySem.IsL.update (f := fun xs => xs.push u) ea1
    rw [if_neg (by simp)] at this
    rw [this]; simp [seqO]
  have hs := Heap.SameBut.update s1.heap a (Obj.mapSeq fun xs => xs.push u)
  have kb : ∀ o, s1.heap.get? a = some o → NF o → ∃ o', (s1.heap.update a (Obj.mapSeq fun xs => xs.push u)).get? a = some o' ∧ o'.cls = o.cls ∧ NF o' := fun o e _ => by
    obtain rfl := is_some ea1 e; exact ⟨_, up1, rfl, fun _ z => by cases z⟩
  have kq : Kq C (fun b => b = a) s1.heap (s1.heap.update a (Obj.mapSeq fun xs => xs.push u)) := Kq.one (fun c hc o e => (hs.2 c hc).trans e) kb (fun o e => by obtain rfl := is_some ea1 e; exact fun _ z => by cases z) rfl
  have m2 := up _ (.lst (l ++ [d])) hs kb ⟨a, k1 + 1, vs1 ++ [u], rfl, rfl, up1, by rw [List.length_append, lenv]; exact z, RdL.append (ra1.keep kq (fun b e => e ▸ m.mx a Ma) n1.ok.t) (.cons (r1.keep kq (fun b e => e ▸ m.mx a Ma) n1.ok.t) .nil), Ma⟩ rfl
  have p := Post.upd (t := s1.toks) m1 n1.ok hs kb Ma m2
  exact ⟨.next, _, X, M, q, trivial, .of p.mod ((Kq.of_kp n1.k).trans p.kq) p.ok⟩
theorem H1_extend {e : Expr} {xp ap cp pos : Pos} {l ds : List D} {Q : Fl → Rho → Prop} (hx : ρ.get x = .lst l) (he : Ev C n sc ρ e (.list ds)) (z : l.length + ds.length ≤ BIG) (q : Q .next ((x, .lst (l ++ ds)) :: ρ))
    (hline : (ap.endLine == cp.line) = true := by decide) (htrees : ∀ env, backTo cp (starEach [e] env) = [(false, eval e env)] := by intro env; rfl)
    (hd : (x == ("__debug__" : Str)) = false := by decide) (hn : (x == ("__classdict__" : Str)) = false := by decide)
    (hi : ∀ env : Env, env.scope.kind = .function → interactive env = false := by intro env h; simp [interactive, h]) :
    H1 C n sc ρ (.Expr (.Call (.Attribute (.Name x xp) "extend" ap) [e] [] cp) pos) Q := fun A env X M s S en m tp => by
  refine wpAny_Expr_any (hi := hi env m.kind) (wpAny_Call_method1_late rfl hline (htrees env) ?_)
  obtain ⟨a, k, vs, lk, ea, za, ra, Ma, -⟩ := m.lst S.ok.t hx
  refine eval_name_eq m lk ⟨"list", "list.extend", F.plainAttrs_list, F.slot_list_extend, F.type_list_extend, (isLst ea).typeIs, fun b e => by cases e; exact ⟨_, ea, rfl⟩, ?_⟩ hd hn
  refine PySem.P.extend_list (wp_false (he A env X M s S en m) fun u s1 zq6 => ex0_2 zq6 fun n1 r1 => ?_)
  have m1 := m.nx n1 S.ok
  obtain ⟨a', k1, vs1, lk1, ea1, za1, ra1, Ma1, up⟩ := m1.lst n1.ok.t hx
  cases Look.inj (lk.keep n1.k S.ok.t) lk1
  have lenv : vs1.length = l.length := ra1.length
  cases r1.i_list with
  | @mk b ws j xb eb zb rb =>
    have lenw : ws.length = ds.length := rb.length
    have hB : BIG ≤ sizeLine := by decide
    refine ⟨b, vs1.toArray, ws.toArray, k1, j, by rw [List.size_toArray]; exact big_line za1, by simp only [List.size_toArray]; lia, ?_, rfl, ea1, eb, ?_⟩
    · have : Builtin.List.listTooLong (vs1.toArray.size + ws.toArray.size) = false := by
        unfold Builtin.List.listTooLong
        simp only [List.size_toArray]
        have h2 : BIG = 1048576 := rfl
        rw [decide_eq_false]
        lia
      rw [this]; simp
    generalize hf : (Obj.mapSeq fun xs => xs ++ ws.toArray) = f
    have up1 : ∃ k', (s1.heap.update a f).get? a = some (seqO "list" (vs1 ++ ws) k') := by
      have := PySem.IsL.update (f := fun xs => xs ++ ws.toArray) ea1
      rw [hf] at this
      rw [this]; exact ⟨_, by simp [seqO]; rfl⟩
    refine ex1_1 up1 fun k' up1 => ?_
    have hs := Heap.SameBut.update s1.heap a f
    have kb : ∀ o, s1.heap.get? a = some o → NF o → ∃ o', (s1.heap.update a f).get? a = some o' ∧ o'.cls = o.cls ∧ NF o' := fun o e _ => by
      obtain rfl := is_some ea1 e; exact ⟨_, up1, rfl, fun _ z => by cases z⟩
    have kq : Kq C (fun b => b = a) s1.heap (s1.heap.update a f) := Kq.one (fun c hc o e => (hs.2 c hc).trans e) kb (fun o e => by obtain rfl := is_some ea1 e; exact fun _ z => by cases z) rfl
    have m2 := up _ (.lst (l ++ ds)) hs kb ⟨a, k', vs1 ++ ws, rfl, rfl, up1, by rw [List.length_append, lenv, lenw]; exact z, RdL.append (ra1.keep kq (fun b e => e ▸ m.mx a Ma) n1.ok.t) (rb.keep kq (fun b e => e ▸ m.mx a Ma) n1.ok.t), Ma⟩ rfl
    have p := Post.upd (t := s1.toks) m1 n1.ok hs kb Ma m2
    exact ⟨.next, _, X, M, q, trivial, .of p.mod ((Kq.of_kp n1.k).trans p.kq) p.ok⟩

noncomputable def dput (kvs : List (Array UInt8 × D)) (k : Array UInt8) (d : D) : List (Array UInt8 × D) :=
  if kvs.any (fun kv => decide (kv.1 = k)) then kvs.map (fun kv => if kv.1 = k then (kv.1, d) else kv) else kvs ++ [(k, d)]

inductive RdP (C : Cx) (h : Heap) (X : Addr → Prop) : List (Array UInt8 × Value) → List (Array UInt8 × D) → Prop where
  | nil : RdP C h X [] []
  | cons {k : Array UInt8} {v : Value} {d : D} {l : List (Array UInt8 × Value)} {kvs : List (Array UInt8 × D)} : Rd C h X v d → RdP C h X l kvs → RdP C h X ((k, v) :: l) ((k, d) :: kvs)
theorem RdE.pairs {es : List DictEntry} {kvs : List (Array UInt8 × D)} (r : RdE C h X es kvs) : ∃ l, Pairs (bytesKind C.prog C.w) es l ∧ RdP C h X l kvs :=
  r.ind (P := fun es kvs => ∃ l, Pairs (bytesKind C.prog C.w) es l ∧ RdP C h X l kvs) ⟨[], .nil, .nil⟩ fun {k t v _ _ _} a _ zq7 => ex1_2 zq7 fun l p q => ⟨(k, v) :: l, .cons (isB_self k t) rfl p, .cons a q⟩
theorem RdP.keys {l : List (Array UInt8 × Value)} {kvs : List (Array UInt8 × D)} (q : RdP C h X l kvs) : l.map (·.1) = kvs.map (·.1) := by
  induction q with
  | nil => rfl
  | cons a r ih => rw [List.map_cons, List.map_cons, ih]
theorem RdP.entries {l : List (Array UInt8 × Value)} {kvs : List (Array UInt8 × D)} (q : RdP C h X l kvs) : ∀ {es : List DictEntry}, Pairs (bytesKind C.prog C.w) es l → KeysOf (bytesKind C.prog C.w) es.toArray → RdE C h X es kvs := by
  induction q with
  | nil => intro es p _; cases p; exact .nil
  | @cons k v d l kvs a r ih =>
    intro es p ks
    cases p with
    | @cons e _ es _ hk hv p =>
      have r' := ih p (fun e he => ks e (by simpa using .inr (by simpa using he)))
      refine ex1_2 (ks e (by simp)) fun k' h1 h2 => ?_
      obtain ⟨hash, key, val⟩ := e
      refine ex1_1 (isB_shape (k := k) hk) fun t ht => ?_
      refine ex1_1 (isB_shape (k := k') h1) fun t' ht' => ?_
      dsimp at ht ht' hv h2
      subst hv ht
      cases ht'
      subst h2
      exact .cons a r'
theorem RdP.any {l : List (Array UInt8 × Value)} {kvs : List (Array UInt8 × D)} {k : Array UInt8} (q : RdP C h X l kvs) : (l.any fun kv => decide (kv.1 = k)) = kvs.any fun kv => decide (kv.1 = k) := by
  induction q with
  | nil => rfl
  | cons a r ih => rw [List.any_cons, List.any_cons, ih]
theorem RdP.map {k : Array UInt8} {v : Value} {d : D} (r : Rd C h X v d) {l : List (Array UInt8 × Value)} {kvs : List (Array UInt8 × D)} (q : RdP C h X l kvs) :
    RdP C h X (l.map fun kv => if kv.1 = k then (kv.1, v) else kv) (kvs.map fun kv => if kv.1 = k then (kv.1, d) else kv) := by
  induction q with
  | nil => exact .nil
  | @cons k' _ _ _ _ a q ih =>
    rw [List.map_cons, List.map_cons]
    by_cases e : k' = k
    · rw [if_pos e, if_pos e]; exact .cons r ih
    · rw [if_neg e, if_neg e]; exact .cons a ih
theorem RdP.snoc {k : Array UInt8} {v : Value} {d : D} (r : Rd C h X v d) {l : List (Array UInt8 × Value)} {kvs : List (Array UInt8 × D)} (q : RdP C h X l kvs) : RdP C h X (l ++ [(k, v)]) (kvs ++ [(k, d)]) := by
  induction q with
  | nil => exact .cons r .nil
  | cons a _ ih => exact .cons a ih
theorem RdP.stored {k : Array UInt8} {v : Value} {d : D} {l : List (Array UInt8 × Value)} {kvs : List (Array UInt8 × D)} (r : Rd C h X v d) (q : RdP C h X l kvs) : RdP C h X (stored l k v) (dput kvs k d) := by
  unfold PySem.stored dput
  rw [q.any]
  split
  · exact q.map r
  · exact q.snoc r
theorem RdE.length {es : List DictEntry} {kvs : List (Array UInt8 × D)} (r : RdE C h X es kvs) : es.length = kvs.length := r.ind (P := fun es kvs => es.length = kvs.length) rfl fun _ _ e => congrArg (· + 1) e

theorem H1_setitem {i e : Expr} {xp sp pos : Pos} {kvs : List (Array UInt8 × D)} {k : Array UInt8} {d : D} {Q : Fl → Rho → Prop} (hx : ρ.get x = .dct kvs) (he : Ev C n sc ρ e d) (hk : Ev C n sc ρ i (.byt k)) (z : kvs.length + 1 ≤ BIG)
    (q : Q .next ((x, .dct (dput kvs k d)) :: ρ)) (hd : (x == ("__debug__" : Str)) = false := by decide) (hn : (x == ("__classdict__" : Str)) = false := by decide)
    (hs : ∀ env, swapsWith e (some (.Subscript (.Name x xp) i sp)) pos.line env = pure false := by intro env; rfl) :
    H1 C n sc ρ (.Assign [.Subscript (.Name x xp) i sp] e pos) Q := fun A env X M s S en m tp => by
  refine wpAny_Assign_Subscript (hs := hs env) (wp_false (he A env X M s S en m) fun u s1 zq8 => ex0_2 zq8 fun n1 r1 => ?_)
  have m1 := m.nx n1 S.ok
  obtain ⟨a, j, es, lk, ea, za, ra, Ma, nd, nl, -⟩ := m1.dct n1.ok.t hx
  refine eval_name_eq m1 lk (wp_false (hk A env X M s1 (S.next n1) en m1) fun kv s2 zq9 => ex0_2 zq9 fun n2 r2 => ?_) hd hn
  have m2 := m1.nx n2 n1.ok
  obtain ⟨a', j', es', lk', ea', za', ra', Ma', nd', nl', up⟩ := m2.dct n2.ok.t hx
  cases Look.inj (lk.keep n2.k n1.ok.t) lk'
  cases r2.i_byt with
  | mk t =>
    refine ex1_2 ra'.pairs fun l hp hr => ?_
    refine wpAny_setItem_pairs (hsz := big_line (by rw [← hp.length]; exact za')) (knd := bytesKind C.prog C.w) (k := k) (kvs := l) (isB_self k t) ⟨_, _, j', ea', ⟨rfl, rfl, rfl⟩, rfl, ra'.keys, hp, by rw [hr.keys]; exact nd'⟩ fun h3 hD hsb => ?_
    refine ex3_6 hD fun o es3 ep e3 zq5 hd3 ks3 p3 nd3 => ?_; try clear hD; refine ex0_3 zq5 fun c1 c2 c3 => ?_; try clear zq5
    have e3' : h3.get? a = some (dictO es3.toList ep) := by
      rw [e3]; obtain ⟨oc, od, odt, osl⟩ := o
      dsimp at c1 c2 c3 hd3; subst c1 c2 c3 hd3; rfl
    have kb : ∀ o, s2.heap.get? a = some o → NF o → ∃ o', h3.get? a = some o' ∧ o'.cls = o.cls ∧ NF o' := fun o e _ => by
      obtain rfl := is_some ea' e; exact ⟨_, e3', rfl, fun _ z => by cases z⟩
    have kq : Kq C (fun b => b = a) s2.heap h3 := Kq.one (fun c hc o e => (hsb.2 c hc).trans e) kb (fun o e => by obtain rfl := is_some ea' e; exact fun _ z => by cases z) rfl
    have sub : ∀ b, b = a → X b := fun b e => e ▸ m2.mx a Ma'
    refine ex1_2 ((RdE.keep kq sub n2.ok.t ra').pairs) fun l2 hp2 hr2 => ?_
    have el : l2 = l := by
      have : ∀ {es : List DictEntry} {l l2 : List (Array UInt8 × Value)}, Pairs (bytesKind C.prog C.w) es l → Pairs (bytesKind C.prog C.w) es l2 → l2 = l := by
        intro es l l2 p
        induction p generalizing l2 with
        | nil => intro q; cases q; rfl
        | @cons e kv es kvs h1 h2 p ih =>
          intro q
          cases q with
          | @cons _ kv2 _ kvs2 g1 g2 q =>
            rw [ih q]
            obtain ⟨k1, v1⟩ := kv
            obtain ⟨k2, v2⟩ := kv2
            dsimp at *
            rw [(bytesKind C.prog C.w).inj _ _ _ g1 h1, ← g2, ← h2]
      exact this hp hp2
    subst el
    have rd' : Rd C h3 X u d := (r1.nx n2 n1.ok).keep kq sub n2.ok.t
    have rs : RdP C h3 X (stored l2 k u) (dput kvs k d) := RdP.stored rd' hr2
    have re : RdE C h3 X es3.toList (dput kvs k d) := rs.entries p3 (by simpa using ks3)
    have hlen : (dput kvs k d).length ≤ kvs.length + 1 := by
      unfold dput; split <;> simp
    have m3 := up h3 (.dct (dput kvs k d)) hsb kb ⟨a, ep, es3.toList, rfl, rfl, e3', by rw [re.length]; lia, re, Ma', by rw [← rs.keys]; exact nd3, nl'⟩ rfl
    have p := Post.upd (t := s2.toks + 1) m2 n2.ok hsb kb Ma' m3
    exact ⟨.next, _, X, M, q, trivial, .of p.mod ((Kq.of_kp (n1.trans n2).k).trans p.kq) p.ok⟩
end
end Mine
namespace Mine

section
variable {C : Cx} {n : Lv} {sc : Sc} {ρ ρ' : Rho} {env : Env} {X M X' M' N : Addr → Prop} {s₀ s s' : Shared} {h h' : Heap} {x : Str}

noncomputable def Sub (C : Cx) (sc : Sc) (ρ ρ' : Rho) : Prop :=
  ∀ env X M h, EnvIs C sc env → TabOK C h → Mod C env ρ X M h → ∃ X' M', Mod C env ρ' X' M' h ∧ (∀ a, X' a → X a) ∧ (∀ a, M' a → M a) ∧ ∀ a, X a → ¬ M a → X' a

theorem Sub.refl : Sub C sc ρ ρ := fun env X M h _ _ m => ⟨X, M, m, fun _ => id, fun _ => id, fun _ q _ => q⟩
theorem Sub.trans {ρ'' : Rho} (p : Sub C sc ρ ρ') (q : Sub C sc ρ' ρ'') : Sub C sc ρ ρ'' := fun env X M h e T m => by
  refine ex2_4 (p env X M h e T m) fun X1 M1 m1 a1 b1 c1 => ?_
  refine ex2_4 (q env X1 M1 h e T m1) fun X2 M2 m2 a2 b2 c2 => ?_
  exact ⟨X2, M2, m2, fun a z => a1 a (a2 a z), fun a z => b1 a (b2 a z), fun a z w => c2 a (c1 a z w) fun q => w (b1 a q)⟩

theorem Mod.drop (m : Mod C env ρ X M h) (T : TabOK C h) (x : Str) (hu : ρ.get x ≠ .unk) : ∃ v oa, Look h env x v ∧ SlotV C env X M h v (ρ.get x) oa ∧
    ∀ a, oa = some a → ∀ sl', SlotV C env (fun b => X b ∧ b ≠ a) (fun b => M b ∧ b ≠ a) h v sl' none → sl'.capt = false → (ρ.get x).capt = false → Mod C env ((x, sl') :: ρ) (fun b => X b ∧ b ≠ a) (fun b => M b ∧ b ≠ a) h := by
  refine ex1_2 m.vars fun own q1 q2 => ?_
  refine ex1_2 ((q1 x).toV hu) fun v l sv => ?_
  refine ⟨v, own x, l, sv, fun a ha sl' hv nc nc0 => ?_⟩
  rw [ha] at sv
  refine ex0_4 sv.own_live fun zq1 hMa nc1 nl => ?_; refine ex1_1 zq1 fun oa ea => ?_; try clear zq1
  refine ex1_1 m.ns fun mm hn => ?_
  refine { glob := m.glob, blt := m.blt, kind := m.kind, ns := m.ns, lm := ⟨m.lm, fun e => nl mm hn e.symm⟩, mx := fun b q => ⟨m.mx b q.1, q.2⟩, live := fun b q => m.live b q.1, alive := fun b q => m.alive b q.1, cinj := fun y z b q => m.cinj y z b q.1, cells := m.cells, cellM := fun y c hy hc hf' => ⟨?_, ?_⟩, hasc := m.hasc, cellX := fun y c d hc hg => ?_, vars := ⟨fun y => if y = x then none else own y, fun y => ?_, fun y z b => ?_⟩ }
  · refine m.cellM y c hy hc ?_
    rw [Rho.get_cons] at hf'
    by_cases hyx : y = x
    · subst hyx; exact nc0
    · rw [if_neg hyx] at hf'; exact hf'
  · rintro rfl
    refine ex1_1 (m.cells y c hc) fun w e => ?_
    exact nc1 _ e
  · rw [Rho.get_cons] at hg
    by_cases hyx : y = x
    · subst hyx; rw [if_pos rfl] at hg; subst hg; cases nc
    · rw [if_neg hyx] at hg; exact fun z => m.cellX y c d hc hg z.1
  · show SlotOk C env _ _ h y _ (if y = x then none else own y)
    rw [Rho.get_cons]
    by_cases hyx : y = x
    · subst hyx; rw [if_pos rfl, if_pos rfl]; exact hv.ok l
    · rw [if_neg hyx, if_neg hyx]
      by_cases hu : ρ.get y = .unk
      · have := q1 y; rw [hu] at this ⊢; exact this
      · refine ex1_2 ((q1 y).toV hu) fun u l' q => ?_
        refine SlotV.ok l' ?_
        have q3 := q.anti (X' := fun b => X b ∧ b ≠ a) (M' := M) (fun _ _ _ z => z.1) (fun _ => id)
        have : ∀ b, own y = some b → b ≠ a := fun b e e' => hyx (q2 y x b e (e' ▸ ha))
        revert q3
        generalize own y = oy at this
        generalize ρ.get y = sy
        intro q3
        cases sy with
        | unk => exact q3
        | val d => exact q3
        | frz d => exact q3
        | ext d => exact q3
        | lst l => refine ex3_6 q3 fun b n vs r1 r2 r3 r4 r5 r6 => ?_; try clear q3; exact ⟨b, n, vs, r1, r2, r3, r4, r5, r6, this b r1⟩
        | dct l => refine ex3_7 q3 fun b n vs r1 r2 r3 r4 r5 r6 r7 => ?_; try clear q3; exact ⟨b, n, vs, r1, r2, r3, r4, r5, ⟨r6, this b r1⟩, r7⟩
        | wl l => refine ex2_4 q3 fun b p r1 r2 r3 r4 => ?_; try clear q3; exact ⟨b, p, r1, r2, r3, r4, this p r1⟩
  · show (if y = x then none else own y) = some b → (if z = x then none else own z) = some b → y = z
    by_cases hy : y = x <;> by_cases hz : z = x
    · intro _ _; rw [hy, hz]
    · rw [if_pos hy]; intro e; cases e
    · rw [if_pos hz]; intro _ e; cases e
    · rw [if_neg hy, if_neg hz]; exact q2 y z b

theorem Sub_lst (x : Str) {l : List D} (hx : ρ.get x = .lst l) : Sub C sc ρ ((x, .val (.list l)) :: ρ) := fun env X M h e T m => by
  refine ex2_3 (m.drop T x (by rw [hx]; simp)) fun v oa lk sv up => ?_
  rw [hx] at sv
  refine ex3_6 sv fun a k vs zq2 zq3 ea za ra Ma => ?_; try clear sv; subst zq2; subst zq3
  exact ⟨_, _, up a rfl _ ⟨rfl, .list (fun z => z.2 rfl) ea za (ra.anti fun _ _ _ z => z.1)⟩ rfl (by rw [hx]; rfl), fun _ z => z.1, fun _ z => z.1, fun b z w => ⟨z, fun e => w (e ▸ Ma)⟩⟩
theorem Sub_dct (x : Str) {l : List (Array UInt8 × D)} (hx : ρ.get x = .dct l) : Sub C sc ρ ((x, .val (.dict l)) :: ρ) := fun env X M h e T m => by
  refine ex2_3 (m.drop T x (by rw [hx]; simp)) fun v oa lk sv up => ?_
  rw [hx] at sv
  refine ex3_8 sv fun a k vs zq4 zq5 ea za ra Ma nd nl => ?_; try clear sv; subst zq4; subst zq5
  have : (a == sysModules) = false := by
    rw [beq_eq_false_iff_ne]; exact nl.2
  exact ⟨_, _, up a rfl _ ⟨rfl, .dict (fun z => z.2 rfl) this ea za (RdE.anti (fun _ _ _ z => z.1) ra)⟩ rfl (by rw [hx]; rfl), fun _ z => z.1, fun _ z => z.1, fun b z w => ⟨z, fun e => w (e ▸ Ma)⟩⟩
theorem Sub_wl (x : Str) {l : List (Int × Array UInt8)} (hx : ρ.get x = .wl l) : Sub C sc ρ ((x, .val (.wl l)) :: ρ) := fun env X M h e T m => by
  refine ex2_3 (m.drop T x (by rw [hx]; simp)) fun v oa lk sv up => ?_
  rw [hx] at sv
  refine ex2_4 sv fun a p zq6 zq7 zq8 Ma => ?_; try clear sv; subst zq6; subst zq7; obtain ⟨dx, es, n, j, vs, n1, n2, e1, e2, e3, e4, z, r⟩ := zq8
  exact ⟨_, _, up p rfl _ ⟨rfl, .wl (fun z => n1 z.1) (fun z => n2 z.1) (fun z => z.2 rfl) e1 e2 e3 e4 z (RdW.anti (fun _ _ _ z => z.1) r)⟩ rfl (by rw [hx]; rfl), fun _ z => z.1, fun _ z => z.1, fun b z w => ⟨z, fun e => w (e ▸ Ma)⟩⟩

theorem Sub_frz (x : Str) {d : D} (hx : ρ.get x = .val d) (hk : sc.scope.names.lookup x = some .cell := by rfl) : Sub C sc ρ ((x, .frz d) :: ρ) := fun env X M h e T m => by
  refine ex1_1 (m.hasc x (names_loc e hk)) fun c hc => ?_
  refine ex1_1 (m.cells x c hc) fun w ec => ?_
  refine ex1_2 m.vars fun own q1 q2 => ?_
  refine ex1_1 m.ns fun mm hn => ?_
  have nl : env.locals ≠ c := fun e => by
    refine ex3_3 hn fun o es ep e2 hd _ => ?_; try clear hn
    rw [e, ec] at e2; cases e2; cases hd
  have hMc : M c := m.cellM x c (names_loc e hk) hc (by rw [hx]; rfl)
  refine ⟨fun b => X b ∧ b ≠ c, fun b => M b ∧ b ≠ c, { glob := m.glob, blt := m.blt, kind := m.kind, ns := m.ns, lm := ⟨m.lm, nl⟩, mx := fun b q => ⟨m.mx b q.1, q.2⟩, live := fun b q => m.live b q.1, alive := fun b q => m.alive b q.1, cinj := fun y z b q => m.cinj y z b q.1, cells := m.cells, cellM := fun y c' hy hc' hf' => ?_, hasc := m.hasc, cellX := fun y c' d hc' hg => ?_, vars := ⟨own, fun y => ?_, q2⟩ }, fun _ z => z.1, fun _ z => z.1, fun b z w => ⟨z, fun e => w (e ▸ hMc)⟩⟩
  · rw [Rho.get_cons] at hf'
    by_cases hyx : y = x
    · subst hyx; rw [if_pos rfl] at hf'; cases hf'
    · rw [if_neg hyx] at hf'; exact ⟨m.cellM y c' hy hc' hf', fun e => hyx (by subst e; exact m.cinj y x _ hMc hc' hc)⟩
  · rw [Rho.get_cons] at hg
    by_cases hyx : y = x
    · subst hyx; obtain rfl := is_some hc hc'; exact fun z => z.2 rfl
    · rw [if_neg hyx] at hg; exact fun z => m.cellX y c' d hc' hg z.1
  · rw [Rho.get_cons]
    by_cases hyx : y = x
    · subst hyx; rw [if_pos rfl]
      have := q1 y; rw [hx] at this
      refine ex0_2 this fun r1 zq9 => ?_; try clear this; refine ex1_2 zq9 fun v r2 r3 => ?_; try clear zq9
      exact ⟨r1, v, r2, r3.anti fun _ _ _ z => z.1⟩
    · rw [if_neg hyx]
      by_cases hu : ρ.get y = .unk
      · have := q1 y; rw [hu] at this ⊢; exact this
      · refine ex1_2 ((q1 y).toV hu) fun u l' q => ?_
        refine SlotV.ok l' ?_
        have q3 := q.anti (X' := fun b => X b ∧ b ≠ c) (M' := M) (fun _ _ _ z => z.1) (fun _ => id)
        have : ∀ b, own y = some b → b ≠ c := fun b e e' => by
          subst e'
          rw [e] at q
          exact q.own_live.2.2.1 _ ec
        revert q3
        generalize own y = oy at this
        generalize ρ.get y = sy
        intro q3
        cases sy with
        | unk => exact q3
        | val d => exact q3
        | frz d => exact q3
        | ext d => exact q3
        | lst l => refine ex3_6 q3 fun b n vs r1 r2 r3 r4 r5 r6 => ?_; try clear q3; exact ⟨b, n, vs, r1, r2, r3, r4, r5, r6, this b r1⟩
        | dct l => refine ex3_7 q3 fun b n vs r1 r2 r3 r4 r5 r6 r7 => ?_; try clear q3; exact ⟨b, n, vs, r1, r2, r3, r4, r5, ⟨r6, this b r1⟩, r7⟩
        | wl l => refine ex2_4 q3 fun b p r1 r2 r3 r4 => ?_; try clear q3; exact ⟨b, p, r1, r2, r3, r4, this p r1⟩

noncomputable def Agr (ρ : Rho) : Rho → Prop
  | [] => True
  | (x, s) :: r => ρ.get x = s ∧ Agr ρ r
theorem Agr.get : ∀ {ρ' : Rho} {x : Str}, Agr ρ ρ' → ρ'.get x ≠ .unk → ρ.get x = ρ'.get x
  | [], x, _, h => absurd rfl h
  | (y, s) :: r, x, ⟨a, q⟩, h => by
    rw [Rho.get_cons] at h ⊢
    by_cases e : x = y
    · subst e; rw [if_pos rfl]; exact a
    · rw [if_neg e] at h ⊢; exact Agr.get q h
theorem Rho.get_mem : ∀ {ρ : Rho} {x : Str}, ρ.get x ≠ .unk → (x, ρ.get x) ∈ ρ
  | [], x, h => absurd rfl h
  | (y, s) :: r, x, h => by
    rw [Rho.get_cons] at h ⊢
    by_cases e : x = y
    · subst e; rw [if_pos rfl]; exact .head _
    · rw [if_neg e] at h ⊢; exact .tail _ (Rho.get_mem h)
noncomputable def Wk (C : Cx) (ρ ρ' : Rho) : Prop := ∀ env X M h, Mod C env ρ X M h → Mod C env ρ' X M h
theorem Wk_weak (ha : Agr ρ ρ') (hc : (ρ.all fun p => !p.2.capt || (ρ'.get p.1).capt) = true := by rfl) : Wk C ρ ρ' := fun env X M h m => by
  have hcap : ∀ x, (ρ'.get x).capt = false → (ρ.get x).capt = false := fun x q => by
    cases hq : (ρ.get x).capt with
    | false => rfl
    | true =>
      have := List.all_eq_true.mp hc _ (Rho.get_mem (x := x) (ρ := ρ) (fun e => by rw [e] at hq; cases hq))
      dsimp at this; rw [hq, q] at this; cases this
  refine ex1_2 m.vars fun own q1 q2 => ?_
  refine { m with cellM := fun y c hy hc' hf' => m.cellM y c hy hc' (hcap y hf'), cellX := fun y c d hc' hg => m.cellX y c d hc' ((ha.get (by rw [hg]; simp)).trans hg), vars := ?_ }
  classical
  refine ⟨fun y => if ρ'.get y = .unk then none else own y, fun y => ?_, fun y z a => ?_⟩
  · show SlotOk C env X M h y _ (if ρ'.get y = .unk then none else own y)
    by_cases hu : ρ'.get y = .unk
    · rw [if_pos hu, hu]; rfl
    · rw [if_neg hu, ← ha.get hu]; exact q1 y
  · show (if ρ'.get y = .unk then none else own y) = some a → (if ρ'.get z = .unk then none else own z) = some a → y = z
    by_cases hy : ρ'.get y = .unk <;> by_cases hz : ρ'.get z = .unk
    · rw [if_pos hy]; intro e; cases e
    · rw [if_pos hy]; intro e; cases e
    · rw [if_pos hz]; intro _ e; cases e
    · rw [if_neg hy, if_neg hz]; exact q2 y z a

theorem Sub_weak (ha : Agr ρ ρ') (hc : (ρ.all fun p => !p.2.capt || (ρ'.get p.1).capt) = true := by rfl) : Sub C sc ρ ρ' := fun env X M h e T m =>
  ⟨X, M, Wk_weak ha hc env X M h m, fun _ => id, fun _ => id, fun _ q _ => q⟩

theorem Post.sub {ρ'' : Rho} (m : Mod C env ρ X M s.heap) (p : Post C env X M s ρ' X' M' s') (e : EnvIs C sc env) (q : Sub C sc ρ' ρ'') : ∃ X'' M'', Post C env X M s ρ'' X'' M'' s' ∧ (∀ a, X'' a → X' a) ∧ (∀ a, M'' a → M' a) ∧ ∀ a, X' a → ¬ M' a → X'' a := by
  refine ex2_4 (q env X' M' s'.heap e p.ok.t p.mod) fun X2 M2 m2 a2 b2 c2 => ?_
  refine ⟨X2, M2, ⟨m2, p.kq, p.ok, fun a z w => ?_, fun a z => p.mm a (b2 a z), fun a z => p.xm a (a2 a z)⟩, a2, b2, c2⟩
  refine c2 a (p.xx a z w) fun q => (p.mm a q).elim w fun e' => ?_
  refine ex1_1 (m.live a z) fun o e2 => ?_
  exact no_some e' e2
theorem Post.under {ρ' ρ'' : Rho} {X₁ M₁ : Addr → Prop} (p : Post C env X₁ M₁ s ρ'' X' M' s') (m : Mod C env ρ X M s.heap) (a1 : ∀ a, X₁ a → X a) (b1 : ∀ a, M₁ a → M a) (c1 : ∀ a, X a → ¬ M a → X₁ a) : Post C env X M s ρ'' X' M' s' :=
  ⟨p.mod, p.kq.mono b1, p.ok, fun a z w => p.xx a (c1 a z w) fun q => w (b1 a q), fun a z => (p.mm a z).imp (b1 a) id, fun a z => (p.xm a z).imp (a1 a) id⟩

theorem Ht.under {t : Env → Sem Flow} {Q : Fl → Rho → Prop} (q : Sub C sc ρ ρ') (h : Ht C n sc ρ' t Q) : Ht C n sc ρ t Q := fun A env X M s S e m tp => by
  refine ex2_4 (q env X M s.heap e S.ok.t m) fun X1 M1 m1 a1 b1 c1 => ?_
  exact wp_false (h A env X1 M1 s S e m1 tp) fun f s' ⟨fl, ρ2, X2, M2, q2, r2, p2⟩ => ⟨fl, ρ2, X2, M2, q2, r2, p2.under (ρ' := ρ') m a1 b1 c1⟩

noncomputable def D.atom : D → Bool
  | .none | .bool _ | .int _ | .byt _ => true
  | _ => false
theorem Rd.atom {v : Value} {d : D} (r : Rd C h X v d) (hd : d.atom = true) : Rd C h' X' v d := by
  cases d with
  | none => exact r.i_none ▸ .none
  | bool b => exact r.i_bool ▸ .bool b
  | int i => cases r.i_int; exact .int _ _
  | byt b => cases r.i_byt; exact .byt _ _
  | _ => cases hd

theorem Ev.under {e : Expr} {d : D} (q : Sub C sc ρ ρ') (h : Ev C n sc ρ' e d) (hd : d.atom = true := by rfl) : Ev C n sc ρ e d := fun A env X M s S en m => by
  refine ex2_4 (q env X M s.heap en S.ok.t m) fun X1 M1 m1 a1 b1 c1 => ?_
  exact wp_false (h A env X1 M1 s S en m1) fun v s' zq11 => ex0_2 zq11 fun n1 r1 => ⟨n1, r1.atom hd⟩
theorem Et.under {e : Expr} {b : Bool} (q : Sub C sc ρ ρ') (h : Et C n sc ρ' e b) : Et C n sc ρ e b := fun A env X M s S en m => by
  refine ex2_4 (q env X M s.heap en S.ok.t m) fun X1 M1 m1 a1 b1 c1 => ?_
  exact h A env X1 M1 s S en m1

theorem H1_if {t : Expr} {b : Bool} {bd el : List Stmt} {pos : Pos} {Q : Fl → Rho → Prop} (ht : Et C n sc ρ t b) (h1 : b = true → Hs C n sc ρ bd Q) (h2 : b = false → Hs C n sc ρ el Q) : H1 C n sc ρ (.If t bd el pos) Q := fun A env X M s S e m tp =>
  wpAny_If (wp_false (ht A env X M s S e m) fun r s1 zq12 => ex0_2 zq12 fun n1 hr => by
    subst hr
    have m1 := m.nx n1 S.ok
    have fin : ∀ (f : Flow) (s2 : Shared), HtP C env X M s1 Q f s2 → HtP C env X M s Q f s2 := fun f s2 ⟨fl, ρ2, X2, M2, q2, r2, p2⟩ =>
      ⟨fl, ρ2, X2, M2, q2, r2, (Post.of m1 (.of_kp n1.k) n1.ok).trans m p2⟩
    cases r with
    | true => exact wp_false (h1 rfl A env X M s1 (S.next n1) e m1 tp) fin
    | false => exact wp_false (h2 rfl A env X M s1 (S.next n1) e m1 tp) fin)

theorem H1_ifF {t : Expr} {bd el : List Stmt} {pos : Pos} {Q : Fl → Rho → Prop} (ht : Et C n sc ρ t false) (h : Hs C n sc ρ el Q) : H1 C n sc ρ (.If t bd el pos) Q := H1_if ht (fun z => nomatch z) fun _ => h
theorem H1_ifT {t : Expr} {bd el : List Stmt} {pos : Pos} {Q : Fl → Rho → Prop} (ht : Et C n sc ρ t true) (h : Hs C n sc ρ bd Q) : H1 C n sc ρ (.If t bd el pos) Q := H1_if ht (fun _ => h) fun z => nomatch z

theorem H1_return {v : Expr} {d : D} {pos : Pos} {Q : Fl → Rho → Prop} (h : Ev C n sc ρ v d) (q : Q (.ret d) ρ) : H1 C n sc ρ (.Return (some v) pos) Q := fun A env X M s S e m tp =>
  wpAny_Return_some (wp_false (h A env X M s S e m) fun v' s1 zq13 => ex0_2 zq13 fun n1 r1 => ⟨.ret d, ρ, X, M, q, r1, .of (m.nx n1 S.ok) (.of_kp n1.k) n1.ok⟩)
theorem H1_break {pos : Pos} {Q : Fl → Rho → Prop} (q : Q .brk ρ) : H1 C n sc ρ (.Break pos) Q := fun A env X M s S e m tp => wpAny_Break ⟨.brk, ρ, X, M, q, trivial, .refl m S.ok⟩
theorem H1_continue {pos : Pos} {Q : Fl → Rho → Prop} (q : Q .cont ρ) : H1 C n sc ρ (.Continue pos) Q := fun A env X M s S e m tp => wpAny_Continue ⟨.cont, ρ, X, M, q, trivial, .refl m S.ok⟩

theorem H1_iadd {x : Str} {v : Expr} {a b : Int} {p pos : Pos} {Q : Fl → Rho → Prop} (hx : ρ.get x = .val (.int a)) (h : Ev C n sc ρ v (.int b)) (q : Q .next ((x, .val (.int (a + b))) :: ρ))
    (hk : isLoc (sc.scope.names.lookup x) = true := by rfl) (hn : (x == ("__classdict__" : Str)) = false := by decide) : H1 C n sc ρ (.AugAssign (.Name x p) .Add v pos) Q := fun A env X M s S e m tp => by
  refine ex1_2 (look_of m (.inl hx)) fun u l r => ?_
  refine wpAny_AugAssign_Name (wpAny_look m.kind l (wp_false (h A env X M s S e m) fun v' s1 zq14 => ex0_2 zq14 fun n1 r1 => ?_) hn)
  cases r.i_int; cases r1.i_int
  refine PyProof.Rows.iadd_int ?_
  refine wpAny_put (N := fun _ => False) (X' := X) (M' := M) (oa := none) (sl := .val (.int (a + b))) n1.ok n1.ok.tok (m.nx n1 S.ok) (fun _ _ => id) (kind_or e hk) (by simp) (by simp) (fun _ z => z.elim) (by rw [hx]; rfl) ⟨rfl, .int _ _⟩ (by simp) rfl fun s' o m' k => ⟨.next, _, X, M, q, trivial, .of m' ((Kq.of_kp n1.k).trans k) o⟩

theorem Ok.low (o : Ok C s) : sysModules < s.heap.objs.size := by
  refine ex1_2 C.nolim fun mc zq10 _ => ?_; refine ex3_3 zq10 fun ob es ep e hd _ => ?_; try clear zq10
  refine ex1_2 (o.k.kind _ ob e (fun vs z => by rw [hd] at z; cases z)) fun o' e' _ => ?_
  exact Nat.lt_trans (by decide) (Heap.lt_size e')

theorem H1_newdict {x : Str} {p1 p2 pos : Pos} {Q : Fl → Rho → Prop} (q : Q .next ((x, .dct []) :: ρ))
    (hk : isLoc (sc.scope.names.lookup x) = true := by rfl) (hf : (ρ.get x).capt = false := by rfl) : H1 C n sc ρ (.Assign [.Name x p1] (.Dict [] [] p2) pos) Q := fun A env X M s S e m tp => by
  refine wpAny_Assign_Name (wpAny_Dict_empty ?_)
  have fr : s.heap.get? s.heap.objs.size = none := by
    cases e : s.heap.get? s.heap.objs.size with
    | none => rfl
    | some o => exact absurd (Heap.lt_size e) (Nat.lt_irrefl _)
  have n2 : Nx C s { s with heap := s.heap.push { cls := .type "dict", data := .dict #[] } } := Nx.keeps' S.ok (push_keeps _)
  have at1 : (s.heap.push { cls := .type "dict", data := .dict #[] }).get? s.heap.objs.size = some (dictO [] 0) := Heap.get?_push_size _ rfl
  refine ex1_1 m.ns fun mm hn => ?_
  refine wpAny_put (X' := fun a => X a ∨ a = s.heap.objs.size) (M' := fun a => M a ∨ a = s.heap.objs.size) (N := fun a => a = s.heap.objs.size) (oa := some s.heap.objs.size) (sl := .dct []) S.ok n2.ok m (push_keeps _) (kind_or e hk) (fun _ => Iff.rfl) (fun _ => Iff.rfl)
    (fun a z => by subst z; exact ⟨fr, _, at1, fun _ z => by cases z⟩) hf ⟨_, _, [], rfl, rfl, at1, by decide, .nil, .inr rfl, .nil, fun e => absurd hn.lt (by rw [← e]; exact Nat.lt_irrefl _), fun e => absurd S.ok.low (by rw [← e]; exact Nat.lt_irrefl _)⟩ (fun a z => by cases z; rfl) rfl fun s' o' m' k' => ⟨.next, _, _, _, q, trivial, m', (Kq.of_kp n2.k).trans k', o', fun a z _ => .inl z, fun a z => z.elim .inl fun z => .inr (by subst z; exact fr), fun a z => z.elim .inl fun z => .inr (by subst z; exact fr)⟩
end
end Mine
namespace Mine

section
variable {C : Cx} {n : Lv} {sc : Sc} {ρ ρ' : Rho} {env : Env} {X M X' M' fp : Addr → Prop} {s₀ s s' : Shared} {h h' h₂ : Heap} {x : Str}

noncomputable def LoopQ (C : Cx) (sc : Sc) {σ : Type} (R : σ → Rho) (go : σ → Prop) (Q : Fl → Rho → Prop) : Fl → Rho → Prop := fun fl ρ' => match fl with
  | .next => ∃ j, go j ∧ Sub C sc ρ' (R j)
  | .cont => ∃ j, go j ∧ Sub C sc ρ' (R j)
  | .brk => Q .next ρ'
  | .ret d => Q (.ret d) ρ'

noncomputable abbrev WhI {σ : Type} (C : Cx) (env : Env) (X M : Addr → Prop) (s : Shared) (R : σ → Rho) (I : σ → Prop) (μ : σ → Nat) (k : Nat) (s' : Shared) : Prop :=
  ∃ i X' M', I i ∧ μ i = k ∧ Post C env X M s (R i) X' M' s'
theorem H1_while {σ : Type} {t : Expr} {bd : List Stmt} {pos : Pos} {Q : Fl → Rho → Prop} (I : σ → Prop) (R : σ → Rho) (μ : σ → Nat)
    (turn : ∀ i, I i → ∃ b, Et C n sc (R i) t b ∧ (b = true → Hs C n sc (R i) bd (LoopQ C sc R (fun j => I j ∧ μ j < μ i) Q)) ∧ (b = false → Q .next (R i)))
    (i : σ) (hi : I i) (h0 : Sub C sc ρ (R i)) : H1 C n sc ρ (.While t bd [] pos) Q := fun A env X M s S e m tp => by
  refine wpAny_While (codeAny_whileLoop (WhI C env X M s R I μ) ?_ (μ i) ?_)
  · intro k s1 zi1; refine ex3_3 zi1 fun i X1 M1 hi hk p => ?_; try clear zi1
    refine ex1_3 (turn i hi) fun b ht h1 h2 => ?_
    have S1 := S.step p.kq p.ok fun a z => (m.alive a z).2
    refine wp_false (ht A env X1 M1 s1 S1 e p.mod) fun r s2 zq4 => ex0_2 zq4 fun n2 hr => ?_
    subst hr
    have p2 : Post C env X M s (R i) X1 M1 s2 := p.trans m (.of (p.mod.nx n2 p.ok) (.of_kp n2.k) n2.ok)
    cases r with
    | true =>
      refine wp_false (h1 rfl A env X1 M1 s2 (S1.next n2) e p2.mod tp) fun f s3 ⟨fl, ρ2, X2, M2, q2, r2, p3⟩ => ?_
      have p4 := p2.trans m p3
      cases r2.i
      · refine ex1_2 q2 fun j zq1 sb => ?_; try clear q2; refine ex0_2 zq1 fun hj hlt => ?_; try clear zq1
        refine ex2_2 (p4.sub m e sb) fun X3 M3 p5 _ => ?_
        exact ⟨μ j, hk ▸ hlt, j, X3, M3, hj, rfl, p5⟩
      · exact ⟨.next, ρ2, X2, M2, q2, trivial, p4⟩
      · refine ex1_2 q2 fun j zq2 sb => ?_; try clear q2; refine ex0_2 zq2 fun hj hlt => ?_; try clear zq2
        refine ex2_2 (p4.sub m e sb) fun X3 M3 p5 _ => ?_
        exact ⟨μ j, hk ▸ hlt, j, X3, M3, hj, rfl, p5⟩
      · exact ⟨.ret _, ρ2, X2, M2, q2, r2, p4⟩
    | false => exact wpAny_execs_nil ⟨.next, R i, X1, M1, h2 rfl, trivial, p2⟩
  · refine ex2_2 ((Post.refl m S.ok).sub m e h0) fun X1 M1 p _ => ?_
    exact ⟨i, X1, M1, hi, rfl, p⟩

structure Stp (C : Cx) (fp : Addr → Prop) (s s' : Shared) : Prop where
  kq : Kq C fp s.heap s'.heap
  ok : Ok C s'

structure WalkJ (C : Cx) (t : Expr) (it : Value) (fp : Addr → Prop) (J : Heap → (Addr → Prop) → List D → Prop) : Prop where
  live : ∀ {h X ds}, J h X ds → ∀ a, fp a → ∃ o vs, h.get? a = some o ∧ o.data = .fields vs
  keep : ∀ {M h h' X ds}, J h X ds → Kq C M h h' → (∀ a, M a → X a) → (∀ a, fp a → ¬ M a) → TabOK C h → J h' X ds
  anti : ∀ {h X X' ds}, J h X ds → (∀ a o, h.get? a = some o → X' a → X a) → J h X' ds
  again : ∀ {A s X ds Q}, J s.heap X ds → Q it s → wpAny C.M A (pyIter it) Q (fun _ _ => False) s
  nil : ∀ {n A s X}, n.h = false → Sit C n A s → (∀ a, fp a → X a) → J s.heap X [] → wpAny C.M A (pyNext it) (fun r s' => r = none ∧ Stp C fp s s') (fun _ _ => False) s
  cons : ∀ {n A s X d ds}, Sit C n A s → (∀ a, fp a → X a) → (∀ a, X a → ∃ o, s.heap.get? a = some o) → J s.heap X (d :: ds) → wpAny C.M A (pyNext it) (fun r s' => ∃ v, r = some v ∧
    wpAny C.M A (letOwnedTupleGo t it v) (fun _ s'' => Stp C fp s s'' ∧ Rd C s''.heap X v d ∧ J s''.heap X ds) (fun _ _ => False) s') (fun _ _ => False) s

inductive Beg (C : Cx) (t : Expr) (X : Addr → Prop) (s : Shared) (ds : List D) (it : Value) (s' : Shared) : Prop where
  | mk : Nx C s s' → ∀ (fp : Addr → Prop) (J : Heap → (Addr → Prop) → List D → Prop), WalkJ C t it fp J → J s'.heap (fun a => X a ∨ fp a) ds → (∀ a, fp a → s.heap.get? a = none) → Beg C t X s ds it s'

noncomputable def Eit (C : Cx) (n : Lv) (sc : Sc) (ρ : Rho) (e t : Expr) (ds : List D) : Prop :=
  ∀ A env X M s, Sit C n A s → EnvIs C sc env → Mod C env ρ X M s.heap →
    wpAny C.M A (eval e env) (fun x s1 => wpAny C.M A (pyIter x) (Beg C t X s ds) (fun _ _ => False) s1) (fun _ _ => False) s

theorem SlotV.sink {sl : Slot} {oa : Option Addr} {v : Value} (q : SlotV C env X M h v sl oa) (hu : sl ≠ .unk) (T : TabOK C h) (k : Kp C h h₂) (hx : ∀ a o, h.get? a = some o → X' a → X a) : SlotV C env X' M h₂ v sl oa :=
  (q.anti hx fun _ => id).keep k (fun _ z => z.elim) T (fun _ _ => id) fun _ => id

theorem Mod.hide (m : Mod C env ρ X M h) (T : TabOK C h) (k : Kp C h h₂) (T2 : TabOK C h₂) (hf : ∀ a, fp a → h.get? a = none ∧ ∃ o, h₂.get? a = some o) : Mod C env ρ (fun a => X a ∨ fp a) M h₂ := by
  have m2 := m.keep k T T2
  refine { m2 with mx := fun a q => .inl (m.mx a q), live := fun a q => q.elim (m2.live a) fun z => (hf a z).2, cellX := fun y c d hc hg z => z.elim (m.cellX y c d hc hg) fun z => ?_, vars := ?_ }
  · refine ex1_1 (m.cells y c hc) fun w e => ?_
    exact no_some ((hf c z).1) e
  · refine ex1_2 m.vars fun own q1 q2 => ?_
    refine ⟨own, fun y => ?_, q2⟩
    by_cases hu : ρ.get y = .unk
    · have := q1 y; rw [hu] at this ⊢; exact this
    · refine ex1_2 ((q1 y).toV hu) fun u l' q => ?_
      exact SlotV.ok (l'.keep k T) (q.sink hu T k fun a o e z => z.elim id fun z => by exact no_some ((hf a z).1) e)

theorem Mod.side (m : Mod C env ρ X M h) (T : TabOK C h) (k : Kq C fp h h₂) (T2 : TabOK C h₂) (hx : ∀ a, fp a → X a) (hM : ∀ a, fp a → ¬ M a) (hcn : ∀ y c, env.cells.lookup y = some c → ¬ fp c) (hX' : ∀ a, X' a → X a ∧ (fp a → ∃ o, h₂.get? a = some o)) (hM' : ∀ a, M a → X' a) : Mod C env ρ X' M h₂ := by
  have look : ∀ y u, Look h env y u → Look h₂ env y u := fun y u l => by
    rcases l with ⟨q1, f, q2, q3⟩ | ⟨q1, c, q2, q3⟩
    · exact .inl ⟨q1, f, Ns_kq k T (fun z => hM _ z m.lm) q2, q3⟩
    · exact .inr ⟨q1, c, q2, k.exact (hcn _ _ q2) (T.notab q3 (by simp)) q3 (by simp)⟩
  exact {
    glob := m.glob
    blt := m.blt
    kind := m.kind
    ns := let ⟨f, q⟩ := m.ns; ⟨f, Ns_kq k T (fun z => hM _ z m.lm) q⟩
    lm := m.lm
    mx := hM'
    live := fun a q => by
      by_cases z : fp a
      · exact (hX' a q).2 z
      · refine ex1_1 (m.live a (hX' a q).1) fun o e => ?_
        by_cases t : a ∈ tabs
        · refine ex1_2 (T2 a t) fun ps e' _ => ?_; exact ⟨_, e'⟩
        · refine ex1_2 (k.same a o z t e) fun sl e' _ => ?_; exact ⟨_, e'⟩
    alive := fun a q => let ⟨q1, o, q2, q3⟩ := m.alive a q; let ⟨o', e, _, n⟩ := k.kind a o q2 q3; ⟨q1, o', e, n⟩
    cinj := m.cinj
    cells := fun y c q => let ⟨v, e⟩ := m.cells y c q; ⟨v, k.exact (hcn _ _ q) (T.notab e (by simp)) e (by simp)⟩
    cellM := m.cellM
    hasc := m.hasc
    cellX := fun y c d hc hg z => m.cellX y c d hc hg (hX' c z).1
    vars := by
      refine ex1_2 m.vars fun own q1 q2 => ?_
      refine ⟨own, fun y => ?_, q2⟩
      by_cases hu : ρ.get y = .unk
      · have := q1 y; rw [hu] at this ⊢; exact this
      · refine ex1_2 ((q1 y).toV hu) fun u l' q => ?_
        refine SlotV.ok (look _ _ l') (SlotV.anti (X := X) (M := M) (fun a o e z => (hX' a z).1) (fun _ => id) (q.keep k hx T (fun a e z => ?_) fun _ => id))
        rw [e] at q
        exact hM a z q.own_live.2.1 }

theorem Mod.nofp (m : Mod C env ρ X M h) (hl : ∀ a, fp a → ∃ o vs, h.get? a = some o ∧ o.data = .fields vs) : ∀ y c, env.cells.lookup y = some c → ¬ fp c := fun y c hc z => by
  refine ex1_1 (m.cells y c hc) fun w e => ?_
  refine ex2_2 (hl c z) fun o' vs e' hd => ?_
  obtain rfl := is_some e e'; cases hd

theorem J_post {t : Expr} {it : Value} {J : Heap → (Addr → Prop) → List D → Prop} {ds : List D} (W : WalkJ C t it fp J) (m : Mod C env ρ X M s.heap) (p : Post C env X M s ρ' X' M' s') (T : TabOK C s.heap) (hf : ∀ a, fp a → ¬ M a) (j : J s.heap X ds) : J s'.heap X' ds := by
  have j1 : J s.heap (fun a => X a ∨ X' a) ds := W.anti j fun a o e z => z.elim id fun z => (p.xm a z).elim id fun e' => by rw [e] at e'; cases e'
  have j2 := W.keep j1 p.kq (fun a z => .inl (m.mx a z)) hf T
  exact W.anti j2 fun a o e z => .inr z

noncomputable abbrev FoI {σ : Type} (C : Cx) (env : Env) (X M : Addr → Prop) (s : Shared) (R : σ → Rho) (I : List D → σ → Prop) (fp : Addr → Prop) (J : Heap → (Addr → Prop) → List D → Prop) (k : Nat) (s' : Shared) : Prop :=
  ∃ ds' i X' M', I ds' i ∧ ds'.length = k ∧ Post C env X M s (R i) X' M' s' ∧ (∀ a, fp a → X' a) ∧ (∀ a, fp a → ¬ M' a) ∧ J s'.heap X' ds'
theorem H1_for {σ : Type} {t e : Expr} {bd : List Stmt} {pos : Pos} {ds : List D} {Q : Fl → Rho → Prop} (I : List D → σ → Prop) (R : σ → Rho) (hit : Eit C n sc ρ e t ds)
    (turn : ∀ d rest i, I (d :: rest) i → ∃ ρ₁, Asg C n sc (R i) t d ρ₁ ∧ Hs C n sc ρ₁ bd (LoopQ C sc R (I rest) Q))
    (fin : ∀ i, I [] i → Q .next (R i)) (hn : n.h = false) (i : σ) (hi : I ds i) (h0 : Sub C sc ρ (R i)) (hs : ∀ env x, foldedSetIterable e env x = pure x := by intro _ _; rfl) : H1 C n sc ρ (.For t e bd [] pos) Q := fun A env X M s S en m tp => by
  refine wpAny_For (hs := hs env) (wp_false (hit A env X M s S en m) fun xv s1 h1 => wp_false h1 fun it s2 h2 => ?_)
  obtain ⟨n2, fp, J, W, j2, ffr⟩ := h2
  have lf : ∀ a, fp a → s.heap.get? a = none ∧ ∃ o, s2.heap.get? a = some o := fun a z => ⟨ffr a z, let ⟨o, _, e, _⟩ := W.live j2 a z; ⟨o, e⟩⟩
  have mh : Mod C env ρ (fun a => X a ∨ fp a) M s2.heap := m.hide S.ok.t n2.k n2.ok.t lf
  have fM : ∀ a, fp a → ¬ M a := fun a z hM => by
    refine ex0_2 (m.alive a hM) fun _ zq3 => ?_; refine ex1_2 zq3 fun o e _ => ?_; try clear zq3
    exact no_some (ffr a z) e
  have p0 : Post C env X M s ρ (fun a => X a ∨ fp a) M s2 := ⟨mh, .of_kp n2.k, n2.ok, fun a z _ => .inl z, fun a z => .inl z, fun a z => z.imp id (ffr a)⟩
  refine codeAny_forLoop_any (FoI C env X M s R I fp J) ?_ ds.length ?_
  · intro k s3 zi2; refine ex4_6 zi2 fun ds' i X1 M1 hi hk p f1 f2 j => ?_; try clear zi2
    have S3 := S.step p.kq p.ok fun a z => (m.alive a z).2
    have after : ∀ {s4 : Shared} {l : List D}, Stp C fp s3 s4 → J s4.heap X1 l → Post C env X M s (R i) X1 M1 s4 := fun {s4 l} st j4 =>
      ⟨p.mod.side p.ok.t st.kq st.ok.t f1 f2 (p.mod.nofp (W.live j)) (fun a z => ⟨z, fun f => let ⟨o, _, e, _⟩ := W.live j4 a f; ⟨o, e⟩⟩) p.mod.mx, p.kq.trans' st.kq (fun a o e z => by exact no_some (ffr a z) e), st.ok, p.xx, p.mm, p.xm⟩
    cases ds' with
    | nil =>
      refine wp_false (W.nil hn S3 f1 j) fun r s4 zq5 => ex0_2 zq5 fun hr st => ?_
      subst hr
      refine wpAny_execs_nil ⟨.next, R i, fun a => X1 a ∧ ¬ fp a, M1, fin i hi, trivial, ?_⟩
      exact ⟨p.mod.side p.ok.t st.kq st.ok.t f1 f2 (p.mod.nofp (W.live j)) (fun a z => ⟨z.1, fun f => absurd f z.2⟩) (fun a z => ⟨p.mod.mx a z, fun f => f2 a f z⟩), p.kq.trans' st.kq (fun a o e z => by exact no_some (ffr a z) e), st.ok,
        fun a z w => ⟨p.xx a z w, fun f => by refine ex1_1 (m.live a z) fun o e => ?_; exact no_some (ffr a f) e⟩, p.mm, fun a z => p.xm a z.1⟩
    | cons d rest =>
      refine wp_false (W.cons S3 f1 p.mod.live j) fun r s4 zq6 => ex1_2 zq6 fun v hr h4 => ?_
      subst hr
      refine wp_false h4 fun _ s5 zq7 => ex0_3 zq7 fun st r5 j5 => ?_
      have p5 := after st j5
      refine ex1_2 (turn d rest i hi) fun ρ1 ha hb => ?_
      have S5 := S.step p5.kq p5.ok fun a z => (m.alive a z).2
      refine wp_false (ha A env X1 M1 s5 v S5 en p5.mod r5) fun _ s6 zq8 => ex0_3 zq8 fun o6 m6 k6 => ?_
      have p56 : Post C env X1 M1 s5 ρ1 X1 M1 s6 := .of m6 k6 o6
      have p6 := p5.trans m p56
      have j6 : J s6.heap X1 rest := W.keep j5 k6 p5.mod.mx f2 p5.ok.t
      refine wp_false (hb A env X1 M1 s6 (S.step p6.kq p6.ok fun a z => (m.alive a z).2) en p6.mod tp) fun f s7 ⟨fl, ρ2, X2, M2, q2, r2, p67⟩ => ?_
      have p7 := p6.trans m p67
      have go : (∃ j, I rest j ∧ Sub C sc ρ2 (R j)) → ∃ m, m < k ∧ FoI C env X M s R I fp J m s7 := fun zq9 => ex1_2 zq9 fun j' hj sb => by
        refine ex2_4 (p7.sub m en sb) fun X3 M3 p8 a3 b3 c3 => ?_
        have nM2 : ∀ a, fp a → ¬ M2 a := fun a z hM => (p67.mm a hM).elim (f2 a z) fun e => by
          refine ex2_2 (W.live j6 a z) fun o _ e' _ => ?_
          exact no_some e e'
        refine ⟨rest.length, by rw [← hk]; simp, rest, j', X3, M3, hj, rfl, p8, fun a z => c3 a (p67.xx a (f1 a z) (f2 a z)) (nM2 a z), fun a z q => nM2 a z (b3 a q), ?_⟩
        exact W.anti (J_post W p6.mod p67 p6.ok.t f2 j6) fun a o e z => a3 a z
      cases r2.i
      · exact go q2
      · exact ⟨.next, ρ2, X2, M2, q2, trivial, p7⟩
      · exact go q2
      · exact ⟨.ret _, ρ2, X2, M2, q2, r2, p7⟩
  · refine ex2_4 (p0.sub m en h0) fun X1 M1 p1 a1 b1 c1 => ?_
    refine ⟨ds, i, X1, M1, hi, rfl, p1, fun a z => c1 a (.inr z) (fM a z), fun a z q => fM a z (b1 a q), W.anti j2 fun a o e z => a1 a z⟩
theorem LoopQ.mono {σ : Type} {R : σ → Rho} {go go' : σ → Prop} {Q : Fl → Rho → Prop} (h : ∀ j, go j → go' j) : ∀ {fl : Fl} {ρ' : Rho}, LoopQ C sc R go Q fl ρ' → LoopQ C sc R go' Q fl ρ'
  | .next, _, q => Exists.imp (fun j q => ⟨h j q.1, q.2⟩) q
  | .cont, _, q => Exists.imp (fun j q => ⟨h j q.1, q.2⟩) q
  | .brk, _, q => q
  | .ret _, _, q => q

theorem H1_form {σ α : Type} {t e : Expr} {bd : List Stmt} {pos : Pos} {g : α → D} {l : List α} {Q : Fl → Rho → Prop} (I : List α → σ → Prop) (R : σ → Rho) (hit : Eit C n sc ρ e t (l.map g))
    (turn : ∀ a r i, I (a :: r) i → ∃ ρ₁, Asg C n sc (R i) t (g a) ρ₁ ∧ Hs C n sc ρ₁ bd (LoopQ C sc R (I r) Q))
    (fin : ∀ i, I [] i → Q .next (R i)) (hn : n.h = false) (i : σ) (hi : I l i) (h0 : Sub C sc ρ (R i)) (hs : ∀ env x, foldedSetIterable e env x = pure x := by intro _ _; rfl) : H1 C n sc ρ (.For t e bd [] pos) Q :=
  H1_for (fun ds i => ∃ r, ds = r.map g ∧ I r i) R hit (fun d rest i hI => ex1_2 hI fun r e h => by
    cases r with
    | nil => exact absurd e (List.cons_ne_nil _ _)
    | cons a r =>
      obtain ⟨rfl, rfl⟩ := List.cons.inj e
      exact (turn a r i h).imp fun ρ₁ q => ⟨q.1, q.2.mono fun _ _ => LoopQ.mono fun _ z => ⟨r, rfl, z⟩⟩) (fun i hI => ex1_2 hI fun r e h => by
    cases r with
    | nil => exact fin i h
    | cons a r => exact absurd e.symm (List.cons_ne_nil _ _)) hn i ⟨l, rfl, hi⟩ h0 hs

end
end Mine
namespace Mine

section
variable {C : Cx} {n : Lv} {sc : Sc} {ρ ρ' : Rho} {env : Env} {X M X' M' fp : Addr → Prop} {s₀ s s' : Shared} {h h' h₂ : Heap} {x : Str}

theorem dead_size : s.heap.get? s.heap.objs.size = none := by
  cases e : s.heap.get? s.heap.objs.size with
  | none => rfl
  | some o => exact absurd (Heap.lt_size e) (Nat.lt_irrefl _)

structure ItObj (C : Cx) (h : Heap) (I : Addr) (vs : Array Value) : Prop where
  at_ : ∃ o, h.get? I = some o ∧ o.data = .fields vs ∧ o.cls ≠ .none ∧ o.cls ≠ .type "frame"
  new : C.h₁.get? I = none
  one : ∀ q t, vs[1]? ≠ some (.str q t)

theorem ItObj.notab (i : ItObj C h I vs) (T : TabOK C h) : I ∉ tabs := by
  refine ex1_4 i.at_ fun o e _ c _ => ?_; exact T.notab e c

theorem ItObj.code {I : Addr} {vs : Array Value} (i : ItObj C h I vs) {c : Addr} {q : Str} (x : h.CodeRec (.ref c) q) : c ≠ I := fun z => by
  refine ex1_3 i.at_ fun ob e hd _ => ?_
  refine ex4_4 x fun c' o2 vs2 tk e2 e3 e4 e5 => ?_; try clear x
  cases e2
  subst z; obtain rfl := is_some e e3; rw [hd] at e4; cases e4; exact i.one _ _ e5

theorem TabOK.by {K : Addr → Prop} (T : TabOK C h) (kc : ∀ c q, h.CodeRec (.ref c) q → c ∉ tabs → h'.CodeRec (.ref c) q) (kt : ∀ P ∈ tabs, ∀ o, h.get? P = some o → h'.get? P = some o) : TabOK C h' := fun P hP => by
  refine ex1_3 (T P hP) fun ps e t q => ?_
  refine ⟨ps, kt P hP _ e, t, fun pos cv hc => ?_⟩
  have cr := q pos cv hc
  have cr' := cr
  refine ex4_4 cr fun c o vs tk e1 e2 e3 e4 => ?_; try clear cr
  subst e1
  exact kc c _ cr' (CodeRec.notab T cr')

theorem CodeRec.but {c : Addr} {q : Str} (x : h.CodeRec (.ref c) q) (k : ∀ o, h.get? c = some o → h'.get? c = some o) : h'.CodeRec (.ref c) q := by
  refine ex4_4 x fun c' o2 vs2 tk e2 e3 e4 e5 => ?_; try clear x
  cases e2
  exact ⟨c, o2, vs2, tk, rfl, k _ e3, e4, e5⟩

theorem Stp.of1 {I : Addr} {vs : Array Value} {t : Nat} (o : Ok C s) (i : ItObj C s.heap I vs) (hs : Heap.ExtBut I s.heap h') : Stp C (fun a => a = I) s { s with heap := h', toks := t } := by
  refine ex1_4 (id i.at_) fun ob e hd c _ => ?_
  have kq : Kq C (fun a => a = I) s.heap h' := ⟨fun a o n _ e => ⟨o.slots, hs a o n e, fun _ => rfl⟩, fun a o e' nf => by
    by_cases q : a = I
    · subst q; obtain rfl := is_some e e'; exact absurd hd (nf vs)
    · exact ⟨o, hs a o q e', rfl, nf⟩, fun c q x _ => CodeRec.but x fun o e => hs c o (i.code x) e⟩
  refine ⟨kq, o.k.trans' kq (fun a o' e' z => ?_), TabOK.by (K := fun _ => False) o.t kq.code fun P hP o' e' => hs P _ (fun z => by subst z; exact i.notab o.t hP) e', o.g, o.o⟩
  subst z; exact no_some i.new e'

inductive ListJ (C : Cx) (I : Addr) (h : Heap) (X : Addr → Prop) (ds : List D) : Prop where
  | mk : C.h₁.get? I = none → ∀ (l : Addr) (vs : List Value) (k i : Nat), h.IsListIter I l i → ¬ X l → h.get? l = some (seqO "list" vs k) → vs.length ≤ BIG → RdL C h X (vs.drop i) ds → ListJ C I h X ds

theorem IsListIter.itobj {I l : Addr} {i : Nat} (hn : C.h₁.get? I = none) (q : h.IsListIter I l i) : ItObj C h I #[.ref l, .int i 0] := by
  refine ex1_3 q fun o e c d => ?_; try clear q
  exact ⟨⟨o, e, d, by rw [c]; simp, by rw [c]; simp⟩, hn, fun q t e => by simp at e⟩

theorem IsListIter.kq {I l : Addr} {i : Nat} (hn : C.h₁.get? I = none) (k : Kq C M h h') (nM : ¬ M I) (T : TabOK C h) (q : h.IsListIter I l i) : h'.IsListIter I l i := by
  refine ex1_3 q fun o e c d => ?_; try clear q
  exact ⟨o, k.exact nM (T.notab e (by rw [c]; simp)) e (by rw [c]; simp), c, d⟩

theorem walk_list {t : Expr} {I : Addr} (ht : ∀ v s A E Q, (∃ o l i, s.heap.get? I = some o ∧ s.heap.IsListIter I l i) → Q () s → wpAny C.M A (letOwnedTupleGo t (.ref I) v) Q E s) : WalkJ C t (.ref I) (fun a => a = I) (ListJ C I) where
  live := fun ⟨hn, l, vs, k, i, q, _, _, _, _⟩ a z => by subst z; refine ex1_3 q fun o e c d => ?_; try clear q; exact ⟨o, _, e, d⟩
  keep := fun ⟨hn, l, vs, k, i, q, hl, el, z, r⟩ kq hm hf T => ⟨hn, l, vs, k, i, IsListIter.kq hn kq (hf _ rfl) T q, hl, kq.exact (fun z => hl (hm _ z)) (T.notab el (by simp)) el (by simp), z, r.keep kq hm T⟩
  anti := fun ⟨hn, l, vs, k, i, q, hl, el, z, r⟩ hx => ⟨hn, l, vs, k, i, q, fun z => hl (hx _ _ el z), el, z, r.anti hx⟩
  again := fun ⟨hn, l, vs, k, i, q, _, _, _, _⟩ hq => wpAny_pyIter_listiter q hq
  nil := fun {n A s X} hf0 S hf ⟨hn, l, vs, k, i, q, hl, el, z, r⟩ => by
    refine wpAny_pyNext_list_end (S.hd hf0) q (isLst el) ?_ fun h' hs => ⟨rfl, Stp.of1 S.ok (IsListIter.itobj hn q) hs⟩
    have : (vs.drop i).length = 0 := r.length
    rw [List.length_drop] at this
    simp; lia
  cons := fun {n A s X d ds} S hf hlv ⟨hn, l, vs, k, i, q, hl, el, z, r⟩ => by
    generalize e : vs.drop i = us at r
    cases r with
    | @cons v us _ _ rv rr =>
    have hx : vs[i]? = some v := by
      have : (vs.drop i)[0]? = some v := by rw [e]; rfl
      simpa using this
    have hd : vs.drop (i + 1) = us := by
      have : (vs.drop i).drop 1 = us := by rw [e]; rfl
      rw [List.drop_drop] at this; exact this
    refine wpAny_pyNext_list_item q (isLst el) (by simpa using hx) fun h' q' hs => ⟨v, rfl, ht v _ A _ _ (let ⟨o, e, r⟩ := q'; ⟨o, l, i + 1, e, q'⟩) ?_⟩
    have st : Stp C (fun a => a = I) s { s with heap := h' } := Stp.of1 S.ok (IsListIter.itobj hn q) fun b o ne e => (hs.2 b ne).trans e
    refine ⟨st, rv.keep st.kq hf S.ok.t, hn, l, vs, k, i + 1, q', hl, ?_, z, ?_⟩
    · exact (hs.2 l fun z => hl (hf l z)).trans el
    · rw [hd]; exact rr.keep st.kq hf S.ok.t

theorem letGo_name {x : Str} {p : Pos} {I : Addr} : ∀ v s A E Q, (∃ o l i, s.heap.get? I = some o ∧ s.heap.IsListIter I l i) → Q () s → wpAny C.M A (letOwnedTupleGo (.Name x p) (.ref I) v) Q E s := fun v s A E Q _ q => wpAny_pure q
theorem letGo_tuple {es : List Expr} {k : Nat} {p : Pos} {I : Addr} : ∀ v s A E Q, (∃ o l i, s.heap.get? I = some o ∧ s.heap.IsListIter I l i) → Q () s → wpAny C.M A (letOwnedTupleGo (.Tuple es k p) (.ref I) v) Q E s := fun v s A E Q zq1 => ex3_2 zq1 fun o l i e q hq => by
  cases v with
  | ref a => exact wpAny_letOwnedTupleGo_listiter q hq
  | _ => exact wpAny_pure hq

theorem Eit_list {e t : Expr} {ds : List D} (h : Ev C n sc ρ e (.list ds))
    (ht : ∀ I v s A E Q, (∃ o l i, s.heap.get? I = some o ∧ s.heap.IsListIter I l i) → Q () s → wpAny C.M A (letOwnedTupleGo t (.ref I) v) Q E s) : Eit C n sc ρ e t ds := fun A env X M s S en m =>
  wp_false (h A env X M s S en m) fun v s1 zq2 => ex0_2 zq2 fun n1 r1 => by
    cases r1.i_list with
    | @mk a vs k xa ea za ra =>
      refine wpAny_pyIter_list (isLst ea) ?_
      have k2 := push_keeps (h := s1.heap) { cls := .type "list_iterator", data := .fields #[.ref a, .int 0 0] }
      have n2 : Nx C s1 { s1 with heap := s1.heap.push { cls := .type "list_iterator", data := .fields #[.ref a, .int 0 0] } } := Nx.keeps' n1.ok k2
      refine ⟨n1.trans n2, (fun b => b = s1.heap.objs.size), ListJ C s1.heap.objs.size, walk_list (ht _), ⟨n1.ok.k.dead n1.ok.t dead_size, a, vs, k, 0, ⟨_, Heap.get?_push_size _ rfl, rfl, rfl⟩, ?_, k2 _ _ ea, za, ?_⟩, fun b z => ?_⟩
      · rintro (z | z)
        · exact xa z
        · rw [z, dead_size] at ea; cases ea
      · exact (ra.anti (X' := fun b => X b ∨ b = s1.heap.objs.size) fun b o e z => z.elim id fun z => by rw [z, dead_size] at e; cases e).keeps k2 n1.ok.t
      · subst z
        cases e0 : s.heap.get? s1.heap.objs.size with
        | none => rfl
        | some o => refine ex1_1 (n1.k.live (fun _ _ q => q.elim) n1.ok.t e0) fun o' e' => ?_; exact no_some dead_size e'

noncomputable def rng (x : Int) : Nat → List D
  | 0 => []
  | k + 1 => .int x :: rng (x + 1) k

inductive RngJ (C : Cx) (I : Addr) (h : Heap) (X : Addr → Prop) (ds : List D) : Prop where
  | mk : C.h₁.get? I = none → ∀ (x : Int) (k : Nat), IsRangeIter h I x k 1 → ds = rng x k → RngJ C I h X ds

theorem walk_rng {I : Addr} {x : Str} {p : Pos} : WalkJ C (.Name x p) (.ref I) (fun a => a = I) (RngJ C I) where
  live := fun ⟨hn, x, k, q, _⟩ a z => by subst z; exact ⟨_, _, q, rfl⟩
  keep := fun ⟨hn, x, k, q, e⟩ kq hm hf T => ⟨hn, x, k, kq.exact (hf _ rfl) (T.notab q (by simp)) q (by simp), e⟩
  anti := fun ⟨a, b, c, d, e⟩ _ => ⟨a, b, c, d, e⟩
  again := fun ⟨hn, x, k, q, e⟩ hq => wpAny_pyIter_rangeiter q hq
  nil := fun {n A s X} hf0 S hf ⟨hn, x, k, q, e⟩ => by
    cases k with
    | succ k => cases e
    | zero => exact wpAny_pyNext_range_end (S.hd hf0) q (by lia) fun h' hs => ⟨rfl, Stp.of1 S.ok ⟨⟨_, q, rfl, by simp, by simp⟩, hn, fun q t e => by simp [rawInt] at e⟩ hs⟩
  cons := fun {n A s X d ds} S hf hlv ⟨hn, x, k, q, e⟩ => by
    cases k with
    | zero => cases e
    | succ k =>
      cases e
      refine wpAny_pyNext_range_item q (by lia) fun h' q' hs => ⟨_, rfl, wpAny_pure ⟨Stp.of1 S.ok ⟨⟨_, q, rfl, by simp, by simp⟩, hn, fun q t e => by simp [rawInt] at e⟩ fun b o ne e => (hs.2 b ne).trans e, .int _ _, hn, x + 1, k, ?_, rfl⟩⟩
      have : (((k + 1 : Nat) : Int) - 1) = (k : Int) := by lia
      rw [this] at q'; exact q'

noncomputable def enm (i : Nat) : List D → List D
  | [] => []
  | d :: ds => .tup [.int i, d] :: enm (i + 1) ds

inductive EnmJ (C : Cx) (e I : Addr) (h : Heap) (X : Addr → Prop) (ds : List D) : Prop where
  | mk : C.h₁.get? I = none → C.h₁.get? e = none → e ≠ I → ∀ (l : Addr) (vs : List Value) (k i : Nat) (old : Value) (us : List D), IsEnum h e I (i : Nat) old → h.IsListIter I l i → ¬ X l → h.get? l = some (seqO "list" vs k) → vs.length ≤ BIG → RdL C h X (vs.drop i) us → ds = enm i us → EnmJ C e I h X ds

theorem Stp.of2 {I J : Addr} {vs ws : Array Value} {t : Nat} (o : Ok C s) (i : ItObj C s.heap I vs) (j : ItObj C s.heap J ws) (hs : ∀ b o, b ≠ I → b ≠ J → s.heap.get? b = some o → h'.get? b = some o) : Stp C (fun a => a = I ∨ a = J) s { s with heap := h', toks := t } := by
  refine ex1_4 (id i.at_) fun ob e hd c _ => ?_
  refine ex1_4 (id j.at_) fun oj ej hdj cj _ => ?_
  have kq : Kq C (fun a => a = I ∨ a = J) s.heap h' := ⟨fun a o n _ e => ⟨o.slots, hs a o (fun z => n (.inl z)) (fun z => n (.inr z)) e, fun _ => rfl⟩, fun a o e' nf => by
    by_cases q : a = I
    · subst q; obtain rfl := is_some e e'; exact absurd hd (nf vs)
    · by_cases q2 : a = J
      · subst q2; obtain rfl := is_some ej e'; exact absurd hdj (nf ws)
      · exact ⟨o, hs a o q q2 e', rfl, nf⟩, fun c q x _ => CodeRec.but x fun o e => hs c o (i.code x) (j.code x) e⟩
  refine ⟨kq, o.k.trans' kq (fun a o' e' z => ?_), TabOK.by (K := fun _ => False) o.t kq.code fun P hP o' e' => hs P _ (fun z => by subst z; exact i.notab o.t hP) (fun z => by subst z; exact j.notab o.t hP) e', o.g, o.o⟩
  rcases z with z | z
  · subst z; exact no_some i.new e'
  · subst z; exact no_some j.new e'

theorem IsEnum.itobj {I e : Addr} {i : Int} {old : Value} (hn : C.h₁.get? e = none) (q : IsEnum h e I i old) : ItObj C h e #[.none, .bool false, .ref I, rawInt i, .none, old] :=
  ⟨⟨_, q, rfl, by simp, by simp⟩, hn, fun q t e => by simp at e⟩

theorem walk_enm {es : List Expr} {k : Nat} {p : Pos} {e I : Addr} : WalkJ C (.Tuple es k p) (.ref e) (fun a => a = e ∨ a = I) (EnmJ C e I) where
  live := fun ⟨hn, he, ne, l, vs, k, i, old, us, q1, q2, _, _, _, _, _⟩ a z => by
    rcases z with z | z
    · subst z; exact ⟨_, _, q1, rfl⟩
    · subst z; refine ex1_3 q2 fun o e c d => ?_; try clear q2; exact ⟨o, _, e, d⟩
  keep := fun ⟨hn, he, ne, l, vs, k, i, old, us, q1, q2, hl, el, z, r, e⟩ kq hm hf T => ⟨hn, he, ne, l, vs, k, i, old, us, kq.exact (hf _ (.inl rfl)) (T.notab q1 (by simp)) q1 (by simp), IsListIter.kq hn kq (hf _ (.inr rfl)) T q2, hl, kq.exact (fun z => hl (hm _ z)) (T.notab el (by simp)) el (by simp), z, r.keep kq hm T, e⟩
  anti := fun ⟨hn, he, ne, l, vs, k, i, old, us, q1, q2, hl, el, z, r, e⟩ hx => ⟨hn, he, ne, l, vs, k, i, old, us, q1, q2, fun z => hl (hx _ _ el z), el, z, r.anti hx, e⟩
  again := fun ⟨hn, he, ne, l, vs, k, i, old, us, q1, _, _, _, _, _, _⟩ hq => wpAny_pyIter_enum q1 hq
  nil := fun {n A s X} hf0 S hf ⟨hn, he, ne, l, vs, k, i, old, us, q1, q2, hl, el, z, r, e⟩ => by
    cases us with
    | cons u us => cases e
    | nil =>
      refine wpAny_pyNext_enum_end (S.hd hf0) q1 q2 (isLst el) ?_ fun h' hs => ⟨rfl, Stp.of2 S.ok (IsEnum.itobj he q1) (IsListIter.itobj hn q2) fun b o _ nb e => hs b o nb e⟩
      have : (vs.drop i).length = 0 := r.length
      rw [List.length_drop] at this
      simp; lia
  cons := fun {n A s X d ds} S hf hlv ⟨hn, he, ne, l, vs, k, i, old, us, q1, q2, hl, el, z, r, e⟩ => by
    generalize eq : vs.drop i = ws at r
    cases r with
    | nil => cases e
    | @cons v ws u us rv rr =>
    cases e
    have hx : vs[i]? = some v := by
      have : (vs.drop i)[0]? = some v := by rw [eq]; rfl
      simpa using this
    have hd : vs.drop (i + 1) = ws := by
      have : (vs.drop i).drop 1 = ws := by rw [eq]; rfl
      rw [List.drop_drop] at this; exact this
    refine wpAny_pyNext_enum_item q1 q2 (isLst el) (by simpa using hx) ne fun h' p1 p2 p3 p4 p5 => ⟨_, rfl, wpAny_letOwnedTupleGo_enum p1 fun h2 p6 hs => ?_⟩
    have hsz : s.heap.objs.size ≠ e ∧ s.heap.objs.size ≠ I := ⟨(fun z => by have q1' : s.heap.get? e = _ := q1; rw [← z, dead_size] at q1'; cases q1'), (fun z => by refine ex1_2 q2 fun o e _ => ?_; try clear q2; rw [← z, dead_size] at e; cases e)⟩
    have st : Stp C (fun a => a = e ∨ a = I) s { s with heap := h2, toks := s.toks + 1 } := Stp.of2 S.ok (IsEnum.itobj he q1) (IsListIter.itobj hn q2) fun b o n1 n2 e => (hs.2 b n1).trans (p5 b o n1 n2 e)
    have nXl : l ≠ e ∧ l ≠ I := ⟨fun z => hl (hf l (.inl z)), fun z => hl (hf l (.inr z))⟩
    refine ⟨st, .tup (vs := [.int i s.toks, v]) (n := 0) (fun z => ?_) ((hs.2 _ hsz.1).trans p3) (by show 2 ≤ BIG; decide) (.cons (.int _ _) (.cons (rv.keep st.kq hf S.ok.t) .nil)), hn, he, ne, l, vs, k, i + 1, v, us, ?_, ?_, hl, (hs.2 l nXl.1).trans (p5 l _ nXl.1 nXl.2 el), z, ?_, rfl⟩
    · refine ex1_1 (hlv _ z) fun o e => ?_
      exact no_some dead_size e
    · exact_mod_cast p6
    · refine ex1_2 p2 fun o e r => ?_; try clear p2; exact ⟨o, (hs.2 I (Ne.symm ne)).trans e, r⟩
    · rw [hd]; exact rr.keep st.kq hf S.ok.t
end
end Mine
namespace Mine

section
variable {C : Cx} {n : Lv} {sc : Sc} {ρ ρ' : Rho} {env : Env} {X M X' M' fp : Addr → Prop} {s₀ s s' : Shared} {h h' h₂ : Heap} {x : Str}

theorem Ok.glob (o : Ok C s) {a : Addr} {m : Str → Option Value} (q : C.h₁.Ns a m) (ha : a ∉ tabs) : s.heap.Ns a m := by
  refine ex3_3 q fun ob es ep e hd r => ?_; try clear q
  refine ex1_2 (o.k.same a ob id ha e) fun sl e' _ => ?_
  exact ⟨_, es, ep, e', hd, r⟩

theorem wpAny_bi {A : Around} {E : Value → Shared → Prop} {x : Str} {pos : Pos} {v : Value} {Q : Value → Shared → Prop} (o : Ok C s) (en : EnvIs C sc env) (m : Mod C env ρ X M s.heap) (hk : sc.scope.names.lookup x = some .globalImplicit) (hb : biList.lookup x = some v)
    (h : Q v s) (hd : (x == ("__debug__" : Str)) = false) : wpAny C.M A (eval (.Name x pos) env) Q E s := by
  refine ex0_2 (C.bi x v hb) fun h1 h2 => ?_
  refine Name_function_global m.kind (names_loc en hk) (loadGlobal_builtin (mg := C.mg) (mb := C.mb) ?_ h1 ?_ h2 h) hd
  · rw [m.glob]; exact o.glob C.nsG (by decide)
  · rw [m.blt]; exact o.glob C.nsB (by decide)

noncomputable def CallB (C : Cx) (n : Lv) (f : Value) (ds : List D) (d : D) : Prop :=
  ∀ A X s vs, Sit C n A s → Xl X s.heap → RdL C s.heap X vs ds → wpAny C.M A (call f vs) (fun v s' => Nx C s s' ∧ Rd C s'.heap X v d) (fun _ _ => False) s

theorem Ev_bi {x : Str} {np pos : Pos} {e : Expr} {rest : List Expr} {ds : List D} {d : D} {id : String} (hb : biList.lookup x = some (.builtin id)) (he : El C n sc ρ (e :: rest) ds) (hc : CallB C n (.builtin id) ds d)
    (hk : sc.scope.names.lookup x = some .globalImplicit := by rfl) (hd : (x == ("__debug__" : Str)) = false := by decide)
    (h1 : ∀ env, starEach (e :: rest) env = (false, eval e env) :: starEach rest env := by intro env; rfl) (h2 : ∀ env, (backTo pos (starEach rest env)).any (·.1) = false := by intro env; rfl)
    (h3 : ∀ env, eval (.Call (.Name x np) (e :: rest) [] pos) env = (do callWith pos (← eval (.Name x np) env) [] (backTo pos (starEach (e :: rest) env)) (backToKw pos (keywordEach [] env))) := by intro env; rfl) : Ev C n sc ρ (.Call (.Name x np) (e :: rest) [] pos) d := fun A env X M s S en m =>
  Call_ (he := h3 env) (wpAny_bi S.ok en m hk hb (callWith_builtin1 (he := h1 env) (hplain := h2 env) (wp_false (he A env X M s pos S en m) fun vs s1 zq10 => ex0_2 zq10 fun n1 r1 =>
    wp_false (hc A X s1 vs (S.next n1) (m.nx n1 S.ok).xl r1) fun v s2 zq11 => ex0_2 zq11 fun n2 r2 => ⟨n1.trans n2, r2⟩)) hd)
theorem Ev_ty {x : Str} {np pos : Pos} {e : Expr} {rest : List Expr} {ds : List D} {d : D} {T : String} (hb : biList.lookup x = some (.type T)) (he : El C n sc ρ (e :: rest) ds) (hc : CallB C n (.type T) ds d)
    (hk : sc.scope.names.lookup x = some .globalImplicit := by rfl) (hd : (x == ("__debug__" : Str)) = false := by decide)
    (h1 : ∀ env, starEach (e :: rest) env = (false, eval e env) :: starEach rest env := by intro env; rfl) (h2 : ∀ env, (backTo pos (starEach rest env)).any (·.1) = false := by intro env; rfl)
    (h3 : ∀ env, eval (.Call (.Name x np) (e :: rest) [] pos) env = (do callWith pos (← eval (.Name x np) env) [] (backTo pos (starEach (e :: rest) env)) (backToKw pos (keywordEach [] env))) := by intro env; rfl) : Ev C n sc ρ (.Call (.Name x np) (e :: rest) [] pos) d := fun A env X M s S en m =>
  Call_ (he := h3 env) (wpAny_bi S.ok en m hk hb (callWith_type1 (he := h1 env) (hplain := h2 env) (wp_false (he A env X M s pos S en m) fun vs s1 zq12 => ex0_2 zq12 fun n1 r1 =>
    wp_false (hc A X s1 vs (S.next n1) (m.nx n1 S.ok).xl r1) fun v s2 zq13 => ex0_2 zq13 fun n2 r2 => ⟨n1.trans n2, r2⟩)) hd)
theorem Ev_set0 {np pos : Pos} (hk : sc.scope.names.lookup ("set" : Str) = some .globalImplicit := by rfl)
    (h3 : ∀ env, eval (.Call (.Name "set" np) [] [] pos) env = (do callWith pos (← eval (.Name "set" np) env) [] (backTo pos (starEach [] env)) (backToKw pos (keywordEach [] env))) := by intro env; rfl) : Ev C n sc ρ (.Call (.Name "set" np) [] [] pos) (.set 0) := fun A env X M s S en m =>
  Call_ (he := h3 env) (wpAny_bi S.ok en m hk rfl (callWith_type0 (call_set_0 fun led => ⟨.keeps' S.ok (push_keeps _), .set m.xl.fresh (Heap.get?_push_size _ rfl) ⟨rfl, rfl, rfl⟩ rfl (by cases led <;> rfl) rfl (by decide)⟩)) (by decide))

theorem RdL.one' {vs : List Value} {d₁ : D} (r : RdL C h X vs [d₁]) : ∃ v₁, vs = [v₁] ∧ Rd C h X v₁ d₁ := by
  cases r.i_cons with
  | mk a rr => cases rr.i_nil; exact ⟨_, rfl, a⟩
theorem RdL.ints {vs : List Value} {l : List Int} (r : RdL C h X vs (l.map .int)) : IntsAre vs l := by
  induction l generalizing vs with
  | nil => exact r.i_nil ▸ .nil
  | cons i l ih =>
    cases r.i_cons with
    | mk a rr => cases a.i_int with
      | mk t => exact .cons i t (ih rr)
theorem IntsAre_all {vs : List Value} {l : List Int} (r : IntsAre vs l) : (∀ v ∈ vs, ∃ a t, v = .int a t) ∧ numsOf vs = l := by
  induction r with
  | nil => exact ⟨fun v h => (List.not_mem_nil h).elim, rfl⟩
  | cons i t _ ih => exact ⟨fun v h => (List.mem_cons.mp h).elim (fun e => ⟨i, t, e⟩) (ih.1 v), by rw [numsOf, ih.2]⟩

theorem Call_len {l : List D} : CallB C n (.builtin "len") [.list l] (.int l.length) := fun A X s vs S x r => by
  refine ex1_2 r.one' fun v zq1 q => ?_; subst zq1
  cases q.i_list with
  | @mk a vs k xa ea za ra =>
    have l1 := ra.length
    refine call_len_list (isLst ea) (by rw [List.size_toArray]; have : BIG = 1048576 := rfl; lia) ⟨.tok S.ok, ?_⟩
    rw [List.size_toArray, l1]; exact .int _ _
theorem Call_max2 {a b : Int} (hn : n.h = false := by assumption) : CallB C n (.builtin "max") [.int a, .int b] (.int (if b > a then b else a)) := fun A X s vs S x r => by
  refine ex2_3 r.two fun v w zq2 ra rb => ?_; subst zq2
  cases ra.i_int; cases rb.i_int
  refine max_two_ints (S.hd hn) fun h' tk hk => ⟨.keeps S.ok hk, ?_⟩
  split <;> exact .int _ _
theorem Call_min2 {a b : Int} (hn : n.h = false := by assumption) : CallB C n (.builtin "min") [.int a, .int b] (.int (if b < a then b else a)) := fun A X s vs S x r => by
  refine ex2_3 r.two fun v w zq3 ra rb => ?_; subst zq3
  cases ra.i_int; cases rb.i_int
  refine min_two_ints (S.hd hn) fun h' tk hk => ⟨.keeps S.ok hk, ?_⟩
  split <;> exact .int _ _
theorem Call_sum {l : List Int} (hn : n.h = false := by assumption) : CallB C n (.builtin "sum") [.list (l.map .int)] (.int l.sum) := fun A X s vs S x r => by
  refine ex1_2 r.one' fun v zq4 q => ?_; subst zq4
  cases q.i_list with
  | @mk a vs k xa ea za ra =>
    refine ex0_2 (IntsAre_all ra.ints) fun h1 h2 => ?_
    refine ex1_1 (AllInts.items (vs := vs.toArray) (fun v hv => h1 v (by simpa using hv))) fun xs hxs => ?_
    have h3 := nums_intItems xs
    rw [← hxs] at h3
    have hl := isLst ea
    rw [hxs] at hl
    refine sum_intListG (S.hd hn) hl fun h' tk t' hk => ⟨.keeps S.ok hk, ?_⟩
    rw [preSum_eq, List.take_of_length_le (by simp), ← h3, h2]; exact .int _ _
theorem Call_max {l : List Int} {M : Int} (hM : M ∈ l) (hle : ∀ a ∈ l, a ≤ M) (hn : n.h = false := by assumption) : CallB C n (.builtin "max") [.list (l.map .int)] (.int M) := fun A X s vs S x r => by
  refine ex1_2 r.one' fun v zq5 q => ?_; subst zq5
  cases q.i_list with
  | @mk a vs k xa ea za ra =>
    refine ex0_2 (IntsAre_all ra.ints) fun h1 h2 => ?_
    refine ex1_1 (AllInts.items (vs := vs.toArray) (fun v hv => h1 v (by simpa using hv))) fun xs hxs => ?_
    have h3 := nums_intItems xs
    rw [← hxs, h2] at h3
    have hl := isLst ea
    rw [hxs] at hl
    have hsz : 0 < xs.size := by
      have : l.length = xs.size := by have := congrArg List.length h3; simpa using this
      have : 0 < l.length := List.length_pos_of_mem hM
      omega
    refine max_intList (S.hd hn) hl hsz fun v h' tk hv hk => ⟨.keeps S.ok hk, ?_⟩
    refine ex1_1 (intItems_at hv) fun t zq6 => ?_; subst zq6
    refine ex0_2 (argBest_gt (numAt xs) (xs.size - 1)) fun g1 g2 => ?_
    have : numAt xs (argBest (fun i j => decide (numAt xs i > numAt xs j)) (xs.size - 1)) = M := by
      have m1 : numAt xs (argBest (fun i j => decide (numAt xs i > numAt xs j)) (xs.size - 1)) ∈ l := by
        rw [h3, numAt_eq]; exact getD_mem (by rw [List.length_map, Array.length_toList]; omega)
      have m2 : M ≤ numAt xs (argBest (fun i j => decide (numAt xs i > numAt xs j)) (xs.size - 1)) := by
        rw [h3] at hM
        refine ex1_2 (mem_getD hM) fun j hj zq7 => ?_; subst zq7
        rw [List.length_map, Array.length_toList] at hj
        rw [← numAt_eq]; exact g2 j (by omega)
      have := hle _ m1
      omega
    rw [this]; exact .int _ _
theorem Call_bytes1 {i : Int} (h0 : 0 ≤ i) (h1 : i < 256) (hn : n.h = false := by assumption) : CallB C n (.type "bytes") [.list [.int i]] (.byt #[i.toNat.toUInt8]) := fun A X s vs S x r => by
  refine ex1_2 r.one' fun v zq8 q => ?_; subst zq8
  cases q.i_list with
  | @mk a vs k xa ea za ra =>
    have hi : IntsAre vs [i] := RdL.ints (l := [i]) ra
    exact call_bytes_ints (isLst ea) hi (fun m hm => by simp at hm; subst hm; exact ⟨h0, h1⟩) (big_line za) (S.hd hn) fun h' t k hk => ⟨.keeps S.ok hk, .byt _ _⟩
theorem Call_list {l : List D} : CallB C n (.type "list") [.list l] (.list l) := fun A X s vs S x r => by
  refine ex1_2 r.one' fun v zq9 q => ?_; subst zq9
  cases q.i_list with
  | @mk a vs k xa ea za ra =>
    refine call_list_seq (hsz := by rw [List.size_toArray]; exact big_line za) a (.inl rfl) ea rfl rfl fun h' c' hk hnew => ⟨.keeps S.ok hk, ?_⟩
    exact .list x.fresh hnew za (ra.keeps hk S.ok.t)
theorem Ev_isbool {np bp pos : Pos} {e : Expr} {b : Bool} (he : Ev C n sc ρ e (.bool b)) (hk : sc.scope.names.lookup ("isinstance" : Str) = some .globalImplicit := by rfl) (hk2 : sc.scope.names.lookup ("bool" : Str) = some .globalImplicit := by rfl)
    (h1 : ∀ env, starEach [e, .Name "bool" bp] env = (false, eval e env) :: starEach [.Name "bool" bp] env := by intro env; rfl)
    (h3 : ∀ env, eval (.Call (.Name "isinstance" np) [e, .Name "bool" bp] [] pos) env = (do callWith pos (← eval (.Name "isinstance" np) env) [] (backTo pos (starEach [e, .Name "bool" bp] env)) (backToKw pos (keywordEach [] env))) := by intro env; rfl) :
    Ev C n sc ρ (.Call (.Name "isinstance" np) [e, .Name "bool" bp] [] pos) (.bool true) := fun A env X M s S en m =>
  Call_ (he := h3 env) (wpAny_bi S.ok en m hk rfl (callWith_builtin1 (he := h1 env) (args_cons (he := h1 env) (wp_false (he A env X M s S en m) fun v s1 zq14 => ex0_2 zq14 fun n1 r1 => args_cons (wpAny_bi n1.ok en (m.nx n1 S.ok) hk2 rfl (args_nil (by
    cases r1.i_bool
    exact PySem.IsiPair.bool_bool ⟨n1, .bool _⟩)) (by decide))))) (by decide))

theorem rangeSize_one (k : Nat) : Builtin.Range.rangeSize 0 (k : Int) 1 = k := by
  unfold Builtin.Range.rangeSize
  rw [if_pos (by decide)]
  split <;> lia
theorem rangeSize_neg {b : Int} (h : b ≤ 0) : Builtin.Range.rangeSize 0 b 1 = 0 := by
  unfold Builtin.Range.rangeSize
  rw [if_pos (by decide), if_neg (by lia)]

theorem Eit_range {x : Str} {np pos p : Pos} {e : Expr} {b : Int} (he : Ev C n sc ρ e (.int b)) (hb1 : b < 2 ^ 62) (hb0 : -(2 ^ 62) ≤ b) (hk : sc.scope.names.lookup ("range" : Str) = some .globalImplicit := by rfl)
    (h1 : ∀ env, starEach [e] env = (false, eval e env) :: starEach [] env := by intro env; rfl)
    (h3 : ∀ env, eval (.Call (.Name "range" np) [e] [] pos) env = (do callWith pos (← eval (.Name "range" np) env) [] (backTo pos (starEach [e] env)) (backToKw pos (keywordEach [] env))) := by intro env; rfl) :
    Eit C n sc ρ (.Call (.Name "range" np) [e] [] pos) (.Name x p) (rng 0 b.toNat) := fun A env X M s S en m =>
  Call_ (he := h3 env) (wpAny_bi S.ok en m hk rfl (callWith_type1 (he := h1 env) (args_cons (he := h1 env) (wp_false (he A env X M s S en m) fun v s1 zq15 => ex0_2 zq15 fun n1 r1 => args_nil (by
    cases r1.i_int with
    | mk t =>
    refine PySem.call_range_1 ?_
    have k1 := push_keeps (h := s1.heap) { cls := .type "range", data := .fields #[.int 0 s1.toks, .int b t, .int 1 (s1.toks + 1)] }
    have n2 : Nx C s1 { s1 with heap := s1.heap.push { cls := .type "range", data := .fields #[.int 0 s1.toks, .int b t, .int 1 (s1.toks + 1)] }, toks := s1.toks + 1 + 1 } := Nx.keeps n1.ok k1
    refine wpAny_pyIter_range (IsRange.new ..) (PySem.small_one (by lia) (by lia) (by lia) (by lia)) ?_
    generalize hs2 : ({ s1 with heap := s1.heap.push { cls := .type "range", data := .fields #[.int 0 s1.toks, .int b t, .int 1 (s1.toks + 1)] }, toks := s1.toks + 1 + 1 } : Shared) = s2 at n2
    have n3 : Nx C s2 { s2 with heap := s2.heap.push { cls := .type "range_iterator", data := .fields #[rawInt 0, rawInt (Builtin.Range.rangeSize 0 b 1), rawInt 1] } } := Nx.keeps' n2.ok (push_keeps _)
    refine ⟨(n1.trans n2).trans n3, (fun a => a = s2.heap.objs.size), RngJ C s2.heap.objs.size, walk_rng, ⟨n2.ok.k.dead n2.ok.t dead_size, 0, b.toNat, ?_, rfl⟩, fun a z => ?_⟩
    · have : Builtin.Range.rangeSize 0 b 1 = (b.toNat : Int) := by
        rcases Int.le_total 0 b with q | q
        · have e : b = (b.toNat : Int) := by lia
          rw [e]; rw [rangeSize_one]; simp
        · rw [rangeSize_neg q]; lia
      rw [this]
      exact Heap.get?_push_size _ rfl
    · subst z
      cases e0 : s.heap.get? s2.heap.objs.size with
      | none => rfl
      | some o => refine ex1_1 ((n1.trans n2).k.live (fun _ _ q => q.elim) n2.ok.t e0) fun o' e' => ?_; exact no_some dead_size e')))) (by decide))

theorem Eit_enum {np pos p : Pos} {e : Expr} {es : List Expr} {k : Nat} {l : List D} (he : Ev C n sc ρ e (.list l)) (hk : sc.scope.names.lookup ("enumerate" : Str) = some .globalImplicit := by rfl)
    (h1 : ∀ env, starEach [e] env = (false, eval e env) :: starEach [] env := by intro env; rfl)
    (h3 : ∀ env, eval (.Call (.Name "enumerate" np) [e] [] pos) env = (do callWith pos (← eval (.Name "enumerate" np) env) [] (backTo pos (starEach [e] env)) (backToKw pos (keywordEach [] env))) := by intro env; rfl) :
    Eit C n sc ρ (.Call (.Name "enumerate" np) [e] [] pos) (.Tuple es k p) (enm 0 l) := fun A env X M s S en m =>
  Call_ (he := h3 env) (wpAny_bi S.ok en m hk rfl (callWith_type1 (he := h1 env) (args_cons (he := h1 env) (wp_false (he A env X M s S en m) fun v s1 zq16 => ex0_2 zq16 fun n1 r1 => args_nil (by
    cases r1.i_list with
    | @mk a vs j xa ea za ra =>
    refine call_enumerate_list (isLst ea) fun h' q1 q2 q3 q4 => ?_
    have n2 : Nx C s1 { s1 with heap := h' } := Nx.keeps' n1.ok q4
    refine wpAny_pyIter_enum q1 ?_
    have dd : s1.heap.get? (s1.heap.objs.size + 1) = none := by
      cases e : s1.heap.get? (s1.heap.objs.size + 1) with
      | none => rfl
      | some o => exact absurd (Nat.lt_of_succ_lt (Heap.lt_size e)) (Nat.lt_irrefl _)
    have hf : ∀ b, b = s1.heap.objs.size + 1 ∨ b = s1.heap.objs.size → s1.heap.get? b = none := fun b z => by
      rcases z with z | z <;> subst z
      · exact dd
      · exact dead_size
    refine ⟨n1.trans n2, (fun b => b = s1.heap.objs.size + 1 ∨ b = s1.heap.objs.size), EnmJ C (s1.heap.objs.size + 1) s1.heap.objs.size, walk_enm, ⟨n1.ok.k.dead n1.ok.t dead_size, n1.ok.k.dead n1.ok.t dd, Nat.succ_ne_self _, a, vs, j, 0, .none, l, q1, q2, ?_, q4 _ _ ea, za, ?_, rfl⟩, fun b z => ?_⟩
    · rintro (z | z)
      · exact xa z
      · exact no_some (hf _ z) ea
    · exact (ra.anti (X' := fun b => X b ∨ (b = s1.heap.objs.size + 1 ∨ b = s1.heap.objs.size)) fun b o e z => z.elim id fun z => by exact no_some (hf _ z) e).keeps q4 n1.ok.t
    · have := hf b z
      cases e0 : s.heap.get? b with
      | none => rfl
      | some o => refine ex1_1 (n1.k.live (fun _ _ q => q.elim) n1.ok.t e0) fun o' e' => ?_; exact no_some this e')))) (by decide))
end
end Mine
namespace Mine

section
variable {C : Cx} {n : Lv} {sc : Sc} {ρ ρ' : Rho} {env : Env} {X M X' M' fp : Addr → Prop} {s₀ s s' : Shared} {h h' h₂ : Heap} {x : Str}

theorem cells_new : ∀ (names : List (Str × NameKind)) (h : Heap) (acc : List (Str × Addr)), ∃ new : List (Str × Addr), cellsFrom h.objs.size names acc = new ++ acc ∧
    (∀ p ∈ new, h.objs.size ≤ p.2 ∧ (pushCells h names).get? p.2 = some (cellObj none) ∧ (p.1, NameKind.cell) ∈ names) ∧ new.Pairwise (fun p q => p.2 ≠ q.2) ∧ ∀ x, (x, NameKind.cell) ∈ names → ∃ c, (x, c) ∈ new
  | [], h, acc => ⟨[], rfl, fun p hp => by simp at hp, .nil, fun x hx => by simp at hx⟩
  | (nm, kind) :: r, h, acc => by
    unfold cellsFrom pushCells
    by_cases hk : (kind == NameKind.cell) = true
    · rw [if_pos hk, if_pos hk]
      have hk' : kind = .cell := by simpa using hk
      subst hk'
      refine ex1_4 (cells_new r (h.push { cls := .type "cell", data := .cell none }) ((nm, h.objs.size) :: acc)) fun new e p1 p2 p3 => ?_
      rw [Heap.size_push] at e p1
      refine ⟨new ++ [(nm, h.objs.size)], by rw [e]; simp, fun p hp => ?_, ?_, fun x hx => ?_⟩
      · rcases List.mem_append.mp hp with hp | hp
        · refine ex0_3 (p1 p hp) fun q1 q2 q3 => ?_
          exact ⟨Nat.le_of_succ_le q1, q2, .tail _ q3⟩
        · simp at hp; subst hp
          exact ⟨Nat.le_refl _, pushCells_keeps r _ _ _ (Heap.get?_push_size _ rfl), .head _⟩
      · refine List.pairwise_append.mpr ⟨p2, by simp, fun a ha b hb => ?_⟩
        simp at hb; subst hb
        have := (p1 a ha).1
        exact fun e => absurd this (by rw [e]; exact Nat.not_succ_le_self _)
      · rcases List.mem_cons.mp hx with e | hx
        · cases e; exact ⟨_, List.mem_append.mpr (.inr (.head _))⟩
        · refine ex1_1 (p3 x hx) fun c hc => ?_; exact ⟨c, List.mem_append.mpr (.inl hc)⟩
    · rw [if_neg hk, if_neg hk]
      refine ex1_4 (cells_new r h acc) fun new e p1 p2 p3 => ?_
      refine ⟨new, e, fun p hp => ?_, p2, fun x hx => ?_⟩
      · refine ex0_3 (p1 p hp) fun q1 q2 q3 => ?_; exact ⟨q1, q2, .tail _ q3⟩
      · rcases List.mem_cons.mp hx with e | hx
        · cases e; exact absurd rfl hk
        · exact p3 x hx

inductive RdK (C : Cx) (h : Heap) (X : Addr → Prop) : List (Str × Addr) → Rho → Prop where
  | nil : RdK C h X [] []
  | cons {x : Str} {c : Addr} {v : Value} {d : D} {cl : List (Str × Addr)} {ρ : Rho} : h.get? c = some (cellObj (some v)) → Rd C h X v d → RdK C h X cl ρ → RdK C h X ((x, c) :: cl) ((x, .ext d) :: ρ)

theorem RdK.get {cl : List (Str × Addr)} {ρ : Rho} {x : Str} (q : RdK C h X cl ρ) : (ρ.get x = .unk ∧ cl.lookup x = none) ∨ ∃ d c v, ρ.get x = .ext d ∧ cl.lookup x = some c ∧ h.get? c = some (cellObj (some v)) ∧ Rd C h X v d := by
  induction q with
  | nil => exact .inl ⟨rfl, rfl⟩
  | @cons y c v d _ _ e r _ ih =>
    rw [Rho.get_cons, List.lookup_cons]
    by_cases hxy : x = y
    · rw [if_pos hxy, beq_iff_eq.mpr hxy]; exact .inr ⟨d, c, v, rfl, rfl, e, r⟩
    · rw [if_neg hxy, beq_eq_false_iff_ne.mpr hxy]; exact ih

noncomputable def Slot.isUnk : Slot → Bool
  | .unk => true
  | _ => false

noncomputable def ENew (s : Shared) (new : List (Str × Addr)) (a : Addr) : Prop := a = s.heap.objs.size ∨ ∃ p ∈ new, p.2 = a

theorem lookup_app {l₁ l₂ : List (Str × Addr)} {x : Str} : (l₁ ++ l₂).lookup x = (l₁.lookup x).or (l₂.lookup x) := by
  induction l₁ with
  | nil => rfl
  | cons p r ih =>
    obtain ⟨y, c⟩ := p
    rw [List.cons_append, List.lookup_cons, List.lookup_cons]
    split
    · rfl
    · exact ih

theorem lookup_none_of {l : List (Str × Addr)} {x : Str} (h : ∀ c, (x, c) ∉ l) : l.lookup x = none := by
  induction l with
  | nil => rfl
  | cons p r ih =>
    obtain ⟨y, c⟩ := p
    rw [List.lookup_cons]
    by_cases e : x = y
    · subst e; exact absurd (.head _) (h c)
    · have : (x == y) = false := by rw [beq_eq_false_iff_ne]; exact e
      rw [this]; exact ih fun c hc => h c (.tail _ hc)
theorem lookup_some_of {l : List (Str × Addr)} {x : Str} {c : Addr} (h : (x, c) ∈ l) : ∃ c', l.lookup x = some c' ∧ (x, c') ∈ l := by
  cases e : l.lookup x with
  | some c' => exact ⟨c', rfl, mem_of_lookup e⟩
  | none =>
    exfalso
    induction l with
    | nil => cases h
    | cons p r ih =>
      obtain ⟨y, c2⟩ := p
      rw [List.lookup_cons] at e
      by_cases e2 : x = y
      · subst e2; simp at e
      · have : (x == y) = false := by rw [beq_eq_false_iff_ne]; exact e2
        rw [this] at e
        rcases List.mem_cons.mp h with q | q
        · cases q; exact e2 rfl
        · exact ih q e

theorem Mod.fresh {names : List (Str × NameKind)} {cl new : List (Str × Addr)} {fo : Obj} (o : Ok C s) (hX : Xl X s.heap) (hfo : fo.data = .dict #[]) (hfr : fo.isFreed = false)
    (h1 : Heap) (hh : h1 = pushCells (s.heap.push fo) names) (hnew : cellsFrom (s.heap.objs.size + 1) names cl = new ++ cl)
    (p1 : ∀ p ∈ new, s.heap.objs.size + 1 ≤ p.2 ∧ h1.get? p.2 = some (cellObj none) ∧ (p.1, NameKind.cell) ∈ names) (p2 : new.Pairwise (fun p q => p.2 ≠ q.2)) (p3 : ∀ x, (x, NameKind.cell) ∈ names → ∃ c, (x, c) ∈ new)
    (hg : env.globals = mainGlobals) (hb : env.builtins = builtinsNs) (hk : env.scope.kind = .function) (hL : env.locals = s.heap.objs.size) (hc : env.cells = cellsFrom (s.heap.objs.size + 1) names cl)
    (hr : RdK C s.heap X cl ρ) (hdis : (names.all fun p => p.2 != .cell || (ρ.get p.1).isUnk) = true)
    (hkc : ∀ x, env.kindOf x = some .cell → (x, NameKind.cell) ∈ names ∨ (ρ.get x).capt = true) (hkl : ∀ x, ρ.get x ≠ .unk → env.kindOf x = some .cell ∨ env.kindOf x = some .free)
    (hcl : ∀ x c, cl.lookup x = some c → ∃ v, s.heap.get? c = some (cellObj v)) :
    Mod C env ρ (fun a => X a ∨ ENew s new a) (ENew s new) h1 := by
  have k1 : ∀ b ob, s.heap.get? b = some ob → h1.get? b = some ob := fun b ob e => by rw [hh]; exact pushCells_keeps _ _ _ _ (Heap.get?_push_of_some _ e)
  have eL : h1.get? s.heap.objs.size = some fo := by rw [hh]; exact pushCells_keeps _ _ _ _ (Heap.get?_push_size _ hfr)
  have dead : ∀ a, ENew s new a → s.heap.get? a = none := fun a z => by
    rcases z with rfl | ⟨p, hp, rfl⟩
    · exact dead_size
    · cases e : s.heap.get? p.2 with
      | none => rfl
      | some ob => exact absurd (Heap.lt_size e) (Nat.not_lt.mpr (Nat.le_of_succ_le (p1 p hp).1))
  have live : ∀ a, ENew s new a → ∃ ob, h1.get? a = some ob ∧ NF ob := fun a z => by
    rcases z with rfl | ⟨p, hp, rfl⟩
    · exact ⟨fo, eL, fun vs e => by rw [hfo] at e; cases e⟩
    · exact ⟨_, (p1 p hp).2.1, fun vs e => by cases e⟩
  have nolook : ∀ x, ρ.get x ≠ .unk → new.lookup x = none := fun x hx => lookup_none_of fun c hc => by
    have := List.all_eq_true.mp hdis _ (p1 _ hc).2.2
    simp at this
    cases hs : ρ.get x with
    | unk => exact hx hs
    | _ => rw [hs] at this; simp [Slot.isUnk] at this
  have look : ∀ x c, env.cells.lookup x = some c → (∃ p ∈ new, p = (x, c)) ∨ cl.lookup x = some c := fun x c e => by
    rw [hc, hnew, lookup_app] at e
    cases e2 : new.lookup x with
    | some c' => rw [e2] at e; cases e; exact .inl ⟨_, mem_of_lookup e2, rfl⟩
    | none => rw [e2] at e; exact .inr e
  refine { glob := hg, blt := hb, kind := hk, ns := ⟨fun _ => none, ?_⟩, lm := .inl hL, mx := fun a z => .inr z, live := fun a z => ?_, alive := fun a z => ?_, cinj := fun x y c q hx hy => ?_, cells := fun x c hx => ?_, cellM := fun x c hx hcx hcap => ?_, hasc := fun x hx => ?_, cellX := fun x c d hx hg => ?_, vars := ⟨fun _ => none, fun x => ?_, fun _ _ _ e => by cases e⟩ }
  · rw [hL]; exact ⟨fo, #[], 0, eL, hfo, fun e he => by simp at he, fun _ => rfl⟩
  · rcases z with z | z
    · refine ex1_1 (hX a z) fun ob e => ?_; exact ⟨ob, k1 _ _ e⟩
    · refine ex1_2 (live a z) fun ob e _ => ?_; exact ⟨ob, e⟩
  · refine ex1_2 (live a z) fun ob e nf => ?_
    exact ⟨o.k.dead o.t (dead a z), ob, e, nf⟩
  · have nc : ∀ y, env.cells.lookup y = some c → ∃ p ∈ new, p = (y, c) := fun y e => (look y c e).elim id fun e2 => by
      refine ex1_1 (hcl y c e2) fun v e3 => ?_
      exact no_some (dead c q) e3
    refine ex1_2 (nc x hx) fun _ m1 zq1 => ?_; subst zq1
    refine ex1_2 (nc y hy) fun _ m2 zq2 => ?_; subst zq2
    exact name_of_addr p2 m1 m2
  · rcases look x c hx with ⟨_, m1, rfl⟩ | e
    · exact ⟨none, (p1 _ m1).2.1⟩
    · refine ex1_1 (hcl x c e) fun v e3 => ?_; exact ⟨v, k1 _ _ e3⟩
  · rcases look x c hcx with ⟨_, m1, rfl⟩ | e
    · exact .inr ⟨_, m1, rfl⟩
    · rcases hkc x hx with hm | hm
      · refine ex1_1 (p3 x hm) fun c' hc' => ?_
        refine ex1_2 (lookup_some_of hc') fun c2 e2 m2 => ?_
        rw [hc, hnew, lookup_app, e2] at hcx
        cases hcx; exact .inr ⟨_, m2, rfl⟩
      · rw [hm] at hcap; cases hcap
  · rcases hkc x hx with hm | hm
    · refine ex1_1 (p3 x hm) fun c' hc' => ?_
      refine ex1_2 (lookup_some_of hc') fun c2 e2 m2 => ?_
      exact ⟨c2, by rw [hc, hnew, lookup_app, e2]; rfl⟩
    · rcases hr.get (x := x) with ⟨q, _⟩ | ⟨d, c, v, q1, q2, q3, q4⟩
      · rw [q] at hm; cases hm
      · exact ⟨c, by rw [hc, hnew, lookup_app, nolook x (by rw [q1]; simp)]; exact q2⟩
  · rcases hr.get (x := x) with ⟨q, _⟩ | ⟨d, c, v, q1, q2, q3, q4⟩
    · rw [q] at hg; cases hg
    · rw [q1] at hg; cases hg
  · rcases hr.get (x := x) with ⟨q, _⟩ | ⟨d, c, v, q1, q2, q3, q4⟩
    · rw [q]; rfl
    · rw [q1]
      refine ⟨rfl, v, .inr ⟨hkl x (by rw [q1]; simp), c, ?_, k1 _ _ q3⟩, ?_⟩
      · rw [hc, hnew, lookup_app, nolook x (by rw [q1]; simp)]; exact q2
      · exact (q4.anti (X' := fun a => X a ∨ ENew s new a) fun a ob e z => z.elim id fun z => by exact no_some (dead a z) e).keeps k1 o.t
end
end Mine
namespace Mine

section
variable {C : Cx} {n : Lv} {sc : Sc} {ρ ρ' : Rho} {env : Env} {X M X' M' fp : Addr → Prop} {s₀ s s' : Shared} {h h' h₂ : Heap} {x : Str} {A : Around} {E : Value → Shared → Prop}

noncomputable abbrev fobj (dict : Bool) : Obj := { cls := .type (if dict then "dict" else "frame"), data := .dict #[] }


theorem wpAny_newEnv_raw {scope : Scope} {g : Addr} {cl : List (Str × Addr)} {binds : List (Str × Value)} {qual : Str} {func : Option Addr} {code : Value} {around : Option Env} {bi : Addr} {Q : Env → Shared → Prop}
    (h : wpAny C.M A (forIn binds PUnit.unit fun x _ => do storeName (newEnv scope s.heap.objs.size g (cellsFrom (s.heap.objs.size + 1) scope.names cl) qual func code around bi) x.1 x.2; pure (ForInStep.yield PUnit.unit))
      (fun _ s' => Q (newEnv scope s.heap.objs.size g (cellsFrom (s.heap.objs.size + 1) scope.names cl) qual func code around bi) s') E { s with heap := pushCells (s.heap.push (fobj around.isSome)) scope.names }) :
    wpAny C.M A (newFunctionEnv scope g cl binds qual func code around bi) Q E s := by
  unfold newFunctionEnv
  refine wpAny_bind (wpAny_alloc (wpAny_bind ?_))
  refine wpAny_layCells _ (fun _ _ _ => rfl) scope.names cl _ _ ?_
  rw [show ({ s with heap := s.heap.push { cls := Value.type (if around.isSome = true then "dict" else "frame"), data := .dict #[] } } : Shared).heap.objs.size = s.heap.objs.size + 1 from Heap.size_push ..]
  cases around <;> exact wpAny_bind (wpAny_mono h (fun _ s' q => wpAny_pure q) fun _ _ e => e)

inductive RdB (C : Cx) (h : Heap) (X : Addr → Prop) : List (Str × Value) → List (Str × D) → Prop where
  | nil : RdB C h X [] []
  | cons {x : Str} {v : Value} {d : D} {bs : List (Str × Value)} {ds : List (Str × D)} : Rd C h X v d → RdB C h X bs ds → RdB C h X ((x, v) :: bs) ((x, d) :: ds)

noncomputable def bindsRho (ρ : Rho) : List (Str × D) → Rho
  | [] => ρ
  | (x, d) :: r => bindsRho ((x, .val d) :: ρ) r

noncomputable def bindsOk (names : List (Str × NameKind)) (ρ : Rho) (ds : List (Str × D)) : Bool := ds.all fun p => isLoc (names.lookup p.1) && !(ρ.get p.1).capt

theorem bindsOk.tail {names : List (Str × NameKind)} {x : Str} {d : D} {ds : List (Str × D)} (h : bindsOk names ρ ((x, d) :: ds) = true) : isLoc (names.lookup x) = true ∧ (ρ.get x).capt = false ∧ bindsOk names ((x, .val d) :: ρ) ds = true := by
  unfold bindsOk at h ⊢
  rw [List.all_cons, Bool.and_eq_true] at h
  refine ex0_2 h fun h1 h2 => ?_; try clear h
  simp at h1
  refine ⟨h1.1, h1.2, ?_⟩
  rw [List.all_eq_true] at h2 ⊢
  intro p hp
  have := h2 p hp
  simp only [Bool.and_eq_true] at this ⊢
  refine ⟨this.1, ?_⟩
  rw [Rho.get_cons]
  split
  · rfl
  · exact this.2

theorem RdB.anti (hx : ∀ a o, h.get? a = some o → X' a → X a) {bs : List (Str × Value)} {ds : List (Str × D)} (q : RdB C h X bs ds) : RdB C h X' bs ds := by
  induction q with
  | nil => exact .nil
  | cons r _ ih => exact .cons (r.anti hx) ih

theorem wpAny_binds {binds : List (Str × Value)} {ds : List (Str × D)} {s₀ : Shared} {Q : PUnit → Shared → Prop} (o₀ : Ok C s₀) (rs : RdB C s₀.heap X binds ds) : ∀ {ρ : Rho} {s : Shared}, Ok C s → Mod C env ρ X M s.heap → Kq C M s₀.heap s.heap → bindsOk env.scope.names ρ ds = true →
    (∀ s', Ok C s' → Mod C env (bindsRho ρ ds) X M s'.heap → Kq C M s.heap s'.heap → Q PUnit.unit s') →
    wpAny C.M A (forIn binds PUnit.unit fun x _ => do storeName env x.1 x.2; pure (ForInStep.yield PUnit.unit)) Q E s := by
  induction rs with
  | nil => intro ρ s o m k _ q; rw [List.forIn_nil]; exact wpAny_pure (q s o m .refl)
  | @cons x v d _ _ r _ ih =>
    intro ρ s o m k hb q
    refine ex0_3 (bindsOk.tail hb) fun h1 h2 h3 => ?_
    rw [List.forIn_cons]
    exact wpAny_bind (wpAny_bind (wpAny_put (N := fun _ => False) (X' := X) (M' := M) (oa := none) (sl := .val d) o o m (fun _ _ => id) (isLoc_or h1) (by simp) (by simp) (fun _ z => z.elim) h2 ⟨rfl, r.keep k m.mx o₀.t⟩ (by simp) rfl fun s1 o1 m1 k1 => wpAny_pure (ih o1 m1 (k.trans k1) h3 fun s2 o2 m2 k2 => q s2 o2 m2 (k1.trans k2))))

noncomputable def clOk (names : List (Str × NameKind)) (ρ : Rho) : Bool := ρ.all (fun p => names.lookup p.1 == some .free) && names.all fun p => p.2 != .cell || (ρ.get p.1).isUnk

theorem wpAny_newEnv {scope : Scope} {cl : List (Str × Addr)} {binds : List (Str × Value)} {ds : List (Str × D)} {qual : Str} {func : Option Addr} {code : Value} {Q : Env → Shared → Prop} (o : Ok C s) (hX : Xl X s.heap) (hk : scope.kind = .function)
    (hr : RdK C s.heap X cl ρ) (hcl : clOk scope.names ρ = true) (hb : RdB C s.heap X binds ds) (hbs : bindsOk scope.names ρ ds = true)
    (q : ∀ new s', Ok C s' → Mod C (newEnv scope s.heap.objs.size mainGlobals (cellsFrom (s.heap.objs.size + 1) scope.names cl) qual func code none builtinsNs) (bindsRho ρ ds) (fun a => X a ∨ ENew s new a) (ENew s new) s'.heap → Kp C s.heap s'.heap → (∀ a, ENew s new a → s.heap.get? a = none) →
      (∃ fo, s'.heap.get? s.heap.objs.size = some fo ∧ fo.cls = .type "frame" ∧ NF fo) → Q (newEnv scope s.heap.objs.size mainGlobals (cellsFrom (s.heap.objs.size + 1) scope.names cl) qual func code none builtinsNs) s') :
    wpAny C.M A (newFunctionEnv scope mainGlobals cl binds qual func code none builtinsNs) Q E s := by
  refine wpAny_newEnv_raw ?_
  refine ex1_4 (cells_new scope.names (s.heap.push (fobj false)) cl) fun new hnew p1 p2 p3 => ?_
  rw [Heap.size_push] at hnew p1
  unfold clOk at hcl
  rw [Bool.and_eq_true] at hcl
  have k1 : ∀ b ob, s.heap.get? b = some ob → (pushCells (s.heap.push (fobj false)) scope.names).get? b = some ob := fun b ob e => pushCells_keeps _ _ _ _ (Heap.get?_push_of_some _ e)
  have o1 : Ok C { s with heap := pushCells (s.heap.push (fobj false)) scope.names } := o.keeps (t := s.toks) k1
  have cells : ∀ x c, cl.lookup x = some c → ∃ v, s.heap.get? c = some (cellObj v) := fun x c e => by
    rcases hr.get (x := x) with ⟨_, q2⟩ | ⟨d, c', v, _, q2, q3, _⟩
    · rw [e] at q2; cases q2
    · obtain rfl := is_some e q2; exact ⟨_, q3⟩
  have m1 : Mod C (newEnv scope s.heap.objs.size mainGlobals (cellsFrom (s.heap.objs.size + 1) scope.names cl) qual func code none builtinsNs) ρ (fun a => X a ∨ ENew s new a) (ENew s new) (pushCells (s.heap.push (fobj false)) scope.names) :=
    Mod.fresh (names := scope.names) (cl := cl) (fo := fobj false) o hX rfl rfl _ rfl hnew p1 p2 p3 rfl rfl hk rfl rfl hr hcl.2 (fun x hx => .inl (mem_of_lookup hx)) (fun x hx => .inr (by
      have := List.all_eq_true.mp hcl.1 _ (Rho.get_mem hx)
      exact eq_of_beq this)) cells
  have dead : ∀ a, ENew s new a → s.heap.get? a = none := fun a z => by
    rcases z with rfl | ⟨p, hp, rfl⟩
    · exact dead_size
    · cases e : s.heap.get? p.2 with
      | none => rfl
      | some ob => exact absurd (Heap.lt_size e) (Nat.not_lt.mpr (Nat.le_of_succ_le (p1 p hp).1))
  have rb : RdB C s.heap (fun a => X a ∨ ENew s new a) binds ds := hb.anti (X' := fun a => X a ∨ ENew s new a) fun a ob e z => z.elim id fun z => by exact no_some (dead a z) e
  refine wpAny_binds (X := fun a => X a ∨ ENew s new a) (M := ENew s new) o rb o1 m1 (Kq.keeps k1) hbs fun s2 o2 m2 k2 => ?_
  refine q new s2 o2 m2 ((Kq.keeps (M := fun _ => False) k1).trans' k2 fun a ob e z => by exact no_some (dead a z) e) dead ?_
  have eL : (pushCells (s.heap.push (fobj false)) scope.names).get? s.heap.objs.size = some (fobj false) := pushCells_keeps _ _ _ _ (Heap.get?_push_size _ rfl)
  refine ex1_3 (k2.kind _ _ eL (fun vs e => by cases e)) fun o' e' c' n' => ?_
  exact ⟨o', e', c', n'⟩
end
end Mine
namespace Mine

section
variable {C : Cx} {n : Lv} {sc : Sc} {ρ ρ' : Rho} {env : Env} {X M X' M' fp : Addr → Prop} {s₀ s s' : Shared} {h h' h₂ : Heap} {x : Str} {A : Around} {E : Value → Shared → Prop}

noncomputable def Slot.dat : Slot → D
  | .val d | .frz d | .ext d => d
  | _ => .none
noncomputable def Slot.isDat : Slot → Bool
  | .val _ | .frz _ | .ext _ => true
  | _ => false
noncomputable def isCF : Option NameKind → Bool
  | some .cell => true
  | some .free => true
  | _ => false
noncomputable def closList (f : Str → Addr) : List (Str × NameKind) → List (Str × Addr) → List (Str × Addr)
  | [], acc => acc
  | (x, k) :: r, acc => if k == .free then closList f r ((x, f x) :: acc) else closList f r acc
noncomputable def closRho (ρ : Rho) : List (Str × NameKind) → Rho → Rho
  | [], acc => acc
  | (x, k) :: r, acc => if k == .free then closRho ρ r ((x, .ext (ρ.get x).dat) :: acc) else closRho ρ r acc
noncomputable def captOk (outer names : List (Str × NameKind)) (ρ : Rho) : Bool := names.all fun p => p.2 != .free || ((ρ.get p.1).isDat && isCF (outer.lookup p.1))
noncomputable def cellAt (env : Env) (x : Str) : Addr := (env.cells.lookup x).getD 0

theorem closureFor_eq {scope : Scope} {env : Env} (hf : ∀ p ∈ scope.names, p.2 = .free → ∃ c, env.cells.lookup p.1 = some c) : closureFor scope env = pure (closList (cellAt env) scope.names []) := by
  have key : ∀ (names : List (Str × NameKind)) (acc : List (Str × Addr)), (∀ p ∈ names, p.2 = .free → ∃ c, env.cells.lookup p.1 = some c) →
      (forIn names acc fun x cs => if (x.2 == NameKind.free) = true then (do let a ← cellOf env x.1; pure (ForInStep.yield ((x.1, a) :: cs))) else pure (ForInStep.yield cs) : Sem (List (Str × Addr))) = pure (closList (cellAt env) names acc) := by
    intro names
    induction names with
    | nil => intro acc _; rfl
    | cons p r ih =>
      intro acc hf
      obtain ⟨x, k⟩ := p
      rw [List.forIn_cons]
      unfold closList
      by_cases hk : (k == NameKind.free) = true
      · rw [if_pos hk, if_pos hk]
        refine ex1_1 (hf (x, k) (.head _) (by simpa using hk)) fun c hc => ?_
        dsimp at hc
        have e1 : cellOf env x = pure c := by unfold cellOf; rw [hc]
        have e2 : cellAt env x = c := by unfold cellAt; rw [hc]; rfl
        rw [e1, e2]
        simp only [pure_bind]
        exact ih _ fun p hp => hf p (.tail _ hp)
      · rw [if_neg hk, if_neg hk]
        simp only [pure_bind]
        exact ih _ fun p hp => hf p (.tail _ hp)
  unfold closureFor
  simp only [key scope.names [] hf, pure_bind]

theorem Look.cell {v : Value} (l : Look h env x v) (hk : isCF (env.kindOf x) = true) : ∃ c, env.cells.lookup x = some c ∧ h.get? c = some (cellObj (some v)) := by
  rcases l with ⟨q1, _⟩ | ⟨_, c, q2, q3⟩
  · rw [q1] at hk; cases hk
  · exact ⟨c, q2, q3⟩

theorem look_dat (m : Mod C env ρ X M h) (hd : (ρ.get x).isDat = true) : ∃ v, Look h env x v ∧ Rd C h X v (ρ.get x).dat := by
  refine ex1_2 m.vars fun own q _ => ?_
  have q := q x
  cases e : ρ.get x <;> rw [e] at q hd <;> first | exact q.2 | cases hd

theorem closure_rd (m : Mod C env ρ X M h) (en : EnvIs C sc env) {names : List (Str × NameKind)} (hok : captOk sc.scope.names names ρ = true) :
    (∀ p ∈ names, p.2 = .free → ∃ c, env.cells.lookup p.1 = some c) ∧ ∀ {acc : List (Str × Addr)} {ra : Rho}, RdK C h X acc ra → RdK C h X (closList (cellAt env) names acc) (closRho ρ names ra) := by
  unfold captOk at hok
  rw [List.all_eq_true] at hok
  have one : ∀ p ∈ names, p.2 = .free → ∃ c v, env.cells.lookup p.1 = some c ∧ h.get? c = some (cellObj (some v)) ∧ Rd C h X v (ρ.get p.1).dat := fun p hp hk => by
    have := hok p hp
    rw [hk] at this
    simp at this
    refine ex1_2 (look_dat m this.1) fun v l r => ?_
    refine ex1_2 (l.cell (by rw [names_loc en rfl]; exact this.2)) fun c e1 e2 => ?_
    exact ⟨c, v, e1, e2, r⟩
  refine ⟨fun p hp hk => let ⟨c, v, e, _⟩ := one p hp hk; ⟨c, e⟩, ?_⟩
  clear hok
  induction names with
  | nil => intro acc ra r; exact r
  | cons p r ih =>
    intro acc ra rd
    obtain ⟨x, k⟩ := p
    unfold closList closRho
    by_cases hk : (k == NameKind.free) = true
    · rw [if_pos hk, if_pos hk]
      refine ex2_3 (one (x, k) (.head _) (by simpa using hk)) fun c v e1 e2 e3 => ?_
      have : cellAt env x = c := by unfold cellAt; dsimp at e1; rw [e1]; rfl
      rw [this]
      exact ih (fun p hp => one p (.tail _ hp)) (.cons e2 e3 rd)
    · rw [if_neg hk, if_neg hk]
      exact ih (fun p hp => one p (.tail _ hp)) rd

noncomputable def relabN (outer names : List (Str × NameKind)) : List (Str × NameKind) := names.map fun (n, k) => if (k == .free && outer.lookup n == some .cell) then (n, .cell) else (n, k)
noncomputable def relabS (outer scope : Scope) : Scope := { scope with names := relabN outer.names scope.names }
theorem relabel_eq {scope : Scope} (en : EnvIs C sc env) (hk : env.scope.kind = .function) : relabel scope env = relabS sc.scope scope := by
  unfold relabel relabS relabN
  rw [hk]
  have : ∀ n, env.kindOf n = sc.scope.names.lookup n := fun n => names_loc en rfl
  simp only [this]
  simp

noncomputable def compOk (outer names : List (Str × NameKind)) (ρ : Rho) : Bool :=
  captOk outer names ρ && (names.all fun p => p.2 != .cell || ((closRho ρ names []).get p.1).isUnk) && ((closRho ρ names []).all fun p => isCF ((relabN outer names).lookup p.1)) &&
  ((relabN outer names).all fun p => p.2 != .cell || (names.any fun q => q.1 == p.1 && q.2 == .cell) || ((closRho ρ names []).get p.1).capt) && names.all fun p => p.2 != .local || names.lookup p.1 == some .local

noncomputable def scIn (sc : Sc) (scope : Scope) : Sc := sc.inner (relabS sc.scope scope)

noncomputable def Tst (C : Cx) (n : Lv) (sc : Sc) (ρ : Rho) (ifs : List Expr) (b : Bool) : Prop :=
  ∀ A env X M s, Sit C n A s → EnvIs C sc env → Mod C env ρ X M s.heap →
    wpAny C.M A (forIn ifs true fun c r => if r = true then do let ok ← isTrue c env (eval c env); pure (ForInStep.yield ok) else pure (ForInStep.yield r)) (fun r s' => Nx C s s' ∧ r = b) (fun _ _ => False) s
theorem Tst_nil : Tst C n sc ρ [] true := fun A env X M s S e m => wpAny_tests_nil ⟨.refl S.ok, rfl⟩
theorem Tst_one {c : Expr} {b : Bool} (h : Et C n sc ρ c b) : Tst C n sc ρ [c] b := fun A env X M s S e m => wpAny_tests_one (h A env X M s S e m)

noncomputable def turnG (t iter : Expr) (ifs : List Expr) (c : Code) (em : Value → Env → Sem Unit) (it acc : Value) (env : Env) : Sem PySem.Fin := do
  standAt iter.pos
  match ← pyNext it with
  | none => pure (.done .next)
  | some v =>
    letOwnedTupleGo t it v
    assign t env v
    let mut ok := true
    for c in ifs do
      if ok then ok ← isTrue c env (eval c env)
    if ok then em acc env
    again c
noncomputable def emA (elt : Expr) (acc : Value) (env : Env) : Sem Unit := do let _ ← call (.builtin "list.append") [acc, ← eval elt env]
theorem codeAny_compLoop_G {R : Result → Shared → Prop} {elt t iter : Expr} {ifs : List Expr} {gens : List Comprehension} {scope : Scope} {pos : Pos} {depth : Nat} {it acc : Value} {env : Env} {em : Value → Env → Sem Unit}
    (hte : compTurn (.ListComp elt gens scope pos) depth it acc env = turnG t iter ifs (.compLoop (.ListComp elt gens scope pos) depth it acc env) em it acc env) (I : Nat → Shared → Prop)
    (turn : ∀ n s, I n s → wpAny C.M A (pyNext it) (fun r s₁ => match r with
      | none => R (.ok .next) s₁
      | some v => wpAny C.M A (letOwnedTupleGo t it v) (fun _ s₁' => wpAny C.M A (assign t env v) (fun _ s₂ =>
          wpAny C.M A (forIn ifs true fun c r => if r = true then do let ok ← isTrue c env (eval c env); pure (ForInStep.yield ok) else pure (ForInStep.yield r)) (fun ok s₃ =>
            if ok = true then wpAny C.M A (em acc env) (fun _ s₅ => ∃ m, m < n ∧ I m s₅) (fun _ _ => False) s₃
            else ∃ m, m < n ∧ I m s₃) (fun _ _ => False) s₂) (fun _ _ => False) s₁') (fun _ _ => False) s₁) (fun _ _ => False) s)
    (n : Nat) (h : I n s) :
    codeAny C.M A (.compLoop (.ListComp elt gens scope pos) depth it acc env) R s := by
  refine codeAny_loop rfl I (fun n s hI => ?_) n h
  show wpAny _ A ((compTurn (.ListComp elt gens scope pos) depth it acc env).onRaise (fun x => do noteFrame x env; theTreesLotGoes x)) _ _ s
  refine wpAny_noted ?_
  rw [hte]
  unfold turnG
  refine wpAny_bind (wpAny_standAt (wpAny_bind (wp_false (turn n s hI) fun r s₁ h₁ => ?_)))
  cases r with
  | none => exact wpAny_pure h₁
  | some v =>
    refine wpAny_bind (wp_false h₁ fun _ s₁' h₁' => wpAny_bind (wp_false h₁' fun _ s₂ h₂ => wpAny_bind (wp_false h₂ fun ok s₃ h₃ => ?_)))
    cases ok with
    | false => exact wpAny_pure ⟨rfl, h₃⟩
    | true => exact wpAny_bind (wp_false h₃ fun _ s₅ h₅ => wpAny_pure ⟨rfl, h₅⟩)

noncomputable def Emit (C : Cx) (n : Lv) (sc : Sc) (ρ : Rho) (em : Value → Env → Sem Unit) (fd : List D) : Prop :=
  ∀ A env X M s D us j ds0, Sit C n A s → EnvIs C sc env → Mod C env ρ X M s.heap → X D → ¬ M D → C.h₁.get? D = none → s.heap.get? D = some (seqO "list" us j) → us.length + fd.length ≤ BIG → RdL C s.heap X us ds0 →
    wpAny C.M A (em (.ref D) env) (fun _ s' => Kq C (fun b => M b ∨ b = D) s.heap s'.heap ∧ Ok C s' ∧ Mod C env ρ X M s'.heap ∧ ∃ us' j', s'.heap.get? D = some (seqO "list" us' j') ∧ RdL C s'.heap X us' (ds0 ++ fd)) (fun _ _ => False) s

theorem Emit_one {elt : Expr} {d : D} (h : Ev C n sc ρ elt d) : Emit C n sc ρ (emA elt) [d] := fun A env X M s D us j ds0 S en m xD mD dD e z r => by
  unfold emA
  refine wpAny_bind (wp_false (h A env X M s S en m) fun y s1 zq4 => ex0_2 zq4 fun n1 ry => wpAny_bind ?_)
  have m1 := m.nx n1 S.ok
  have e1 := n1.k.exact id (S.ok.t.notab e (by simp)) e (by simp)
  have r1 := r.nx n1 S.ok
  refine wpAny_list_append_plain (hsz := by rw [List.size_toArray]; exact big_line (by simp at z; lia)) (⟨j, e1⟩ : s1.heap.PlainList D us.toArray) fun h' zq5 => ex1_1 zq5 fun j' e' hsb => wpAny_pure ?_
  have e2 : h'.get? D = some (seqO "list" (us ++ [y]) j') := by rw [e']; simp [seqO]
  have kb : ∀ ob, s1.heap.get? D = some ob → NF ob → ∃ o', h'.get? D = some o' ∧ o'.cls = ob.cls ∧ NF o' := fun ob e _ => by
    obtain rfl := is_some e1 e; exact ⟨_, e2, rfl, fun _ z => by cases z⟩
  have kq : Kq C (fun b => b = D) s1.heap h' := Kq.one (fun c hc ob e => (hsb.2 c hc).trans e) kb (fun ob e => by obtain rfl := is_some e1 e; exact fun _ z => by cases z) rfl
  have o2 : Ok C { s1 with heap := h' } := n1.ok.touch hsb kb dD (fun ob e => by obtain rfl := is_some e1 e; exact fun _ z => by cases z)
  have hDX : ∀ a, a = D → X a := fun a z => z ▸ xD
  have m2 : Mod C env ρ X M h' := m1.side n1.ok.t kq o2.t hDX (fun a z w => mD (z ▸ w)) (fun z c hc w => by
    refine ex1_1 (m1.cells z c hc) fun u e => ?_
    rw [w, e1] at e; simp at e) (fun a z => ⟨z, fun w => ⟨_, w ▸ e2⟩⟩) m1.mx
  exact ⟨(Kq.of_kp n1.k).trans (kq.mono fun a z => .inr z), o2, m2, _, _, e2, RdL.append (r1.keep kq hDX n1.ok.t) (.cons (ry.keep kq hDX n1.ok.t) .nil)⟩

theorem dead_back (k : Kp C s.heap s'.heap) (T : TabOK C s'.heap) {a : Addr} (e : s'.heap.get? a = none) : s.heap.get? a = none := by
  cases e0 : s.heap.get? a with
  | none => rfl
  | some o => refine ex1_1 (k.live (fun _ _ q => q.elim) T e0) fun o' e' => ?_; exact no_some e e'


noncomputable abbrev CoI (C : Cx) (cenv : Env) (ρc : Rho) (Xc N : Addr → Prop) (J : Heap → (Addr → Prop) → List D → Prop) (E0 : Addr) (p : D → Bool) (f : D → List D) (ds : List D) (s : Shared) (k : Nat) (s' : Shared) : Prop :=
  ∃ done ds' us j, ds = done ++ ds' ∧ ds'.length = k ∧ Nx C s s' ∧ Mod C cenv ρc Xc N s'.heap ∧ J s'.heap Xc ds' ∧ s'.heap.get? E0 = some (seqO "list" us j) ∧ RdL C s'.heap Xc us ((done.filter p).flatMap f)

theorem flat_one {α β : Type} (f : α → β) : ∀ l : List α, (l.flatMap fun d => [f d]) = l.map f
  | [] => rfl
  | a :: l => by rw [List.flatMap_cons, flat_one f l]; rfl
theorem comp_coreG (hn : n.h = false) {elt t iter : Expr} {ifs : List Expr} {gens : List Comprehension} {scope : Scope} {pos fpos : Pos} {ds : List D} {p : D → Bool} {f : D → List D} {use : Option (Value → Sem Unit)} {Q : Value → Shared → Prop} {em : Value → Env → Sem Unit}
    (hte : ∀ it acc env, compTurn (.ListComp elt (⟨t, iter, ifs, 0⟩ :: gens) scope pos) 0 it acc env = turnG t iter ifs (.compLoop (.ListComp elt (⟨t, iter, ifs, 0⟩ :: gens) scope pos) 0 it acc env) em it acc env)
    (S : Sit C n A s) (en : EnvIs C sc env) (m : Mod C env ρ X M s.heap) (hit : Eit C n sc ρ iter t ds) (hok : compOk sc.scope.names scope.names ρ = true) (hkind : scope.kind = .function)
    (turn : ∀ d ∈ ds, ∃ ρ₁, Asg C n (scIn sc scope) (closRho ρ scope.names []) t d ρ₁ ∧ Wk C ρ₁ (closRho ρ scope.names []) ∧ Tst C n (scIn sc scope) ρ₁ ifs (p d) ∧ (p d = true → Emit C n (scIn sc scope) ρ₁ em (f d)))
    (hz : ((ds.filter p).flatMap f).length ≤ BIG) (hs : ∀ x, foldedSetIterable iter env x = pure x)
    (fin : ∀ (s' : Shared) (Z : Addr → Prop) (L : Addr) (v : Value), Nx C s s' → (∀ a, Z a → s.heap.get? a = none) → Z L → (∃ mm, s'.heap.Ns L mm) → (∃ a, v = .ref a ∧ ¬ Z a) → Rd C s'.heap (fun a => X a ∨ Z a) v (.list ((ds.filter p).flatMap f)) →
      compPost C.M A E use Q v L (.ok .next) s') :
    wpAny C.M A (comprehension (.ListComp elt (⟨t, iter, ifs, 0⟩ :: gens) scope pos) scope env fpos (newList []) false (eval iter env) use) Q E s := by
  unfold compOk at hok
  simp only [Bool.and_eq_true] at hok
  refine ex0_2 hok fun zq1 ok5 => ?_; try clear hok; refine ex0_2 zq1 fun zq1 ok4 => ?_; obtain ⟨⟨ok1, ok2⟩, ok3⟩ := zq1
  refine ex0_2 (closure_rd m en ok1) fun hfree hclR => ?_
  refine wpAny_comprehension_free (cl := closList (cellAt env) scope.names []) rfl hs (closureFor_eq hfree) hkind (fun x hx hl => ?_) (wp_false (hit A env X M s S en m) fun xv s1 h1 => wp_false h1 fun it s2 ⟨n2, fp, J, W, j2, ffr⟩ => ?_)
  · have := List.all_eq_true.mp ok5 x hx
    rw [hl] at this; simpa using this
  have z0 : ([] : List Value).length ≤ sizeLine := by decide
  refine wpAny_newList ?_ z0
  generalize hs3 : ({ s2 with heap := s2.heap.push { cls := .type "list", data := .seq ([] : List Value).toArray } } : Shared) = s3
  have k23 : ∀ b ob, s2.heap.get? b = some ob → s3.heap.get? b = some ob := by rw [← hs3]; exact push_keeps _
  have n3 : Nx C s2 s3 := by rw [← hs3]; exact Nx.keeps' n2.ok (push_keeps _)
  have eD3 : s3.heap.get? s2.heap.objs.size = some (seqO "list" [] 0) := by rw [← hs3]; exact Heap.get?_push_size _ rfl
  generalize hD : s2.heap.objs.size = D at eD3
  have dD2 : s2.heap.get? D = none := by rw [← hD]; exact dead_size
  have n13 : Nx C s s3 := n2.trans n3
  have S3 : Sit C n A s3 := S.next n13
  have m3 := m.nx n13 S.ok
  -- what is hidden from the block
  let X3 : Addr → Prop := fun a => (X a ∨ fp a) ∨ a = D
  have j3 : J s3.heap (fun a => X a ∨ fp a) ds := W.keep j2 (Kq.keeps (M := fun _ => False) k23) (fun _ z => z.elim) (fun _ _ => id) n2.ok.t
  have j3' : J s3.heap X3 ds := by
    have : J s2.heap X3 ds := W.anti j2 fun a ob e z => z.elim id fun z => by rw [z, dD2] at e; cases e
    exact W.keep this (Kq.keeps (M := fun _ => False) k23) (fun _ z => z.elim) (fun _ _ => id) n2.ok.t
  have hX3 : Xl X3 s3.heap := fun a z => by
    rcases z with (z | z) | z
    · exact m3.live a z
    · refine ex2_2 (W.live j3 a z) fun ob _ e _ => ?_; exact ⟨ob, e⟩
    · exact ⟨_, z ▸ eD3⟩
  have mh : Mod C env ρ X3 M s3.heap := by
    have := m.hide (fp := fun a => fp a ∨ a = D) S.ok.t n13.k n3.ok.t fun a z => ⟨?_, hX3 a (z.elim (fun z => .inl (.inr z)) .inr)⟩
    · have e : (fun a => X a ∨ (fp a ∨ a = D)) = X3 := by funext a; exact propext or_assoc.symm
      rw [e] at this; exact this
    · rcases z with z | z
      · exact ffr a z
      · subst z; exact dead_back n2.k n2.ok.t dD2
  refine ex0_2 (closure_rd mh en ok1) fun _ hclR3 => ?_
  have rk := hclR3 (acc := []) (ra := []) .nil
  refine wpAny_newEnv_raw (around := some env) ?_
  rw [List.forIn_nil]
  refine wpAny_pure ?_
  refine ex1_4 (cells_new scope.names (s3.heap.push (fobj true)) (closList (cellAt env) scope.names [])) fun new hnew p1 p2 p3 => ?_
  rw [Heap.size_push] at hnew p1
  generalize hs4 : ({ s3 with heap := pushCells (s3.heap.push (fobj (some env).isSome)) scope.names } : Shared) = s4
  have h4 : s4.heap = pushCells (s3.heap.push (fobj true)) scope.names := by rw [← hs4]; rfl
  have k34 : ∀ b ob, s3.heap.get? b = some ob → s4.heap.get? b = some ob := fun b ob e => by rw [h4]; exact pushCells_keeps _ _ _ _ (Heap.get?_push_of_some _ e)
  have n4 : Nx C s3 s4 := by
    have := Nx.keeps' n3.ok (h' := s4.heap) k34
    rw [← hs4] at this ⊢; exact this
  have n14 : Nx C s s4 := n13.trans n4
  generalize hce : ({ newEnv scope s3.heap.objs.size env.globals (cellsFrom (s3.heap.objs.size + 1) scope.names (closList (cellAt env) scope.names [])) env.qual none .none (some env) builtinsNs with scope := relabel scope env } : Env) = cenv
  have ceL : cenv.locals = s3.heap.objs.size := by rw [← hce]; rfl
  have ceS : cenv.scope = relabS sc.scope scope := by rw [← hce]; exact relabel_eq en m.kind
  have ceE : EnvIs C (scIn sc scope) cenv := ⟨ceS, by rw [← hce]; exact en.2.1, fun c P hcp => by
    have := en.2.2 c P hcp
    rw [← hce]; exact this⟩
  have kdIn : ∀ x, cenv.kindOf x = (relabN sc.scope.names scope.names).lookup x := fun x => by
    unfold Env.kindOf; rw [ceS]; rfl
  have m4 : Mod C cenv (closRho ρ scope.names []) (fun a => X3 a ∨ ENew s3 new a) (ENew s3 new) s4.heap := by
    refine Mod.fresh (names := scope.names) (cl := closList (cellAt env) scope.names []) (fo := fobj true) n3.ok hX3 rfl rfl _ h4 hnew ?_ p2 p3 (by rw [← hce]; exact m.glob) (by rw [← hce]; exact m.blt) (by rw [ceS]; exact hkind) ceL (by rw [← hce]; rfl) rk ok2 (fun x hx => ?_) (fun x hx => ?_) ?_
    · rw [h4]; exact p1
    · rw [kdIn] at hx
      have := List.all_eq_true.mp ok4 _ (mem_of_lookup hx)
      simp at this
      rcases this with this | this
      · exact .inl this
      · exact .inr this
    · have := List.all_eq_true.mp ok3 _ (Rho.get_mem hx)
      rw [kdIn]
      revert this
      generalize (relabN sc.scope.names scope.names).lookup x = kk
      intro this
      match kk, this with
      | some .cell, _ => exact .inl rfl
      | some .free, _ => exact .inr rfl
    · intro x c e
      rcases rk.get (x := x) with ⟨_, q2⟩ | ⟨d, c', v, _, q2, q3, _⟩
      · rw [e] at q2; cases q2
      · obtain rfl := is_some e q2; exact ⟨_, q3⟩
  let Xc : Addr → Prop := fun a => X3 a ∨ ENew s3 new a
  have dN : ∀ a, ENew s3 new a → s3.heap.get? a = none := fun a z => by
    rcases z with rfl | ⟨q, hq, rfl⟩
    · exact dead_size
    · cases e : s3.heap.get? q.2 with
      | none => rfl
      | some ob => exact absurd (Heap.lt_size e) (Nat.not_lt.mpr (Nat.le_of_succ_le (p1 q hq).1))
  have dN0 : ∀ a, ENew s3 new a → s.heap.get? a = none := fun a z => dead_back n13.k n3.ok.t (dN a z)
  have dD0 : s.heap.get? D = none := dead_back n2.k n2.ok.t dD2
  have dDN : ¬ ENew s3 new D := fun z => by exact no_some (dN D z) eD3
  have fpN : ∀ a, fp a → ¬ ENew s3 new a := fun a z w => by
    refine ex2_2 (W.live j3 a z) fun ob _ e _ => ?_
    exact no_some (dN a w) e
  have fpD : ¬ fp D := fun z => by
    refine ex2_2 (W.live j3 D z) fun ob vs e hd => ?_
    obtain rfl := is_some eD3 e; cases hd
  have eD4 := k34 _ _ eD3
  have j4 : J s4.heap Xc ds := by
    have : J s3.heap Xc ds := W.anti j3' fun a ob e z => z.elim id fun z => by exact no_some (dN a z) e
    exact W.keep this (Kq.keeps (M := fun _ => False) k34) (fun _ z => z.elim) (fun _ _ => id) n3.ok.t
  -- the walk
  have loop : codeAny C.M A (.compLoop (.ListComp elt (⟨t, iter, ifs, 0⟩ :: gens) scope pos) 0 it (.ref D) cenv) (compPost C.M A E use Q (.ref D) cenv.locals) s4 := by
    refine codeAny_compLoop_G (hte it (.ref D) cenv) (CoI C cenv (closRho ρ scope.names []) Xc (ENew s3 new) J D p f ds s) ?_ ds.length ⟨[], ds, [], 0, rfl, rfl, n14, m4, j4, eD4, .nil⟩
    intro k s5 zi1; refine ex4_7 zi1 fun done ds' us j hds hk n5 m5 j5 e5 r5 => ?_; try clear zi1
    have S5 := S.next n5
    have f1 : ∀ a, fp a → Xc a := fun a z => .inl (.inl (.inr z))
    cases ds' with
    | nil =>
      refine wp_false (W.nil hn S5 f1 j5) fun r s6 zq6 => ex0_2 zq6 fun hr st => ?_
      subst hr
      rw [List.append_nil] at hds; subst hds
      have n6 : Nx C s s6 := ⟨n5.k.trans' st.kq (fun a ob e z => by exact no_some (ffr a z) e), st.ok⟩
      have e6 := st.kq.exact fpD (n5.ok.t.notab e5 (by simp)) e5 (by simp)
      refine ex1_1 m5.ns fun mm hn => ?_
      refine fin s6 (fun a => fp a ∨ ENew s3 new a) cenv.locals (.ref D) n6 (fun a z => z.elim (ffr a) (dN0 a)) (.inr (ceL ▸ .inl rfl)) ⟨mm, Ns_kq st.kq n5.ok.t (fun z => fpN _ z (ceL ▸ .inl rfl)) hn⟩ ⟨D, rfl, fun z => z.elim fpD dDN⟩ ?_
      refine .list (fun z => ?_) e6 (by rw [r5.length]; exact hz) ((r5.keep st.kq f1 n5.ok.t).anti fun a ob e z => ?_)
      · rcases z with z | z | z
        · refine ex1_1 (m.live D z) fun ob e => ?_; exact no_some dD0 e
        · exact fpD z
        · exact dDN z
      · rcases z with z | z | z
        · exact .inl (.inl (.inl z))
        · exact .inl (.inl (.inr z))
        · exact .inr z
    | cons d rest =>
      refine wp_false (W.cons S5 f1 m5.live j5) fun r s6 zq7 => ex1_2 zq7 fun v hr h6 => ?_
      subst hr
      refine wp_false h6 fun _ s7 zq8 => ex0_3 zq8 fun st r7 j7 => ?_
      have n7 : Nx C s s7 := ⟨n5.k.trans' st.kq (fun a ob e z => by exact no_some (ffr a z) e), st.ok⟩
      have m7 : Mod C cenv (closRho ρ scope.names []) Xc (ENew s3 new) s7.heap := m5.side n5.ok.t st.kq n7.ok.t f1 (fun a z w => fpN a z w) (m5.nofp (W.live j5)) (fun a z => ⟨z, fun fz => let ⟨ob, _, e, _⟩ := W.live j7 a fz; ⟨ob, e⟩⟩) m5.mx
      have e7 := st.kq.exact fpD (n5.ok.t.notab e5 (by simp)) e5 (by simp)
      have r7' := r5.keep st.kq f1 n5.ok.t
      refine ex1_4 (turn d (by rw [hds]; simp)) fun ρ1 ha hsub ht he => ?_
      refine wp_false (ha A cenv Xc _ s7 v (S.next n7) ceE m7 r7) fun _ s8 zq9 => ex0_3 zq9 fun o8 m8 k8 => ?_
      have n8 : Nx C s s8 := ⟨n7.k.trans' k8 (fun a ob e z => by exact no_some (dN0 a z) e), o8⟩
      have j8 : J s8.heap Xc rest := W.keep j7 k8 m7.mx fpN n7.ok.t
      have e8 := k8.exact dDN (n7.ok.t.notab e7 (by simp)) e7 (by simp)
      have r8 := r7'.keep k8 m7.mx n7.ok.t
      refine wp_false (ht A cenv Xc _ s8 (S.next n8) ceE m8) fun ok s9 zq10 => ex0_2 zq10 fun n89 hr => ?_
      subst hr
      have n9 := n8.trans n89
      have m9 := m8.nx n89 n8.ok
      have j9 : J s9.heap Xc rest := W.keep j8 n89.k (fun _ z => z.elim) (fun _ _ => id) n8.ok.t
      have e9 := n89.k.exact id (n8.ok.t.notab e8 (by simp)) e8 (by simp)
      have r9 := r8.nx n89 n8.ok
      cases hp : p d with
      | false =>
        rw [if_neg (by simp)]
        refine ⟨rest.length, by rw [← hk]; simp, done ++ [d], rest, us, j, by rw [hds]; simp, rfl, n9, hsub _ _ _ _ m9, j9, e9, ?_⟩
        rw [List.filter_append]; simpa [hp] using r9
      | true =>
        rw [if_pos rfl]
        have hfl : (done ++ d :: rest).filter p = done.filter p ++ d :: rest.filter p := by rw [List.filter_append, List.filter_cons_of_pos hp]
        have zz : us.length + (f d).length ≤ BIG := by
          rw [r5.length]
          rw [hds, hfl, List.flatMap_append, List.flatMap_cons, List.length_append, List.length_append] at hz
          lia
        refine wp_false (he hp A cenv Xc _ s9 D us j _ (S.next n9) ceE m9 (.inl (.inr rfl)) dDN (n2.ok.k.dead n2.ok.t dD2) e9 zz r9) fun _ s10 ⟨kq, o10, m10, us', j', e10, r10⟩ => ?_
        have n10 : Nx C s s10 := ⟨n9.k.trans' kq (fun a ob e z => by
          rcases z with z | z
          · exact no_some (dN0 a z) e
          · subst z; exact no_some dD0 e), o10⟩
        refine ⟨rest.length, by rw [← hk]; simp, done ++ [d], rest, us', j', by rw [hds]; simp, rfl, n10, hsub _ _ _ _ m10, W.keep j9 kq (fun a z => z.elim (m9.mx a) fun z => .inl (.inr z)) (fun a z w => w.elim (fpN a z) fun w => fpD (w ▸ z)) n9.ok.t, e10, ?_⟩
        have : (done ++ [d]).filter p = done.filter p ++ [d] := by rw [List.filter_append]; simp [hp]
        rw [this, List.flatMap_append, List.flatMap_cons, List.flatMap_nil, List.append_nil]
        exact r10
  rw [ceL] at loop
  exact codeAny_compStart_list loop (wpAny_mono (W.again j4 (Q := fun it' s' => it' = it ∧ s' = s4) ⟨rfl, rfl⟩) (fun it' s' zq11 => ex0_2 zq11 fun e1 e2 => by subst e1 e2; exact loop) fun _ _ z => z.elim)


theorem comp_core (hn : n.h = false) {elt t iter : Expr} {ifs : List Expr} {scope : Scope} {pos fpos : Pos} {ds : List D} {p : D → Bool} {f : D → D} {use : Option (Value → Sem Unit)} {Q : Value → Shared → Prop}
    (S : Sit C n A s) (en : EnvIs C sc env) (m : Mod C env ρ X M s.heap) (hit : Eit C n sc ρ iter t ds) (hok : compOk sc.scope.names scope.names ρ = true) (hkind : scope.kind = .function)
    (turn : ∀ d ∈ ds, ∃ ρ₁, Asg C n (scIn sc scope) (closRho ρ scope.names []) t d ρ₁ ∧ Wk C ρ₁ (closRho ρ scope.names []) ∧ Tst C n (scIn sc scope) ρ₁ ifs (p d) ∧ (p d = true → Ev C n (scIn sc scope) ρ₁ elt (f d)))
    (hz : ds.length ≤ BIG) (hs : ∀ x, foldedSetIterable iter env x = pure x)
    (fin : ∀ (s' : Shared) (Z : Addr → Prop) (L : Addr) (v : Value), Nx C s s' → (∀ a, Z a → s.heap.get? a = none) → Z L → (∃ mm, s'.heap.Ns L mm) → (∃ a, v = .ref a ∧ ¬ Z a) → Rd C s'.heap (fun a => X a ∨ Z a) v (.list ((ds.filter p).map f)) →
      compPost C.M A E use Q v L (.ok .next) s') :
    wpAny C.M A (comprehension (.ListComp elt [⟨t, iter, ifs, 0⟩] scope pos) scope env fpos (newList []) false (eval iter env) use) Q E s := by
  refine comp_coreG hn (gens := []) (p := p) (f := fun d => [f d]) (em := emA elt) (fun it acc env => by rfl) S en m hit hok hkind (fun d hd => ?_) ?_ hs fun s' Z L v a b c d e r => ?_
  · refine ex1_4 (turn d hd) fun ρ₁ h1 h2 h3 h4 => ?_
    exact ⟨ρ₁, h1, h2, h3, fun hp => Emit_one (h4 hp)⟩
  · rw [flat_one, List.length_map]; exact Nat.le_trans (List.length_filter_le _ _) hz
  · rw [flat_one] at r
    exact fin s' Z L v a b c d e r

theorem Ks.one {a : Addr} (k : ∀ b, b ≠ a → ∀ o, h.get? b = some o → h'.get? b = some o) {mm : Str → Option Value} (hn : h.Ns a mm) : Ks C (fun b => b = a) h h' := ⟨fun b o n _ e => ⟨o.slots, k b n o e, fun _ => rfl⟩, fun c q x _ => CodeRec.but x fun o e => k c (fun z => by
  refine ex4_4 x fun c' o2 vs2 tk e2 e3 e4 e5 => ?_; try clear x
  cases e2
  refine ex3_3 hn fun ob es ep e6 e7 _ => ?_; try clear hn
  rw [z, e6] at e3; cases e3; rw [e7] at e4; cases e4) o e⟩

theorem Nx.lose {L : Addr} {mm : Str → Option Value} (n : Nx C s s') (T : TabOK C s.heap) (k1 : Kp C C.h₁ s.heap) (dead : s.heap.get? L = none) (hn : s'.heap.Ns L mm) (hs : Heap.SameBut L s'.heap h') : Nx C s { s' with heap := h' } := by
  have d1 : C.h₁.get? L = none := k1.dead T dead
  have ks : Ks C (fun b => b = L) s'.heap h' := Ks.one (fun b hb o e => (hs.2 b hb).trans e) hn
  have kc : ∀ c q, s'.heap.CodeRec (.ref c) q → c ∉ tabs → h'.CodeRec (.ref c) q := ks.code
  refine ⟨⟨fun a o nm t e => ?_, fun a o e nf => ?_, fun c q x t => kc c q (n.k.code c q x t) t⟩, ⟨⟨fun a o nm t e => ?_, fun a o e nf => ?_, fun c q x t => kc c q (n.ok.k.code c q x t) t⟩, TabOK.by (K := fun _ => False) n.ok.t kc fun P hP o e => (hs.2 P (by rintro rfl; refine ex1_1 (C.tabIn P hP) fun _ e' => ?_; exact no_some d1 e')).trans e, n.ok.g, n.ok.o⟩⟩
  · refine ex1_2 (n.k.same a o nm t e) fun sl e1 c1 => ?_
    exact ⟨sl, (hs.2 a (by rintro rfl; exact no_some dead e)).trans e1, c1⟩
  · refine ex1_2 (n.k.kind a o e nf) fun o' e1 c1 => ?_
    exact ⟨o', (hs.2 a (by rintro rfl; exact no_some dead e)).trans e1, c1⟩
  · refine ex1_2 (n.ok.k.same a o nm t e) fun sl e1 c1 => ?_
    exact ⟨sl, (hs.2 a (by rintro rfl; exact no_some d1 e)).trans e1, c1⟩
  · refine ex1_2 (n.ok.k.kind a o e nf) fun o' e1 c1 => ?_
    exact ⟨o', (hs.2 a (by rintro rfl; exact no_some d1 e)).trans e1, c1⟩

theorem Ev_comp {elt t iter : Expr} {ifs : List Expr} {scope : Scope} {pos : Pos} {ds : List D} (p : D → Bool) (f : D → D) (hit : Eit C n sc ρ iter t ds) (hok : compOk sc.scope.names scope.names ρ = true) (hkind : scope.kind = .function)
    (turn : ∀ d ∈ ds, ∃ ρ₁, Asg C n (scIn sc scope) (closRho ρ scope.names []) t d ρ₁ ∧ Wk C ρ₁ (closRho ρ scope.names []) ∧ Tst C n (scIn sc scope) ρ₁ ifs (p d) ∧ (p d = true → Ev C n (scIn sc scope) ρ₁ elt (f d)))
    (hz : ds.length ≤ BIG) (hn : n.h = false := by assumption) (hs : ∀ env x, foldedSetIterable iter env x = pure x := by intro _ _; rfl) : Ev C n sc ρ (.ListComp elt [⟨t, iter, ifs, 0⟩] scope pos) (.list ((ds.filter p).map f)) := fun A env X M s S en m => by
  show wpAny C.M A (comprehension (.ListComp elt [⟨t, iter, ifs, 0⟩] scope pos) scope env _ (newList []) false (eval iter env) none) _ _ s
  refine comp_core hn S en m hit hok hkind turn hz (hs env) fun s' Z L v n' hZ hL zq12 => ex1_1 zq12 fun mm hn zq13 => ex1_2 zq13 fun a hv hZa r => ⟨mm, hn, fun h' hs' => ⟨n'.lose S.ok.t S.ok.k (hZ L hL) hn hs', ?_⟩⟩
  have ks : Ks C (fun b => b = L) s'.heap h' := Ks.one (fun b hb o e => (hs'.2 b hb).trans e) hn
  exact (r.keepS ks (fun b z => .inr (z ▸ hL)) n'.ok.t).anti fun b o e z => .inl z

theorem Mod.lose {L : Addr} (m : Mod C env ρ X M h) (hX : ¬ X L) (dead : ∀ y c, env.cells.lookup y = some c → c ≠ L) (T : TabOK C h) (hr : Mod C env ρ (fun a => X a ∨ a = L) M h) {mm : Str → Option Value} (hL : h.Ns L mm) (hs : Heap.SameBut L h h') : Mod C env ρ X M h' := by
  have nM : ¬ M L := fun z => hX (m.mx L z)
  have ks : Ks C (fun b => b = L) h h' := Ks.one (fun b hb o e => (hs.2 b hb).trans e) hL
  have look : ∀ y u, Look h env y u → Look h' env y u := fun y u l => by
    rcases l with ⟨q1, f, ⟨o, es, ep, e, r⟩, q3⟩ | ⟨q1, c, q2, q3⟩
    · exact .inl ⟨q1, f, ⟨o, es, ep, (hs.2 _ fun z => nM (z ▸ m.lm)).trans e, r⟩, q3⟩
    · exact .inr ⟨q1, c, q2, (hs.2 c (dead _ _ q2)).trans q3⟩
  refine { m with ns := ?_, live := fun a z => ?_, alive := fun a z => ?_, cells := fun x c hc => ?_, vars := ?_ }
  · refine ex4_2 m.ns fun f o es ep e r => ?_
    exact ⟨f, o, es, ep, (hs.2 _ fun z => nM (z ▸ m.lm)).trans e, r⟩
  · refine ex1_1 (m.live a z) fun o e => ?_; exact ⟨o, (hs.2 a (by rintro rfl; exact hX z)).trans e⟩
  · refine ex0_2 (m.alive a z) fun q1 zq2 => ?_; refine ex1_2 zq2 fun o e nf => ?_; try clear zq2; exact ⟨q1, o, (hs.2 a (by rintro rfl; exact nM z)).trans e, nf⟩
  · refine ex1_1 (m.cells x c hc) fun v e => ?_; exact ⟨v, (hs.2 c (dead _ _ hc)).trans e⟩
  · refine ex1_2 hr.vars fun own q1 q2 => ?_
    refine ⟨own, fun y => ?_, q2⟩
    by_cases hu : ρ.get y = .unk
    · have := q1 y; rw [hu] at this ⊢; exact this
    · refine ex1_2 ((q1 y).toV hu) fun u l' q => ?_
      refine SlotV.ok (look _ _ l') ?_
      have nb : ∀ a, own y = some a → a ≠ L := fun a e z => by
        rw [e] at q; exact nM (z ▸ q.own_live.2.1)
      revert q
      generalize own y = oy at nb
      generalize ρ.get y = sy
      intro q
      have wk : ∀ {u d}, Rd C h (fun a => X a ∨ a = L) u d → Rd C h' X u d := fun r => (r.keepS ks (fun b z => .inr z) T).anti fun b o e z => .inl z
      cases sy with
      | unk => exact q
      | val d => exact ⟨q.1, wk q.2⟩
      | frz d => exact ⟨q.1, wk q.2⟩
      | ext d => exact ⟨q.1, wk q.2⟩
      | lst l => refine ex3_6 q fun b n vs r1 r2 r3 r4 r5 r6 => ?_; try clear q; exact ⟨b, n, vs, r1, r2, (hs.2 b (nb b r1)).trans r3, r4, (r5.keepS ks (fun b z => .inr z) T).anti fun b o e z => .inl z, r6⟩
      | dct l => refine ex3_6 q fun b n vs r1 r2 r3 r4 r5 r6 => ?_; try clear q; exact ⟨b, n, vs, r1, r2, (hs.2 b (nb b r1)).trans r3, r4, (RdE.keepS ks (fun b z => .inr z) T r5).anti fun b o e z => .inl z, r6⟩
      | wl l =>
        refine ex2_4 q fun b pq r1 r2 zq3 r4 => ?_; try clear q; obtain ⟨dx, es, n, j, vs, n1, n2, e1, e2, e3, e4, z, r⟩ := zq3
        exact ⟨b, pq, r1, r2, ⟨dx, es, n, j, vs, fun z => n1 (.inl z), fun z => n2 (.inl z), (hs.2 b fun z => n1 (.inr z)).trans e1, (hs.2 dx fun z => n2 (.inr z)).trans e2, e3, (hs.2 pq (nb pq r1)).trans e4, z, (RdW.keepS ks (fun b z => .inr z) T r).anti fun b o e z => .inl z⟩, r4⟩

theorem H1_asgcomp {x : Str} {p1 pos spos : Pos} {elt t iter : Expr} {ifs : List Expr} {scope : Scope} {ds : List D} {Q : Fl → Rho → Prop} (p : D → Bool) (f : D → D) (hit : Eit C n sc ρ iter t ds) (hok : compOk sc.scope.names scope.names ρ = true) (hkind : scope.kind = .function)
    (turn : ∀ d ∈ ds, ∃ ρ₁, Asg C n (scIn sc scope) (closRho ρ scope.names []) t d ρ₁ ∧ Wk C ρ₁ (closRho ρ scope.names []) ∧ Tst C n (scIn sc scope) ρ₁ ifs (p d) ∧ (p d = true → Ev C n (scIn sc scope) ρ₁ elt (f d)))
    (hz : ds.length ≤ BIG) (hn : n.h = false) (q : Q .next ((x, .val (.list ((ds.filter p).map f))) :: ρ)) (hx : sc.scope.names.lookup x = some .local := by rfl) (hf : (ρ.get x).capt = false := by rfl)
    (hsw : ∀ env : Env, env.scope.kind = .function → env.kindOf x = some .local → swapsWith (.ListComp elt [⟨t, iter, ifs, 0⟩] scope pos) (some (.Name x p1)) spos.line env = pure true)
    (hs : ∀ env x, foldedSetIterable iter env x = pure x := by intro _ _; rfl) : H1 C n sc ρ (.Assign [.Name x p1] (.ListComp elt [⟨t, iter, ifs, 0⟩] scope pos) spos) Q := fun A env X M s S en m tp => by
  rw [exec_Assign_Name_used _ _ _ _ (hsw env m.kind (names_loc en hx))]
  refine wpAny_bind (wpAny_standAt (wpAny_bind ?_))
  show wpAny C.M A (do let _ ← comprehension (.ListComp elt [⟨t, iter, ifs, 0⟩] scope pos) scope env _ (newList []) false (eval iter env) (some (assign (.Name x p1) env))) _ _ s
  refine wpAny_bind ?_
  refine comp_core hn (use := some (assign (.Name x p1) env)) S en m hit hok hkind turn hz (hs env) fun s' Z L v n' hZ hL zq14 => ex1_1 zq14 fun mm hn zq15 => ex1_2 zq15 fun a hv hZa r => ?_
  have m' := m.nx n' S.ok
  have hXL : ¬ X L := fun z => by refine ex1_1 (m.live L z) fun o e => ?_; exact no_some (hZ L hL) e
  have hL' : ∃ o, s'.heap.get? L = some o := let ⟨o, _, _, e, _⟩ := hn; ⟨o, e⟩
  have mL : Mod C env ρ (fun b => X b ∨ b = L) M s'.heap := m.hide S.ok.t n'.k n'.ok.t fun b z => by subst z; exact ⟨hZ _ hL, hL'⟩
  have rL : Rd C s'.heap (fun b => X b ∨ b = L) v (.list ((ds.filter p).map f)) := r.anti fun b o e z => z.imp id fun w => by subst w; exact hL
  have nML : ¬ M L := fun z => hXL (m.mx L z)
  show wpAny C.M A (assign (.Name x p1) env v) _ _ s'
  refine wpAny_assign_Name (wpAny_put (N := fun _ => False) (X' := fun b => X b ∨ b = L) (M' := M) (oa := none) (sl := .val (.list ((ds.filter p).map f))) n'.ok n'.ok mL (fun _ _ => id) (.inl (names_loc en hx)) (by simp) (by simp) (fun _ z => z.elim) hf ⟨rfl, rL⟩ (by simp) rfl fun s2 o2 m2 k2 => ?_)
  have hn2 : s2.heap.Ns L mm := Ns_kq k2 n'.ok.t nML hn
  refine ⟨mm, hn2, fun h' hs' => wpAny_pure (wpAny_pure ⟨.next, _, X, M, q, trivial, ?_⟩)⟩
  have hcd : ∀ y c, env.cells.lookup y = some c → c ≠ L := fun y c hc z => by
    refine ex1_1 (m.cells y c hc) fun w e => ?_; rw [z, hZ L hL] at e; cases e
  have m3 : Mod C env ((x, .val (.list ((ds.filter p).map f))) :: ρ) X M s2.heap := by
    refine { m2 with mx := m.mx, live := fun b z => m2.live b (.inl z), cellX := fun y c d hc hg z => m2.cellX y c d hc hg (.inl z), vars := ?_ }
    refine ex1_2 m2.vars fun own q1 q2 => ?_
    refine ⟨own, fun y => ?_, q2⟩
    by_cases hu : Rho.get ((x, .val (.list ((ds.filter p).map f))) :: ρ) y = .unk
    · have := q1 y; rw [hu] at this ⊢; exact this
    · refine ex1_2 ((q1 y).toV hu) fun u l' q => ?_
      exact SlotV.ok l' (q.anti (fun _ _ _ z => .inl z) fun _ => id)
  have m4 := m3.lose hXL hcd o2.t m2 hn2 hs'
  have nx2 : Nx C s2 s2 := .refl o2
  -- what stands since s
  have ksd : ∀ a o, s.heap.get? a = some o → h'.get? a = s2.heap.get? a := fun a o e => hs'.2 a (by rintro rfl; exact no_some (hZ _ hL) e)
  have k02 : Kq C M s.heap s2.heap := (Kq.of_kp n'.k).trans k2
  have d1 : C.h₁.get? L = none := S.ok.k.dead S.ok.t (hZ L hL)
  have ks : Ks C (fun b => b = L) s2.heap h' := Ks.one (fun b hb o e => (hs'.2 b hb).trans e) hn2
  have k0 : Kq C M s.heap h' := ⟨fun a o nm t e => let ⟨sl, e1, c1⟩ := k02.same a o nm t e; ⟨sl, (ksd a o e).trans e1, c1⟩, fun a o e nf => let ⟨o', e1, c1⟩ := k02.kind a o e nf; ⟨o', (ksd a o e).trans e1, c1⟩, fun c q x t => ks.code c q (k02.code c q x t) t⟩
  refine ⟨m4, k0, ⟨⟨fun a o nm t e => ?_, fun a o e nf => ?_, fun c q x t => ks.code c q (o2.k.code c q x t) t⟩, TabOK.by (K := fun _ => False) o2.t ks.code fun P hP o e => (hs'.2 P (by rintro rfl; refine ex1_1 (C.tabIn P hP) fun _ e' => ?_; exact no_some d1 e')).trans e, o2.g, o2.o⟩, fun _ z _ => z, fun _ z => .inl z, fun _ z => .inl z⟩
  · refine ex1_2 (o2.k.same a o nm t e) fun sl e1 c1 => ?_
    exact ⟨sl, (hs'.2 a (by rintro rfl; exact no_some d1 e)).trans e1, c1⟩
  · refine ex1_2 (o2.k.kind a o e nf) fun o' e1 c1 => ?_
    exact ⟨o', (hs'.2 a (by rintro rfl; exact no_some d1 e)).trans e1, c1⟩
end
end Mine
namespace Mine

section
variable {C : Cx} {n : Lv} {sc : Sc} {ρ ρ' : Rho} {env : Env} {X M X' M' fp : Addr → Prop} {s₀ s s' : Shared} {h h' h₂ : Heap} {x : Str} {A : Around} {E : Value → Shared → Prop}

theorem Ok.nolim (o : Ok C s) : s.heap.NoLimit := by
  refine ex1_2 C.nolim fun mc q e => ?_
  exact ⟨mc, o.glob q (by decide), e⟩

theorem len_succ {α : Type} {k : Nat} {l : List α} (h : l.length = k + 1) : ∃ a t, l = a :: t ∧ t.length = k := by
  cases l with
  | nil => cases h
  | cons a t => exact ⟨a, t, rfl, Nat.succ.inj h⟩
theorem len1 {α : Type} {l : List α} (h : l.length = 1) : ∃ a, l = [a] := by
  refine ex2_2 (len_succ h) fun a t e h2 => ?_
  exact ⟨a, by rw [e, List.length_eq_zero_iff.mp h2]⟩
theorem len2 {α : Type} {l : List α} (h : l.length = 2) : ∃ a b, l = [a, b] := by
  refine ex2_2 (len_succ h) fun a t e h2 => ?_
  refine ex1_1 (len1 h2) fun b zq1 => ?_; subst zq1
  exact ⟨a, b, e⟩
theorem len3 {α : Type} {l : List α} (h : l.length = 3) : ∃ a b c, l = [a, b, c] := by
  refine ex2_2 (len_succ h) fun a t e h2 => ?_
  refine ex2_1 (len2 h2) fun b c zq2 => ?_; subst zq2
  exact ⟨a, b, c, e⟩
theorem len4 {α : Type} {l : List α} (h : l.length = 4) : ∃ a b c d, l = [a, b, c, d] := by
  refine ex2_2 (len_succ h) fun a t e h2 => ?_
  refine ex3_1 (len3 h2) fun b c d zq3 => ?_; subst zq3
  exact ⟨a, b, c, d, e⟩
theorem len5 {α : Type} {l : List α} (h : l.length = 5) : ∃ a b c d e, l = [a, b, c, d, e] := by
  refine ex2_2 (len_succ h) fun a t e h2 => ?_
  refine ex4_1 (len4 h2) fun b c d x zq4 => ?_; subst zq4
  exact ⟨a, b, c, d, x, e⟩

noncomputable def RetQ (d : D) : Fl → Rho → Prop := fun fl _ => fl = .ret d ∨ (fl = .next ∧ d = .none)

theorem call_fn {name qual : Str} {params : Arguments} {body : List Stmt} {scope : Scope} {cl : List (Str × Addr)} {dV kV doc pm ct : Value} {an : Option Addr} {f c : Addr} {args : Args} {binds : List (Str × Value)} {ds : List (Str × D)} {d : D} {cp : Option (Addr × Addr)}
    (S : Sit C n.up A s) (hX : Xl X s.heap) (ho : s.heap.get? f = some { cls := .type "function", data := .func (fnX name qual params body scope cl dV kV doc pm an (.ref c) ct) }) (hcd : s.heap.CodeRec (.ref c) qual)
    (hbind : BindsTo s (fnX name qual params body scope cl dV kV doc pm an (.ref c) ct) args binds) (hr : RdK C s.heap X cl ρ) (hcl : clOk scope.names ρ = true) (hb : RdB C s.heap X binds ds) (hbs : bindsOk scope.names ρ ds = true)
    (hcode : ∀ c' P, cp = some (c', P) → c' = c ∧ c ∉ tabs ∧ P ∈ tabs ∧ CodeHd C.h₁ c P) (hk : scope.kind = .function) (hco : scope.isCoroutine = false) (hgen : scope.isGenerator = false)
    (hbody : Hs C n ⟨scope, qual ++ ".<locals>.", cp⟩ (bindsRho ρ ds) body (RetQ d)) : wpAny C.M A (call (.ref f) args.pos args.kw) (fun v s' => Nx C s s' ∧ Rd C s'.heap X v d) E s := by
  refine wpAny_call (codeAny_call_function (by have := S.dp; have : recursionLimit = 1000 := rfl; lia) ho rfl hco hgen rfl hcd (hbind _ _ _ _ ?_))
  refine wpAny_newEnv S.ok hX hk hr hcl hb hbs fun new s2 o2 m2 k2 dead zq6 => ex1_3 zq6 fun fo e2 c2 nf2 => ⟨o2.nolim, codeAny_func ?_⟩
  generalize henv : newEnv scope s.heap.objs.size mainGlobals (cellsFrom (s.heap.objs.size + 1) scope.names cl) (qual ++ ".<locals>.") (some f) (.ref c) none builtinsNs = env at m2
  have een : EnvIs C ⟨scope, qual ++ ".<locals>.", cp⟩ env := by
    rw [← henv]
    exact ⟨rfl, rfl, fun c' P h => by refine ex0_4 (hcode c' P h) fun zq5 h2 h3 h4 => ?_; subst zq5; exact ⟨rfl, h2, h3, h4⟩⟩
  have dL : C.h₁.get? s.heap.objs.size = none := S.ok.k.dead S.ok.t dead_size
  have S2 : Sit C n (A.deeper env) s2 := by
    refine ⟨S.hd, fun z => (S.hx z).keep k2 S.ok.t fun _ q => q.elim, by have := S.dp; show A.depth + 1 + 10 * n.k ≤ 900; dsimp at this; lia, by have := S.un; show A.units + 3 + 100 * n.k ≤ 9000; dsimp at this; lia, ?_, o2⟩
    refine ex1_2 (S.fr.keep (Kq.of_kp (M := fun _ => False) k2)) fun l hl q => ?_
    refine ⟨env :: l, by show A.frames.map (env :: ·) = _; rw [hl]; rfl, fun env' he => ?_⟩
    rcases List.mem_cons.mp he with rfl | he
    · rw [← henv]; exact ⟨by show scope.kind ≠ _; rw [hk]; simp, _, fo, rfl, dL, e2, c2, nf2⟩
    · exact q env' he
  have tp : Top (A.deeper env) env := by
    refine ex1_2 S.fr fun l hl _ => ?_
    refine ⟨l, s.heap.objs.size, by show A.frames.map (env :: ·) = _; rw [hl]; rfl, by rw [← henv]; rfl⟩
  refine wp_false (hbody _ env _ _ s2 S2 een m2 tp) fun fl s3 ⟨fl', ρ3, X3, M3, q3, r3, p3⟩ => ?_
  have nx : Nx C s s3 := ⟨k2.trans' p3.kq (fun a ob e z => by exact no_some (dead a z) e), p3.ok⟩
  have back : ∀ {v : Value}, Rd C s3.heap X3 v d → Rd C s3.heap X v d := fun r => r.anti fun a ob e z => p3.xx a (.inl z) fun w => by
    refine ex1_1 (hX a z) fun ob' e' => ?_; exact no_some (dead a w) e'
  rcases q3 with rfl | ⟨rfl, hd⟩
  · refine ex1_2 r3.rt fun v e r => ?_
    subst e
    exact ⟨nx, back r⟩
  · subst hd
    obtain rfl := r3.nx
    exact ⟨nx, .none⟩

structure GFn (C : Cx) (f : Addr) (name qual : Str) (params : Arguments) (body : List Stmt) (scope : Scope) (dV : Value) (cp : Option (Addr × Addr)) : Prop where
  glob : C.mg name = some (.ref f)
  code : ∃ c doc pm an ct kV, C.h₁.get? f = some { cls := .type "function", data := .func (fnX name qual params body scope [] dV kV doc pm an (.ref c) ct) } ∧ C.h₁.CodeRec (.ref c) qual ∧ c ∉ tabs ∧ ∀ c' P, cp = some (c', P) → c' = c ∧ P ∈ tabs ∧ CodeHd C.h₁ c P
  kind : scope.kind = .function
  co : scope.isCoroutine = false
  gen : scope.isGenerator = false

theorem Ok.obj (o : Ok C s) {a : Addr} {ob : Obj} (e : C.h₁.get? a = some ob) (nf : NF ob) (c : ob.cls ≠ .none) (cf : ob.cls ≠ .type "frame") : s.heap.get? a = some ob := by
  have nt : a ∉ tabs := fun t => by
    refine ex1_3 (o.k.kind a ob e nf) fun o' e' c' _ => ?_
    refine ex1_2 (o.t a t) fun ps e2 _ => ?_
    obtain rfl := is_some e' e2; exact c c'.symm
  exact o.k.exact id nt e cf

theorem RdB.zip {names : List Str} {vs : List Value} {ds : List D} (r : RdL C h X vs ds) : RdB C h X (names.zip vs) (names.zip ds) :=
  r.ind (P := fun vs ds => ∀ names : List Str, RdB C h X (names.zip vs) (names.zip ds)) (fun names => by rw [List.zip_nil_right, List.zip_nil_right]; exact .nil) (fun a _ q names => by
    cases names with
    | nil => exact .nil
    | cons x names => exact .cons a (q names)) names

theorem CallB_fn {f : Addr} {name qual : Str} {params : Arguments} {body : List Stmt} {scope : Scope} {dV : Value} {cp : Option (Addr × Addr)} {names : List Str} {ds : List D} {d : D} (g : GFn C f name qual params body scope dV cp)
    (hbind : ∀ {kV doc pm ct an c vs}, vs.length = names.length → bindArgs (fnX name qual params body scope [] dV kV doc pm an c ct) ⟨vs, []⟩ = pure (names.zip vs)) (hn : ds.length = names.length) (hbs : bindsOk scope.names [] (names.zip ds) = true)
    (hbody : Hs C n ⟨scope, qual ++ ".<locals>.", cp⟩ (bindsRho [] (names.zip ds)) body (RetQ d)) : CallB C n.up (.ref f) ds d := fun A X s vs S x r => by
  refine ex6_4 g.code fun c doc pm an ct kV e cr nt hc => ?_
  have e' := S.ok.obj e (fun _ z => by cases z) (by simp) (by simp)
  exact call_fn (args := ⟨vs, []⟩) (cl := []) (ρ := []) S x e' (CodeRec.kq cr S.ok.k nt) (.of_eq (hbind (by rw [r.length, hn]))) .nil (by simp [clOk, List.all_eq_true, Rho.get, Slot.isUnk]) (RdB.zip r) hbs (fun c' P h => let ⟨a, b, d⟩ := hc c' P h; ⟨a, nt, b, d⟩) g.kind g.co g.gen hbody

theorem Ev_call {f : Addr} {x : Str} {np pos : Pos} {e : Expr} {rest : List Expr} {ds : List D} {d : D} {name qual : Str} {params : Arguments} {body : List Stmt} {scope : Scope} {dV : Value} {cp : Option (Addr × Addr)}
    (g : GFn C f x qual params body scope dV cp) (he : El C n sc ρ (e :: rest) ds) (hc : CallB C n (.ref f) ds d)
    (hk : sc.scope.names.lookup x = some .globalImplicit := by rfl) (hd : (x == ("__debug__" : Str)) = false := by decide)
    (h1 : ∀ env, starEach (e :: rest) env = (false, eval e env) :: starEach rest env := by intro env; rfl)
    (h3 : ∀ env, eval (.Call (.Name x np) (e :: rest) [] pos) env = (do callWith pos (← eval (.Name x np) env) [] (backTo pos (starEach (e :: rest) env)) (backToKw pos (keywordEach [] env))) := by intro env; rfl) : Ev C n sc ρ (.Call (.Name x np) (e :: rest) [] pos) d := fun A env X M s S en m => by
  refine ex6_4 g.code fun c doc pm an ct kV e0 cr nt hcp => ?_
  refine Call_ (he := h3 env) (Name_function_global m.kind (names_loc en hk) (loadGlobal_global (mg := C.mg) (by rw [m.glob]; exact S.ok.glob C.nsG (by decide)) g.glob ?_) hd)
  refine callWith_def (he := h1 env) (o := { cls := .type "function", data := .func (fnX x qual params body scope [] dV kV doc pm an (.ref c) ct) }) rfl ?_
  exact wp_false (he A env X M s pos S en m) fun vs s1 zq7 => ex0_2 zq7 fun n1 r1 => ⟨n1.ok.obj e0 (fun _ z => by cases z) (by simp) (by simp), wp_false (hc A X s1 vs (S.next n1) (m.nx n1 S.ok).xl r1) fun v s2 zq8 => ex0_2 zq8 fun n2 r2 => ⟨n1.trans n2, r2⟩⟩
end
end Mine
namespace Mine

theorem codeAmong_app {pos : Pos} {a b : Int} {t u : Tok} {c : Value} {l : List Value} (h : TriplesOk l) : codeAmong pos (l ++ [.int a t, .int b u, c]) = (codeAmong pos l).or (if (a == pos.line && b == pos.col) = true then some c else none) := by
  fun_induction TriplesOk l with
  | case1 => simp [codeAmong]
  | case2 _ _ _ _ _ _ ih =>
    simp only [List.cons_append]
    unfold codeAmong
    split
    · rfl
    · exact ih h
  | case3 => exact h.elim

section
variable {C : Cx} {n : Lv} {sc : Sc} {ρ ρ' : Rho} {env : Env} {X M X' M' fp : Addr → Prop} {s₀ s s' : Shared} {h h' h₂ : Heap} {x : Str} {A : Around} {E : Value → Shared → Prop}

theorem grow {P c' : Addr} {ps : Array Value} {pos : Pos} {qual : Str} {fo : Obj} {t : Nat} (o : Ok C s) (hP : P ∈ tabs) (eP : s.heap.get? P = some (tabObj ps)) (ht : TriplesOk ps.toList) (hnf : codeAmong pos ps.toList = none)
    (hext : Heap.ExtBut P s.heap h') (hrec : h'.CodeRec (.ref c') qual) (hq : C.tq P pos.line = qual) (htb : h'.get? P = some (tabObj (ps ++ #[rawInt pos.line, rawInt pos.col, .ref c']))) :
    Nx C s { s with heap := h'.push fo, toks := t } := by
  have ne : ∀ {a : Addr} {ob : Obj}, s.heap.get? a = some ob → a ≠ P → (h'.push fo).get? a = some ob := fun {a ob} e q => push_keeps _ _ _ (hext a ob q e)
  have nf : ∀ a ob, s.heap.get? a = some ob → NF ob → a ≠ P := fun a ob e n z => by subst z; obtain rfl := is_some eP e; exact n _ rfl
  have kc : ∀ c q, s.heap.CodeRec (.ref c) q → c ∉ tabs → (h'.push fo).CodeRec (.ref c) q := fun c q x nt => CodeRec.but x fun ob e => ne e fun z => nt (z ▸ hP)
  have kq : Kp C s.heap (h'.push fo) := ⟨fun a ob _ nt e => ⟨ob.slots, ne e fun z => nt (z ▸ hP), fun _ => rfl⟩, fun a ob e n => ⟨ob, ne e (nf a ob e n), rfl, n⟩, kc⟩
  refine ⟨kq, o.k.trans kq, fun P' hP' => ?_, o.g, o.o⟩
  by_cases z : P' = P
  · subst z
    refine ⟨_, push_keeps _ _ _ htb, ?_, fun pos' cv hc => ?_⟩
    · rw [Array.toList_append]; exact TriplesOk_snoc _ _ _ _ ht
    · rw [Array.toList_append] at hc
      have : codeAmong pos' (ps.toList ++ [rawInt pos.line, rawInt pos.col, Value.ref c']) = some cv := hc
      unfold rawInt at this
      rw [codeAmong_app ht] at this
      cases e1 : codeAmong pos' ps.toList with
      | some cv' =>
        rw [e1] at this; cases this
        refine ex1_3 (o.t P' hP') fun ps' e2 _ q2 => ?_
        rw [eP] at e2; cases e2
        have cr := q2 pos' cv e1
        have cr' := cr
        refine ex4_2 cr fun c _ _ _ e3 _ => ?_; try clear cr
        subst e3
        exact kc c _ cr' (CodeRec.notab o.t cr')
      | none =>
        rw [e1] at this
        simp only [Option.none_or] at this
        split at this
        · rename_i hh
          cases this
          simp only [Bool.and_eq_true, beq_iff_eq] at hh
          have : pos'.line = pos.line := by have := hh.1; lia
          rw [this, hq]
          exact hrec.push _
        · cases this
  · refine ex1_3 (o.t P' hP') fun ps' e2 t2 q2 => ?_
    refine ⟨ps', ne e2 z, t2, fun pos' cv hc => ?_⟩
    have cr := q2 pos' cv hc
    have cr' := cr
    refine ex4_2 cr fun c _ _ _ e3 _ => ?_; try clear cr
    subst e3
    exact kc c _ cr' (CodeRec.notab o.t cr')

noncomputable def closDat (ρ : Rho) : List (Str × NameKind) → List (Str × D) → List (Str × D)
  | [], acc => acc
  | (x, k) :: r, acc => if k == .free then closDat ρ r ((x, (ρ.get x).dat) :: acc) else closDat ρ r acc
noncomputable def Slot.isFrz : Slot → Bool
  | .frz _ => true
  | _ => false
noncomputable def frzOk (outer names : List (Str × NameKind)) (ρ : Rho) : Bool := names.all fun p => p.2 != .free || ((ρ.get p.1).isFrz && isCF (outer.lookup p.1))

theorem closure_frz (m : Mod C env ρ X M h) (en : EnvIs C sc env) {names : List (Str × NameKind)} (hok : frzOk sc.scope.names names ρ = true) :
    (∀ p ∈ names, p.2 = .free → ∃ c, env.cells.lookup p.1 = some c) ∧ ∀ {acc : List (Str × Addr)} {ra : List (Str × D)}, RdC C h X acc ra → RdC C h X (closList (cellAt env) names acc) (closDat ρ names ra) := by
  unfold frzOk at hok
  rw [List.all_eq_true] at hok
  have one : ∀ p ∈ names, p.2 = .free → ∃ c v, env.cells.lookup p.1 = some c ∧ ¬ X c ∧ h.get? c = some (cellObj (some v)) ∧ Rd C h X v (ρ.get p.1).dat := fun p hp hk => by
    have := hok p hp
    rw [hk] at this
    simp at this
    have hd : ∃ d, ρ.get p.1 = .frz d := by
      cases e : ρ.get p.1 <;> rw [e] at this <;> first | exact ⟨_, rfl⟩ | exact Bool.noConfusion this.1
    refine ex1_1 hd fun d hd => ?_
    refine ex1_2 (look_of m (.inr (.inl hd))) fun v l r => ?_
    refine ex1_2 (l.cell (by rw [names_loc en rfl]; exact this.2)) fun c e1 e2 => ?_
    exact ⟨c, v, e1, m.cellX _ c d e1 hd, e2, by rw [hd]; exact r⟩
  refine ⟨fun p hp hk => let ⟨c, v, e, _⟩ := one p hp hk; ⟨c, e⟩, ?_⟩
  clear hok
  induction names with
  | nil => intro acc ra r; exact r
  | cons p r ih =>
    intro acc ra rd
    obtain ⟨x, k⟩ := p
    unfold closList closDat
    by_cases hk : (k == NameKind.free) = true
    · rw [if_pos hk, if_pos hk]
      refine ex2_4 (one (x, k) (.head _) (by simpa using hk)) fun c v e1 nx e2 e3 => ?_
      have : cellAt env x = c := by unfold cellAt; dsimp at e1; rw [e1]; rfl
      rw [this]
      exact ih (fun p hp => one p (.tail _ hp)) (.cons nx e2 e3 rd)
    · rw [if_neg hk, if_neg hk]
      exact ih (fun p hp => one p (.tail _ hp)) rd

noncomputable def extRho (fvs : List (Str × D)) : Rho := fvs.map fun p => (p.1, .ext p.2)
theorem RdC.toK {cl : List (Str × Addr)} {fvs : List (Str × D)} (r : RdC C h X cl fvs) : RdK C h X cl (extRho fvs) := r.ind (P := fun cl fvs => RdK C h X cl (extRho fvs)) .nil fun _ e r _ q => .cons e r q

theorem CodeHd.ok {c P : Addr} (o : Ok C s) (q : CodeHd C.h₁ c P) (nt : c ∉ tabs) : CodeHd s.heap c P := by
  obtain ⟨ob, vs, file, tf, flags, tg, inF, text, tt, e, cl, r⟩ := q
  obtain ⟨sl, e', _⟩ := o.k.same c ob id nt e
  exact ⟨_, vs, file, tf, flags, tg, inF, text, tt, e', cl, r⟩
theorem Ok.bmain (o : Ok C s) {P : Addr} (hP : P ∈ tabs) : s.heap.BuiltinsAt C.mg P := by
  refine ex2_8 C.bm fun bm ob b1 b2 b3 b4 b5 b6 b7 b8 => ?_
  exact ⟨bm, ob, b1, b2, b3, fun z => b4 (z ▸ hP), o.obj b5 (fun vs z => by rw [b8] at z; cases z) (by rw [b6]; simp) (by rw [b6]; simp), b6, b7, b8⟩

theorem Ev_lam {params : Arguments} {body : Expr} {scope : Scope} {pos : Pos} {c P : Addr} (hcp : sc.cp = some (c, P)) (hq : C.tq P pos.line = sc.qual ++ "<lambda>") (hok : frzOk sc.scope.names scope.names ρ = true) (hdef : ∀ env, defaultsOf params env = ([], []) := by intro env; rfl) :
    Ev C n sc ρ (.Lambda params body scope pos) (.lam (sc.qual ++ "<lambda>") params body scope (closDat ρ scope.names [])) := fun A env X M s S en m => by
  refine ex0_2 (closure_frz m en hok) fun hfree hcl => ?_
  refine ex0_4 (en.2.2 c P hcp) fun e1 nt hP hd => ?_
  refine ex1_3 (S.ok.t P hP) fun ps eP ht hc => ?_
  have rc := hcl (acc := []) (ra := []) .nil
  refine kla_eval (hdef env) ?_
  have eqq : env.qual = sc.qual := en.2.1
  rw [eqq]
  cases hf : codeAmong pos ps.toList with
  | none =>
    refine kla_makeFunction (mg := C.mg) (closureFor_eq hfree) m.glob (S.ok.glob C.nsG (by decide)) e1 (CodeHd.ok S.ok hd nt) eP ht hf (fun z => by rw [← z] at hP; exact absurd hP (by decide)) (S.ok.bmain hP) fun c' ctv h' tk hext hge hlt hrec htb => ?_
    have nx : Nx C s { s with heap := h'.push (kla_obj "<lambda>" (sc.qual ++ "<lambda>") params body scope (closList (cellAt env) scope.names []) ((C.mg "__name__").getD .none) c' ctv), toks := tk } := grow S.ok hP eP ht hf hext hrec hq htb
    refine ⟨nx, .lam (fun z => ?_) (Heap.get?_push_size _ rfl) (hrec.push _) (RdC.keep nx.k (fun _ z => z.elim) S.ok.t rc)⟩
    refine ex1_1 (m.live _ z) fun ob e => ?_
    have := Heap.lt_size e
    exact absurd (Nat.lt_of_le_of_lt hge hlt) (Nat.not_lt.mpr (Nat.le_of_lt this))
  | some cv =>
    have cr := hc pos cv hf
    rw [hq] at cr
    have cr' := cr
    refine ex4_2 cr fun c' _ _ _ e3 _ => ?_; try clear cr
    subst e3
    refine kla_makeFunctionHit (mg := C.mg) (closureFor_eq hfree) m.glob (S.ok.glob C.nsG (by decide)) e1 (CodeHd.ok S.ok hd nt) eP ht hf (S.ok.bmain hP) fun ctv h' tk hk hsz => ?_
    have nx : Nx C s { s with heap := h'.push { cls := .type "function", data := .func (kla_fn "<lambda>" (sc.qual ++ "<lambda>") params body scope (closList (cellAt env) scope.names []) ((C.mg "__name__").getD .none) (.ref c') ctv) }, toks := tk } := Nx.keeps S.ok fun b ob e => push_keeps _ _ _ (hk b ob e)
    refine ⟨nx, .lam (fun z => ?_) (Heap.get?_push_size _ rfl) (nx.k.code c' _ cr' (CodeRec.notab S.ok.t cr')) (RdC.keep nx.k (fun _ z => z.elim) S.ok.t rc)⟩
    refine ex1_1 (m.live _ z) fun ob e => ?_
    exact absurd (Heap.lt_size e) (Nat.not_lt.mpr hsz)

theorem H1_def {name : Str} {params : Arguments} {body : List Stmt} {scope : Scope} {pos : Pos} {c P : Addr} {Q : Fl → Rho → Prop} (hcp : sc.cp = some (c, P)) (hq : C.tq P pos.line = sc.qual ++ name) (hok : frzOk sc.scope.names scope.names ρ = true)
    (q : Q .next ((name, .val (.fdef (sc.qual ++ name) params body scope (closDat ρ scope.names []))) :: ρ)) (hk : isLoc (sc.scope.names.lookup name) = true := by rfl) (hf : (ρ.get name).capt = false := by rfl)
    (hd0 : params.defaults = [] := by rfl) (hk0 : params.kw_defaults = [] := by rfl) (ha : ∀ env, annTrees params none env = [] := by intro env; rfl) : H1 C n sc ρ (.FunctionDef name params body [] none [] scope none name pos) Q := fun A env X M s S en m tp => by
  refine ex0_2 (closure_frz m en hok) fun hfree hcl => ?_
  refine ex0_4 (en.2.2 c P hcp) fun e1 nt hP hd => ?_
  refine ex1_3 (S.ok.t P hP) fun ps eP ht hc => ?_
  have rc := hcl (acc := []) (ra := []) .nil
  refine nestDef_K hd0 hk0 (ha env) ?_
  have eqq : qualnameIn env name name = sc.qual ++ name := by
    unfold qualnameIn
    have : (env.kindOf name == some NameKind.globalExplicit) = false := by
      rcases kind_or en hk with e | e <;> rw [e] <;> rfl
    rw [this, en.2.1]; rfl
  rw [eqq]
  have fin : ∀ s1 f, Nx C s s1 → Rd C s1.heap X (.ref f) (.fdef (sc.qual ++ name) params body scope (closDat ρ scope.names [])) →
      wpAny C.M A (storeName env name (.ref f)) (fun _ s'' => HtP C env X M s Q .next s'') (fun _ _ => False) s1 := fun s1 f n1 r1 =>
    wpAny_put (N := fun _ => False) (X' := X) (M' := M) (oa := none) (sl := .val _) n1.ok n1.ok (m.nx n1 S.ok) (fun _ _ => id) (kind_or en hk) (by simp) (by simp) (fun _ z => z.elim) hf ⟨rfl, r1⟩ (by simp) rfl fun s' o m' k => ⟨.next, _, X, M, q, trivial, .of m' ((Kq.of_kp n1.k).trans k) o⟩
  cases hf' : codeAmong pos ps.toList with
  | none =>
    refine makeFunction_K (mg := C.mg) (closureFor_eq hfree) m.glob (S.ok.glob C.nsG (by decide)) e1 (CodeHd.ok S.ok hd nt) eP ht hf' (fun z => by rw [← z] at hP; exact absurd hP (by decide)) (S.ok.bmain hP) fun c' ctv doc h' tk hext hge hlt hrec htb => ?_
    have nx : Nx C s { s with heap := h'.push (fnMade name (sc.qual ++ name) params body scope (closList (cellAt env) scope.names []) doc ((C.mg "__name__").getD .none) c' ctv), toks := tk } := grow S.ok hP eP ht hf' hext hrec hq htb
    refine fin _ _ nx (.fdef (fun z => ?_) (Heap.get?_push_size _ rfl) (hrec.push _) (RdC.keep nx.k (fun _ z => z.elim) S.ok.t rc))
    refine ex1_1 (m.live _ z) fun ob e => ?_
    have := Heap.lt_size e
    exact absurd (Nat.lt_of_le_of_lt hge hlt) (Nat.not_lt.mpr (Nat.le_of_lt this))
  | some cv =>
    have cr := hc pos cv hf'
    rw [hq] at cr
    have cr' := cr
    refine ex4_2 cr fun c' _ _ _ e3 _ => ?_; try clear cr
    subst e3
    refine makeFunction_hit (mg := C.mg) (closureFor_eq hfree) m.glob (S.ok.glob C.nsG (by decide)) e1 (CodeHd.ok S.ok hd nt) eP ht hf' (S.ok.bmain hP) fun ctv doc h' tk hk hsz => ?_
    have nx : Nx C s { s with heap := h'.push { cls := .type "function", data := .func (fnX name (sc.qual ++ name) params body scope (closList (cellAt env) scope.names []) .none .none doc ((C.mg "__name__").getD .none) none (.ref c') ctv) }, toks := tk } := Nx.keeps S.ok fun b ob e => push_keeps _ _ _ (hk b ob e)
    refine fin _ _ nx (.fdef (fun z => ?_) (Heap.get?_push_size _ rfl) (nx.k.code c' _ cr' (CodeRec.notab S.ok.t cr')) (RdC.keep nx.k (fun _ z => z.elim) S.ok.t rc))
    refine ex1_1 (m.live _ z) fun ob e => ?_
    exact absurd (Heap.lt_size e) (Nat.not_lt.mpr hsz)
end
end Mine
namespace Mine

section
variable {C : Cx} {n : Lv} {sc : Sc} {ρ ρ' : Rho} {env : Env} {X M X' M' fp : Addr → Prop} {s₀ s s' : Shared} {h h' h₂ : Heap} {x : Str} {A : Around} {E : Value → Shared → Prop}

noncomputable def CallV (C : Cx) (n : Lv) (f : D) (ds : List D) (d : D) : Prop :=
  ∀ A X s v vs, Sit C n A s → Xl X s.heap → Rd C s.heap X v f → RdL C s.heap X vs ds → wpAny C.M A (call v vs) (fun u s' => Nx C s s' ∧ Rd C s'.heap X u d) (fun _ _ => False) s
noncomputable def D.isFn : D → Bool
  | .lam .. | .fdef .. => true
  | _ => false

theorem lam_block {name qual : Str} {params : Arguments} {body : Expr} {scope : Scope} {cl : List (Str × Addr)} {pm ct : Value} {f c : Addr} {args : Args} {binds : List (Str × Value)} {ds : List (Str × D)} {Q : Value → Shared → Prop}
    (S : Sit C n.up A s) (hX : Xl X s.heap) (ho : s.heap.get? f = some { cls := .type "function", data := .func (kla_fn name qual params body scope cl pm (.ref c) ct) }) (hcd : s.heap.CodeRec (.ref c) qual)
    (hbind : bindArgs (kla_fn name qual params body scope cl pm (.ref c) ct) args = pure binds) (hr : RdK C s.heap X cl ρ) (hcl : clOk scope.names ρ = true) (hb : RdB C s.heap X binds ds) (hbs : bindsOk scope.names ρ ds = true)
    (hk : scope.kind = .function) (hco : scope.isCoroutine = false) (hgen : scope.isGenerator = false)
    (h : ∀ env X2 M2 s2, Sit C n (A.deeper env) s2 → EnvIs C ⟨scope, qual ++ ".<locals>.", none⟩ env → Mod C env (bindsRho ρ ds) X2 M2 s2.heap → Top (A.deeper env) env → (∀ a, X a → X2 a) → Kp C s.heap s2.heap →
      wpAny C.M (A.deeper env) (eval body env) Q (fun e s' => wpAny C.M (A.deeper env) (leaving env e) (fun _ s'' => E e s'') (fun e' s'' => E e' s'') s') s2) :
    wpAny C.M A (call (.ref f) args.pos args.kw) Q E s := by
  refine wpAny_call (kla_callFunE (by have := S.dp; have : recursionLimit = 1000 := rfl; lia) ho rfl hco hgen rfl hcd (BindsTo.of_eq hbind _ _ _ _ ?_))
  refine wpAny_newEnv S.ok hX hk hr hcl hb hbs fun new s2 o2 m2 k2 dead zq1 => ex1_3 zq1 fun fo e2 c2 nf2 => ⟨o2.nolim, kla_codeExpr ?_⟩
  generalize henv : newEnv scope s.heap.objs.size mainGlobals (cellsFrom (s.heap.objs.size + 1) scope.names cl) (qual ++ ".<locals>.") (some f) (.ref c) none builtinsNs = env at m2
  have een : EnvIs C ⟨scope, qual ++ ".<locals>.", none⟩ env := by
    rw [← henv]; exact ⟨rfl, rfl, fun c' P h => by cases h⟩
  have dL : C.h₁.get? s.heap.objs.size = none := S.ok.k.dead S.ok.t dead_size
  have S2 : Sit C n (A.deeper env) s2 := by
    refine ⟨S.hd, fun z => (S.hx z).keep k2 S.ok.t fun _ q => q.elim, by have := S.dp; show A.depth + 1 + 10 * n.k ≤ 900; dsimp at this; lia, by have := S.un; show A.units + 3 + 100 * n.k ≤ 9000; dsimp at this; lia, ?_, o2⟩
    refine ex1_2 (S.fr.keep (Kq.of_kp (M := fun _ => False) k2)) fun l hl q => ?_
    refine ⟨env :: l, by show A.frames.map (env :: ·) = _; rw [hl]; rfl, fun env' he => ?_⟩
    rcases List.mem_cons.mp he with rfl | he
    · rw [← henv]; exact ⟨by show scope.kind ≠ _; rw [hk]; simp, _, fo, rfl, dL, e2, c2, nf2⟩
    · exact q env' he
  have tp : Top (A.deeper env) env := by
    refine ex1_2 S.fr fun l hl _ => ?_
    exact ⟨l, s.heap.objs.size, by show A.frames.map (env :: ·) = _; rw [hl]; rfl, by rw [← henv]; rfl⟩
  exact wpAny_mono (h env _ _ s2 S2 een m2 tp (fun a z => .inl z) k2) (fun v s' q => q) fun e s' q => q

theorem CallV_lam {qual : Str} {params : Arguments} {body : Expr} {scope : Scope} {fvs : List (Str × D)} {names : List Str} {ds : List D} {d : D}
    (hbind : ∀ {name cl pm ct c vs}, vs.length = names.length → bindArgs (kla_fn name qual params body scope cl pm c ct) ⟨vs, []⟩ = pure (names.zip vs)) (hn : ds.length = names.length) (hcl : clOk scope.names (extRho fvs) = true) (hbs : bindsOk scope.names (extRho fvs) (names.zip ds) = true)
    (hk : scope.kind = .function) (hco : scope.isCoroutine = false) (hgen : scope.isGenerator = false)
    (hbody : Ev C n ⟨scope, qual ++ ".<locals>.", none⟩ (bindsRho (extRho fvs) (names.zip ds)) body d) : CallV C n.up (.lam qual params body scope fvs) ds d := fun A X s v vs S x rv r => by
  cases rv.i_lam with
  | mk nX ho hcd rc =>
    refine lam_block (args := ⟨vs, []⟩) S x ho hcd (hbind (by rw [r.length, hn])) rc.toK hcl (RdB.zip r) hbs hk hco hgen fun env X2 M2 s2 S2 en m2 tp hX2 k2 => ?_
    exact wp_false (hbody _ env X2 M2 s2 S2 en m2) fun u s3 zq2 => ex0_2 zq2 fun n3 r3 => ⟨⟨k2.trans n3.k, n3.ok⟩, r3.anti fun a o e z => hX2 a z⟩

theorem CallV_fdef {qual : Str} {params : Arguments} {body : List Stmt} {scope : Scope} {fvs : List (Str × D)} {names : List Str} {ds : List D} {d : D}
    (hbind : ∀ {name cl doc pm ct c vs}, vs.length = names.length → bindArgs (fnX name qual params body scope cl .none .none doc pm none c ct) ⟨vs, []⟩ = pure (names.zip vs)) (hn : ds.length = names.length) (hcl : clOk scope.names (extRho fvs) = true) (hbs : bindsOk scope.names (extRho fvs) (names.zip ds) = true)
    (hk : scope.kind = .function) (hco : scope.isCoroutine = false) (hgen : scope.isGenerator = false)
    (hbody : Hs C n ⟨scope, qual ++ ".<locals>.", none⟩ (bindsRho (extRho fvs) (names.zip ds)) body (RetQ d)) : CallV C n.up (.fdef qual params body scope fvs) ds d := fun A X s v vs S x rv r => by
  cases rv.i_fdef with
  | mk nX ho hcd rc =>
    exact call_fn (args := ⟨vs, []⟩) (cp := none) S x ho hcd (.of_eq (hbind (by rw [r.length, hn]))) rc.toK hcl (RdB.zip r) hbs (fun c' P h => by cases h) hk hco hgen hbody

theorem Rd.fn {v : Value} {d : D} (r : Rd C h X v d) (hd : d.isFn = true) : ∃ (a : Addr) (o : Obj) (fd : FuncData), v = .ref a ∧ h.get? a = some o ∧ o.data = .func fd ∧ o.cls = .type "function" := by
  cases d with
  | lam => cases r.i_lam with | mk _ e _ _ => exact ⟨_, _, _, rfl, e, rfl, rfl⟩
  | fdef => cases r.i_fdef with | mk _ e _ _ => exact ⟨_, _, _, rfl, e, rfl, rfl⟩
  | _ => cases hd
theorem Ev_callv {x : Str} {np pos : Pos} {e : Expr} {rest : List Expr} {ds : List D} {f d : D} (hf : Ev C n sc ρ (.Name x np) f) (hfn : f.isFn = true) (he : El C n sc ρ (e :: rest) ds) (hc : CallV C n f ds d)
    (h1 : ∀ env, starEach (e :: rest) env = (false, eval e env) :: starEach rest env := by intro env; rfl)
    (h3 : ∀ env, eval (.Call (.Name x np) (e :: rest) [] pos) env = (do callWith pos (← eval (.Name x np) env) [] (backTo pos (starEach (e :: rest) env)) (backToKw pos (keywordEach [] env))) := by intro env; rfl) : Ev C n sc ρ (.Call (.Name x np) (e :: rest) [] pos) d := fun A env X M s S en m => by
  refine Call_ (he := h3 env) (wp_false (hf A env X M s S en m) fun fv s0 zq3 => ex0_2 zq3 fun n0 rf => ?_)
  have m0 := m.nx n0 S.ok
  have fin : ∀ {a : Addr} {o : Obj} {fd : FuncData}, fv = .ref a → s0.heap.get? a = some o → o.data = .func fd → o.cls = .type "function" → wpAny C.M A (callWith pos fv [] (backTo pos (starEach (e :: rest) env)) []) (fun v s' => Nx C s s' ∧ Rd C s'.heap X v d) (fun _ _ => False) s0 := fun {a o fd} ev ho hd hcl => by
    subst ev
    refine callWith_def (he := h1 env) (o := o) hd ?_
    exact wp_false (he A env X M s0 pos (S.next n0) en m0) fun vs s1 zq4 => ex0_2 zq4 fun n1 r1 => ⟨n1.k.exact id (n0.ok.t.notab ho (by rw [hcl]; simp)) ho (by rw [hcl]; simp), wp_false (hc A X s1 _ vs ((S.next n0).next n1) (m0.nx n1 n0.ok).xl (rf.nx n1 n0.ok) r1) fun v s2 zq5 => ex0_2 zq5 fun n2 r2 => ⟨(n0.trans n1).trans n2, r2⟩⟩
  exact ex3_4 (rf.fn hfn) fun _ _ _ ev ho hd hc => fin ev ho hd hc
end
end Mine
namespace Mine

noncomputable def ltB (b c : Array UInt8) : Bool := Builtin.Bytes.holds "__lt__" (Builtin.Bytes.order b.toList c.toList)

theorem gives_bytes_lt (b c : Array UInt8) (t u : Tok) : Gives (Builtin.«bytes.__lt__» ⟨[.bytes b t, .bytes c u], []⟩) (.val (.bool (ltB b c))) := by
  refine .of_wp fun M A E s Q hq => ?_
  show wpAny M A (isInstance (.bytes c u) (.type "bytes") >>= fun r => _) _ E s
  refine wpAny_bind (wpAny_isInstance (typeIs_bytes s c u) F.sub_bytes_bytes ?_)
  exact wpAny_pure ⟨_, rfl, hq⟩

section
variable {prog : Program} {w : World} {A : Around} {E : Value → Shared → Prop} {s : Shared}
theorem lt_bytes {b c : Array UInt8} {t u : Tok} {Q : Value → Shared → Prop} (h : Q (.bool (ltB b c)) s) : wpAny (model prog w) A (richCompare .Lt (.bytes b t) (.bytes c u)) Q E s :=
  richCompare_gives (typeIs_bytes s b t) (typeIs_bytes s c u) slot_bytes_lt entry_bytes_lt (args_bytes_lt _ _) (gives_bytes_lt b c t u) (fun e => nomatch e) h

noncomputable def ltI (x y : Int × Array UInt8) : Bool := if x.1 = y.1 then (if x.2 = y.2 then false else ltB x.2 y.2) else decide (x.1 < y.1)

theorem tuple_lt2 (l b : Addr) (i j : Int) (p q : Array UInt8) (t u t' u' : Tok) (n n2 : Nat) :
    Meets (Builtin.«tuple.__lt__» ⟨[.ref l, .ref b], []⟩)
      (fun A R s => s.heap.get? l = some (seqO "tuple" [.int i t, .bytes p u] n) ∧ s.heap.get? b = some (seqO "tuple" [.int j t', .bytes q u'] n2) ∧ R (.ok (.ret (.bool (ltI (i, p) (j, q))))) s) :=
  .of_wp fun prog w A R s h => by
    obtain ⟨hp, g, d, tk, os⟩ := s; refine ex0_3 h fun hl hb h => ?_
    have f2 := AutoSeq1.sub_tuple_tuple
    have key : ∀ (x y : Value) (e : Bool) (lt : Bool) (R' : ForInStep (Option Fin × Unit) → Shared → Prop), SeqAt.EqAt A.in1 ⟨hp, g, d, tk, os⟩ x y e → (∀ Q' E', Q' (.bool lt) ⟨hp, g, d, tk, os⟩ → wpAny (model prog w) A.in1 (richCompare .Lt x y) Q' E' ⟨hp, g, d, tk, os⟩) →
        (e = true → R' (.yield (none, ())) ⟨hp, g, d, tk, os⟩) → (e = false → R' (.done (some (.done (.ret (.bool lt))), ())) ⟨hp, g, d, tk, os⟩) →
        wpAny (model prog w) A.in1 (do
          let r ← eqBool x y
          if (!r) = true then
            (do rule "tuple.compare.by-the-first-pair-that-differs"
                let c ← richCompare .Lt x y
                let c ← ret c
                pure (ForInStep.done (some c, ())))
          else pure (ForInStep.yield (none, ()))) R' (fun e s' => R (.error e) s') ⟨hp, g, d, tk, os⟩ := by
      intro x y e lt R' he hl h1 h2
      refine wpAny_bind (he prog w _ _ ?_)
      cases e with
      | true => exact wpAny_pure (h1 rfl)
      | false => exact wpAny_bind (wpAny_rule (wpAny_bind (hl _ _ (wpAny_bind (wpAny_pure (wpAny_pure (h2 rfl)))))))
    wp_walk using wpAny_loadPart' hl, wpAny_loadPart' hb, wpAny_forIn_list _ (fun rest b s' => b.1 = none ∧ s' = ⟨hp, g, d, tk, os⟩ ∧
      (rest = [(Value.int i t, Value.int j t'), (Value.bytes p u, Value.bytes q u')] ∨ (i = j ∧ rest = [(Value.bytes p u, Value.bytes q u')]) ∨ (i = j ∧ p = q ∧ rest = []))) _
    case turn =>
      intro zi1 rest b s' zi2; obtain ⟨y, x⟩ := zi1; refine ex0_3 zi2 fun hb' zq1 hr => ?_; try clear zi2; subst zq1
      rcases hr with hr | ⟨rfl, hr⟩ | ⟨_, _, hr⟩
      · cases hr
        refine key _ _ _ (decide (i < j)) _ (SeqAt.EqAt.int_int i t j t') (fun Q' E' hq => PyProof.Rows.lt_int hq) (fun e => ?_) (fun e => ?_)
        · exact ⟨rfl, rfl, .inr (.inl ⟨by simpa using e, rfl⟩)⟩
        · wp_walk
          refine ⟨_, rfl, ?_⟩
          have : ltI (i, p) (j, q) = decide (i < j) := by unfold ltI; rw [if_neg (by simpa using e)]
          rw [this] at h; exact h
      · cases hr
        refine key _ _ _ (ltB p q) _ (EqAt_bytes p u q u') (fun Q' E' hq => lt_bytes hq) (fun e => ?_) (fun e => ?_)
        · exact ⟨rfl, rfl, .inr (.inr ⟨rfl, by simpa using e, rfl⟩)⟩
        · wp_walk
          refine ⟨_, rfl, ?_⟩
          have : ltI (i, p) (i, q) = ltB p q := by unfold ltI; rw [if_pos rfl, if_neg (by simpa using e)]
          rw [this] at h; exact h
      · cases hr
    case fin =>
      intro zi3 s' zi4; obtain ⟨b1, b2⟩ := zi3; refine ex0_3 zi4 fun hb' zq2 hr => ?_; try clear zi4; subst zq2
      simp only at hb'
      subst hb'
      rcases hr with hr | ⟨_, hr⟩ | ⟨rfl, rfl, _⟩
      · cases hr
      · cases hr
      · wp_walk
        refine ⟨_, rfl, ?_⟩
        have : ltI (i, p) (i, p) = false := by unfold ltI; simp
        rw [this] at h
        exact h
    case h =>
      exact ⟨rfl, rfl, .inl rfl⟩

theorem lt_items {l b : Addr} {i j : Int} {p q : Array UInt8} {t u t' u' : Tok} {n n2 : Nat} {Q : Value → Shared → Prop} (hl : s.heap.get? l = some (seqO "tuple" [.int i t, .bytes p u] n)) (hb : s.heap.get? b = some (seqO "tuple" [.int j t', .bytes q u'] n2)) (hu : A.units < cLine)
    (h : Q (.bool (ltI (i, p) (j, q))) s) : wpAny (model prog w) A (richCompare .Lt (.ref l) (.ref b)) Q E s :=
  richCompare_meets_room (op := .Lt) ⟨_, hl, rfl⟩ ⟨_, hb, rfl⟩ F.slot_tuple_lt F.entry_tuple_lt (F.args_tuple_lt_2 _ _) (tuple_lt2 l b i j p q t u t' u' n n2)
    ⟨hl, hb, show Value.bool (ltI (i, p) (j, q)) ≠ Value.notImplemented ∧ Q (.bool (ltI (i, p) (j, q))) s from ⟨(fun x => nomatch x), h⟩⟩ hu
end
end Mine
set_option maxHeartbeats 2000000
namespace Mine

theorem entry_sift : entryFor table "_heapq.heapify.sift" = some Builtin.«_heapq.heapify.sift» := by first | exact entryFor_of_fast (by kernel_rfl) | exact entryFor_of_tree (by kernel_rfl)
theorem plain_sift : plainId "_heapq.heapify.sift" = true := by decide +kernel
section
variable {prog : Program} {w : World} {A : Around} {E : Value → Shared → Prop} {s : Shared}

theorem sift_up {a : Addr} {vs : List Value} {k pos : Nat} {result : Value} {Q : Fin → Shared → Prop} (ha : s.heap.get? a = some (seqO "list" vs k)) (hp : 0 < pos) {x p : Value} (hx : vs[pos]? = some x) (hy : vs[(pos - 1) / 2]? = some p)
   {lt : Bool} (hz : vs.length ≤ BIG) (h1 : lt = false → Q (.done (.ret result)) s) (h2 : lt = true → ∀ h', h'.get? a = some (seqO "list" ((vs.set ((pos - 1) / 2) x).set pos p) k) → Heap.SameBut a s.heap h' → Q (.again (.builtin "_heapq.heapify.sift" ⟨[.ref a, .bool false, .bool false, rawInt ((pos - 1) / 2 : Nat), rawInt 0, result, rawInt (-1)], []⟩)) { s with heap := h' }) (hlt : ∀ Q' E', Q' (.bool lt) s → wpAny (model prog w) A (richCompare .Lt x p) Q' E' s)
   : wpAny (model prog w) A (Builtin.«_heapq.heapify.sift» ⟨[.ref a, .bool false, .bool false, rawInt pos, rawInt 0, result, rawInt (-1)], []⟩) Q E s := by
  obtain ⟨hp, g, d, tk, os⟩ := s
  have e1 : vs.toArray[((pos : Nat) : Int).toNat]? = some x := by simpa using hx
  have e2 : vs.toArray[(((pos : Nat) : Int).toNat - 1) / 2]? = some p := by simpa using hy
  wp_walk using wpAny_loadPart' ha
  rw [e1]
  wp_walk using wpAny_loadPart' ha
  rw [e2]
  wp_walk using wpAny_loadPart' ha, hlt
  cases lt with
  | false =>
    wp_walk
    exact h1 rfl
  | true =>
    wp_walk using wpAny_loadPart' ha
    rw [e2]
    wp_walk using wpAny_loadPart' ha
    rw [e1]
    have hU : ∀ (i j : Nat) (x y : Value) (Q : Unit → Shared → Prop) (E : Value → Shared → Prop), Q () ⟨hp.update a (Obj.mapSeq fun xs => (xs.setIfInBounds i x).setIfInBounds j y), g, d, tk, os⟩ →
        wpAny (model prog w) A (updateSeq a fun xs => (xs.setIfInBounds i x).setIfInBounds j y) Q E ⟨hp, g, d, tk, os⟩ := fun i j x y Q E h => by
      have := big_line hz
      exact wpAny_updateSeq ha rfl h (by simpa using this) (by simp; lia)
    wp_walk using wpAny_loadPart' ha, hU
    have e3 : ((pos : Nat) : Int).toNat = pos := by simp
    rw [e3]
    have up : (hp.update a (Obj.mapSeq fun xs => (xs.setIfInBounds ((pos - 1) / 2) x).setIfInBounds pos p)).get? a = some (seqO "list" ((vs.set ((pos - 1) / 2) x).set pos p) k) := by
      have := PySem.IsL.update (f := fun xs => (xs.setIfInBounds ((pos - 1) / 2) x).setIfInBounds pos p) ha
      rw [this]; simp [seqO]
    have := h2 rfl _ up (Heap.SameBut.update ..)
    wp_walk
    exact this

theorem sift_up0 {a : Addr} {vs : List Value} {k : Nat} {result : Value} {Q : Fin → Shared → Prop} (ha : s.heap.get? a = some (seqO "list" vs k)) (h : Q (.done (.ret result)) s) :
    wpAny (model prog w) A (Builtin.«_heapq.heapify.sift» ⟨[.ref a, .bool false, .bool false, rawInt (0 : Nat), rawInt 0, result, rawInt (-1)], []⟩) Q E s := by
  obtain ⟨hp, g, d, tk, os⟩ := s
  wp_walk using wpAny_loadPart' ha
  exact h

theorem sift_down_end {a : Addr} {vs : List Value} {k pos : Nat} {result : Value} {Q : Fin → Shared → Prop} (ha : s.heap.get? a = some (seqO "list" vs k)) (hp : ¬ pos < vs.length / 2)
    (h : Q (.again (.builtin "_heapq.heapify.sift" ⟨[.ref a, .bool false, .bool false, rawInt pos, rawInt 0, result, rawInt (-1)], []⟩)) s) :
    wpAny (model prog w) A (Builtin.«_heapq.heapify.sift» ⟨[.ref a, .bool false, .bool true, rawInt pos, rawInt 0, result, rawInt (-1)], []⟩) Q E s := by
  obtain ⟨hp', g, d, tk, os⟩ := s
  have e1 : ¬ ((pos : Nat) : Int).toNat < vs.toArray.size / 2 := by simpa using hp
  wp_walk using wpAny_loadPart' ha
  exact h

theorem sift_down {a : Addr} {vs : List Value} {k pos : Nat} {result : Value} {Q : Fin → Shared → Prop} (ha : s.heap.get? a = some (seqO "list" vs k)) (hp : pos < vs.length / 2) (hz : vs.length ≤ BIG)
    {x l r : Value} (hx : vs[pos]? = some x) (hl : vs[2 * pos + 1]? = some l) (hr : 2 * pos + 2 < vs.length → vs[2 * pos + 2]? = some r) {lt : Bool} (hlt : 2 * pos + 2 < vs.length → ∀ Q' E', Q' (.bool lt) s → wpAny (model prog w) A (richCompare .Lt l r) Q' E' s)
    (h1 : (2 * pos + 2 < vs.length → lt = true) → ∀ h', h'.get? a = some (seqO "list" ((vs.set (2 * pos + 1) x).set pos l) k) → Heap.SameBut a s.heap h' → Q (.again (.builtin "_heapq.heapify.sift" ⟨[.ref a, .bool false, .bool true, rawInt (2 * pos + 1 : Nat), rawInt 0, result, rawInt (-1)], []⟩)) { s with heap := h' })
    (h2 : 2 * pos + 2 < vs.length → lt = false → ∀ h', h'.get? a = some (seqO "list" ((vs.set (2 * pos + 2) x).set pos r) k) → Heap.SameBut a s.heap h' → Q (.again (.builtin "_heapq.heapify.sift" ⟨[.ref a, .bool false, .bool true, rawInt (2 * pos + 2 : Nat), rawInt 0, result, rawInt (-1)], []⟩)) { s with heap := h' }) :
    wpAny (model prog w) A (Builtin.«_heapq.heapify.sift» ⟨[.ref a, .bool false, .bool true, rawInt pos, rawInt 0, result, rawInt (-1)], []⟩) Q E s := by
  obtain ⟨hh, g, d, tk, os⟩ := s
  have e0 : ((pos : Nat) : Int).toNat < vs.toArray.size / 2 := by simpa using hp
  have e3 : ((pos : Nat) : Int).toNat = pos := by simp
  have ex : vs.toArray[((pos : Nat) : Int).toNat]? = some x := by simpa using hx
  have el : vs.toArray[2 * ((pos : Nat) : Int).toNat + 1]? = some l := by simpa using hl
  have hU : ∀ (i j : Nat) (x y : Value) (Q : Unit → Shared → Prop) (E : Value → Shared → Prop), Q () ⟨hh.update a (Obj.mapSeq fun xs => (xs.setIfInBounds i x).setIfInBounds j y), g, d, tk, os⟩ →
      wpAny (model prog w) A (updateSeq a fun xs => (xs.setIfInBounds i x).setIfInBounds j y) Q E ⟨hh, g, d, tk, os⟩ := fun i j x y Q E h => by
    have := big_line hz
    exact wpAny_updateSeq ha rfl h (by simpa using this) (by simp; omega)
  have up : ∀ c v, (hh.update a (Obj.mapSeq fun xs => (xs.setIfInBounds c x).setIfInBounds pos v)).get? a = some (seqO "list" ((vs.set c x).set pos v) k) := fun c v => by
    have := PySem.IsL.update (f := fun xs => (xs.setIfInBounds c x).setIfInBounds pos v) ha
    rw [this]; simp [seqO]
  wp_walk using wpAny_loadPart' ha
  by_cases hc : 2 * pos + 2 < vs.length
  · have er : vs.toArray[2 * ((pos : Nat) : Int).toNat + 1 + 1]? = some r := by simpa using hr hc
    rw [if_pos (by simp; omega)]
    wp_walk using wpAny_loadPart' ha
    rw [el]
    wp_walk using wpAny_loadPart' ha
    rw [er]
    wp_walk using wpAny_loadPart' ha, hlt hc
    cases lt with
    | true =>
      wp_walk using wpAny_loadPart' ha
      rw [el]
      wp_walk using wpAny_loadPart' ha
      rw [ex]
      wp_walk using wpAny_loadPart' ha, hU
      have := h1 (fun _ => rfl) _ (up (2 * pos + 1) l) (Heap.SameBut.update ..)
      rw [e3]
      wp_walk
      exact this
    | false =>
      wp_walk using wpAny_loadPart' ha
      rw [er]
      wp_walk using wpAny_loadPart' ha
      rw [ex]
      wp_walk using wpAny_loadPart' ha, hU
      have := h2 hc rfl _ (up (2 * pos + 2) r) (Heap.SameBut.update ..)
      rw [e3]
      wp_walk
      exact this
  · rw [if_neg (by simp; omega)]
    wp_walk using wpAny_loadPart' ha
    rw [el]
    wp_walk using wpAny_loadPart' ha
    rw [ex]
    wp_walk using wpAny_loadPart' ha, hU
    have := h1 (fun z => absurd z hc) _ (up (2 * pos + 1) l) (Heap.SameBut.update ..)
    rw [e3]
    wp_walk
    exact this
end
end Mine
set_option maxHeartbeats 200000
namespace Mine

noncomputable abbrev Itm := Int × Array UInt8

noncomputable def upL : Nat → List Itm → Nat → List Itm
  | 0, l, _ => l
  | f + 1, l, pos => if pos = 0 then l else match l[pos]?, l[(pos - 1) / 2]? with
    | some x, some p => if ltI x p = true then upL f ((l.set ((pos - 1) / 2) x).set pos p) ((pos - 1) / 2) else l
    | _, _ => l
noncomputable def downL : Nat → List Itm → Nat → List Itm
  | 0, l, _ => l
  | f + 1, l, pos => if pos < l.length / 2 then match l[pos]?, l[2 * pos + 1]? with
      | some x, some y => match l[2 * pos + 2]? with
        | some r => if ltI y r = true then downL f ((l.set (2 * pos + 1) x).set pos y) (2 * pos + 1) else downL f ((l.set (2 * pos + 2) x).set pos r) (2 * pos + 2)
        | none => downL f ((l.set (2 * pos + 1) x).set pos y) (2 * pos + 1)
      | _, _ => l
    else upL (pos + 1) l pos

section
variable {C : Cx} {A : Around} {E : Value → Shared → Prop} {s : Shared} {X : Addr → Prop} {h h' : Heap} {R : Result → Shared → Prop}

theorem RdW.length {vs : List Value} {l : List Itm} (r : RdW C h X vs l) : vs.length = l.length := by
  induction r with
  | nil => rfl
  | cons _ _ _ ih => exact congrArg (· + 1) ih
theorem RdW.get {vs : List Value} {l : List Itm} (r : RdW C h X vs l) : ∀ {i : Nat} {x : Itm}, l[i]? = some x → ∃ v, vs[i]? = some v ∧ RdW C h X [v] [x] := by
  induction r with
  | nil => intro i x e; cases e
  | cons n e _ ih =>
    intro i x e'
    cases i with
    | zero => exact ⟨_, rfl, Option.some.inj e' ▸ .cons n e .nil⟩
    | succ i => exact ih e'
theorem RdW.set {vs : List Value} {l : List Itm} {i : Nat} {v : Value} {x : Itm} (r : RdW C h X vs l) (q : RdW C h X [v] [x]) : RdW C h X (vs.set i v) (l.set i x) := by
  induction r generalizing i with
  | nil => exact .nil
  | cons n e r ih =>
    cases i with
    | zero => exact .consI q.head.1 r
    | succ i => exact .cons n e ih
theorem RdW.append {vs ws : List Value} {l m : List Itm} (r : RdW C h X vs l) (q : RdW C h X ws m) : RdW C h X (vs ++ ws) (l ++ m) := by
  induction r with
  | nil => exact q
  | cons n e _ ih => exact .cons n e ih
theorem lt_rdw {v w : Value} {x y : Itm} (r : RdW C s.heap X [v] [x]) (q : RdW C s.heap X [w] [y]) (hu : A.units < cLine) {Q : Value → Shared → Prop} (hq : Q (.bool (ltI x y)) s) : wpAny C.M A (richCompare .Lt v w) Q E s := by
  refine ex4_3 r.head.1 fun _ _ _ _ zq1 _ e => ?_; subst zq1
  refine ex4_3 q.head.1 fun _ _ _ _ zq2 _ e' => ?_; subst zq2
  exact lt_items e e' hu hq

structure Hp (C : Cx) (X : Addr → Prop) (a : Addr) (k : Nat) (s : Shared) (vs : List Value) (l : List Itm) : Prop where
  ok : Ok C s
  at_ : s.heap.get? a = some (seqO "list" vs k)
  rd : RdW C s.heap X vs l
  big : vs.length ≤ BIG
  xa : X a
  new : C.h₁.get? a = none

theorem Hp.step {a : Addr} {k : Nat} {vs vs' : List Value} {l l' : List Itm} (p : Hp C X a k s vs l) (e : h'.get? a = some (seqO "list" vs' k)) (hs : Heap.SameBut a s.heap h') (hz : vs'.length ≤ BIG)
    (r : RdW C s.heap X vs' l') : Hp C X a k { s with heap := h' } vs' l' := by
  have kb : ∀ o, s.heap.get? a = some o → NF o → ∃ o', h'.get? a = some o' ∧ o'.cls = o.cls ∧ NF o' := fun o e' _ => by
    obtain rfl := is_some p.at_ e'; exact ⟨_, e, rfl, fun _ z => by cases z⟩
  have nf : ∀ o, s.heap.get? a = some o → NF o := fun o e' => by obtain rfl := is_some p.at_ e'; exact fun _ z => by cases z
  have kq : Kq C (fun b => b = a) s.heap h' := Kq.one (fun c hc o e => (hs.2 c hc).trans e) kb nf rfl
  exact ⟨p.ok.touch (t := s.toks) hs kb p.new nf, e, r.keep kq (fun b z => z ▸ p.xa) p.ok.t, hz, p.xa, p.new⟩

theorem up_code {a : Addr} {k : Nat} {result : Value} (hu : A.units + 1 < cLine) : ∀ (f pos : Nat) (s : Shared) (vs : List Value) (l : List Itm), pos < f → pos < vs.length → Hp C X a k s vs l →
    (∀ h' vs', Heap.SameBut a s.heap h' → Hp C X a k { s with heap := h' } vs' (upL f l pos) → vs'.length = vs.length → R (.ok (.ret result)) { s with heap := h' }) →
    codeAny C.M A (.builtin "_heapq.heapify.sift" ⟨[.ref a, .bool false, .bool false, rawInt pos, rawInt 0, result, rawInt (-1)], []⟩) R s
  | 0, _, _, _, _, h, _, _, _ => absurd h (Nat.not_lt_zero _)
  | f + 1, pos, s, vs, l, hf, hp, P, hR => by
    refine codeAny_builtin entry_sift ?_
    rw [Around.under_plainId plain_sift _]
    have hl : vs.length = l.length := P.rd.length
    by_cases h0 : pos = 0
    · subst h0
      refine sift_up0 P.at_ ?_
      have := hR s.heap vs (Heap.SameBut.refl ..) (by have := P; unfold upL; simpa using this) rfl
      exact this
    · obtain ⟨x, ex⟩ : ∃ x, l[pos]? = some x := ⟨_, List.getElem?_eq_getElem (by omega)⟩
      obtain ⟨p, ep⟩ : ∃ p, l[(pos - 1) / 2]? = some p := ⟨_, List.getElem?_eq_getElem (by omega)⟩
      refine ex1_2 (P.rd.get ex) fun v ev rv => ?_
      refine ex1_2 (P.rd.get ep) fun w ew rw_ => ?_
      refine sift_up P.at_ (by omega) ev ew P.big (lt := ltI x p) (fun hlt => ?_) (fun hlt h' e' hs => ⟨plainId_quiet plain_sift _, ?_⟩) fun Q' E' hq => lt_rdw rv rw_ hu hq
      · have := hR s.heap vs (Heap.SameBut.refl ..) (by
          have e : upL (f + 1) l pos = l := by
            rw [upL, if_neg h0, ex, ep]; simp [hlt]
          rw [e]; exact P) rfl
        exact this
      · have P2 : Hp C X a k { s with heap := h' } ((vs.set ((pos - 1) / 2) v).set pos w) ((l.set ((pos - 1) / 2) x).set pos p) := P.step e' hs (by simpa using P.big) ((P.rd.set rv).set rw_)
        refine up_code hu f ((pos - 1) / 2) { s with heap := h' } _ _ (by omega) (by simp; omega) P2 fun h2 vs2 hs2 P3 hl2 => ?_
        have e : upL (f + 1) l pos = upL f ((l.set ((pos - 1) / 2) x).set pos p) ((pos - 1) / 2) := by
          rw [upL, if_neg h0, ex, ep]; simp [hlt]
        exact hR h2 vs2 (hs.trans hs2) (by rw [e]; exact P3) (by rw [hl2]; simp)

theorem down_code {a : Addr} {k : Nat} {result : Value} (hu : A.units + 1 < cLine) : ∀ (f pos : Nat) (s : Shared) (vs : List Value) (l : List Itm), vs.length < f + pos → pos < vs.length → Hp C X a k s vs l →
    (∀ h' vs', Heap.SameBut a s.heap h' → Hp C X a k { s with heap := h' } vs' (downL f l pos) → vs'.length = vs.length → R (.ok (.ret result)) { s with heap := h' }) →
    codeAny C.M A (.builtin "_heapq.heapify.sift" ⟨[.ref a, .bool false, .bool true, rawInt pos, rawInt 0, result, rawInt (-1)], []⟩) R s
  | 0, pos, _, vs, _, h, h2, _, _ => by lia
  | f + 1, pos, s, vs, l, hf, hp, P, hR => by
    refine codeAny_builtin entry_sift ?_
    rw [Around.under_plainId plain_sift _]
    have hl : vs.length = l.length := P.rd.length
    by_cases h0 : pos < vs.length / 2
    · obtain ⟨x, ex⟩ : ∃ x, l[pos]? = some x := ⟨_, List.getElem?_eq_getElem (by lia)⟩
      obtain ⟨y, ey⟩ : ∃ y, l[2 * pos + 1]? = some y := ⟨_, List.getElem?_eq_getElem (by lia)⟩
      refine ex1_2 (P.rd.get ex) fun v ev rv => ?_
      refine ex1_2 (P.rd.get ey) fun w ew rw_ => ?_
      by_cases hc : 2 * pos + 2 < vs.length
      · obtain ⟨z, ez⟩ : ∃ z, l[2 * pos + 2]? = some z := ⟨_, List.getElem?_eq_getElem (by lia)⟩
        refine ex1_2 (P.rd.get ez) fun u eu ru => ?_
        refine sift_down P.at_ h0 P.big ev ew (fun _ => eu) (lt := ltI y z) (fun _ Q' E' hq => lt_rdw rw_ ru hu hq) (fun hlt h' e' hs => ⟨plainId_quiet plain_sift _, ?_⟩) (fun _ hlt h' e' hs => ⟨plainId_quiet plain_sift _, ?_⟩)
        · have hlt := hlt hc
          have P2 : Hp C X a k { s with heap := h' } ((vs.set (2 * pos + 1) v).set pos w) ((l.set (2 * pos + 1) x).set pos y) := P.step e' hs (by simpa using P.big) ((P.rd.set rv).set rw_)
          refine down_code hu f (2 * pos + 1) { s with heap := h' } _ _ (by simp; lia) (by simp; lia) P2 fun h2 vs2 hs2 P3 hl2 => ?_
          have e : downL (f + 1) l pos = downL f ((l.set (2 * pos + 1) x).set pos y) (2 * pos + 1) := by
            rw [downL, if_pos (by lia), ex, ey, ez]; simp [hlt]
          exact hR h2 vs2 (hs.trans hs2) (by rw [e]; exact P3) (by rw [hl2]; simp)
        · have P2 : Hp C X a k { s with heap := h' } ((vs.set (2 * pos + 2) v).set pos u) ((l.set (2 * pos + 2) x).set pos z) := P.step e' hs (by simpa using P.big) ((P.rd.set rv).set ru)
          refine down_code hu f (2 * pos + 2) { s with heap := h' } _ _ (by simp; lia) (by simp; lia) P2 fun h2 vs2 hs2 P3 hl2 => ?_
          have e : downL (f + 1) l pos = downL f ((l.set (2 * pos + 2) x).set pos z) (2 * pos + 2) := by
            rw [downL, if_pos (by lia), ex, ey, ez]; simp [hlt]
          exact hR h2 vs2 (hs.trans hs2) (by rw [e]; exact P3) (by rw [hl2]; simp)
      · have ez : l[2 * pos + 2]? = none := List.getElem?_eq_none (by lia)
        refine sift_down P.at_ h0 P.big ev ew (fun z => absurd z hc) (r := v) (lt := true) (fun z => absurd z hc) (fun _ h' e' hs => ⟨plainId_quiet plain_sift _, ?_⟩) (fun z => absurd z hc)
        have P2 : Hp C X a k { s with heap := h' } ((vs.set (2 * pos + 1) v).set pos w) ((l.set (2 * pos + 1) x).set pos y) := P.step e' hs (by simpa using P.big) ((P.rd.set rv).set rw_)
        refine down_code hu f (2 * pos + 1) { s with heap := h' } _ _ (by simp; lia) (by simp; lia) P2 fun h2 vs2 hs2 P3 hl2 => ?_
        have e : downL (f + 1) l pos = downL f ((l.set (2 * pos + 1) x).set pos y) (2 * pos + 1) := by
          rw [downL, if_pos (by lia), ex, ey, ez]
        exact hR h2 vs2 (hs.trans hs2) (by rw [e]; exact P3) (by rw [hl2]; simp)
    · refine sift_down_end P.at_ h0 ⟨plainId_quiet plain_sift _, ?_⟩
      refine up_code hu (pos + 1) pos s vs l (Nat.lt_succ_self _) hp P fun h' vs' hs P2 hl2 => hR h' vs' hs ?_ hl2
      have e : downL (f + 1) l pos = upL (pos + 1) l pos := by rw [downL, if_neg (by lia)]
      rw [e]; exact P2
end
end Mine
set_option maxHeartbeats 2000000
namespace Mine

theorem entry_push : entryFor table "_heapq.heappush" = some Builtin.«_heapq.heappush» := by first | exact entryFor_of_fast (by kernel_rfl) | exact entryFor_of_tree (by kernel_rfl)
theorem plain_push : plainId "_heapq.heappush" = true := by decide +kernel
theorem kind_push : builtinKind "_heapq.heappush" = none := by decide +kernel
theorem args_push (a b : Value) : argsOk "_heapq.heappush" ⟨[a, b], []⟩ := by unfold argsOk; kernel_rfl
theorem entry_pop : entryFor table "_heapq.heappop" = some Builtin.«_heapq.heappop» := by first | exact entryFor_of_fast (by kernel_rfl) | exact entryFor_of_tree (by kernel_rfl)
theorem plain_pop : plainId "_heapq.heappop" = true := by decide +kernel
theorem kind_pop : builtinKind "_heapq.heappop" = none := by decide +kernel
theorem args_pop (a : Value) : argsOk "_heapq.heappop" ⟨[a], []⟩ := by unfold argsOk; kernel_rfl

section
variable {prog : Program} {w : World} {A : Around} {E : Value → Shared → Prop} {s : Shared}

theorem push_body {a : Addr} {vs : List Value} {k : Nat} {item : Value} {Q : Fin → Shared → Prop} (ha : s.heap.get? a = some (seqO "list" vs k)) (hz : vs.length + 1 ≤ BIG)
    (h : ∀ h', h'.get? a = some (seqO "list" (vs ++ [item]) (k + 1)) → Heap.SameBut a s.heap h' → Q (.again (.builtin "_heapq.heapify.sift" ⟨[.ref a, .bool false, .bool false, rawInt vs.length, rawInt 0, .none, rawInt (-1)], []⟩)) { s with heap := h' }) :
    wpAny (model prog w) A (Builtin.«_heapq.heappush» ⟨[.ref a, item], []⟩) Q E s := by
  obtain ⟨hh, g, d, tk, os⟩ := s
  have f2 := F.bm_sub_list
  have hU : ∀ (x : Value) (Q : Unit → Shared → Prop) (E : Value → Shared → Prop), Q () ⟨hh.update a (Obj.mapSeq fun xs => xs.push x), g, d, tk, os⟩ →
      wpAny (model prog w) A (updateSeq a fun xs => xs.push x) Q E ⟨hh, g, d, tk, os⟩ := fun x Q E h => by
    have hB : BIG ≤ sizeLine := by decide
    exact wpAny_updateSeq ha rfl h (by simp; lia) (by simp; lia)
  have up : (hh.update a (Obj.mapSeq fun xs => xs.push item)).get? a = some (seqO "list" (vs ++ [item]) (k + 1)) := by
    have := PySem.IsL.update (f := fun xs => xs.push item) ha
    rw [if_neg (by simp)] at this
    rw [this]; simp [seqO]
  wp_walk using wpAny_loadPart' ha, hU, wpAny_loadPart' up
  have e : (vs ++ [item]).toArray.size - 1 = vs.length := by simp
  rw [e]
  exact h _ up (Heap.SameBut.update ..)

theorem pop_body {a : Addr} {vs : List Value} {k : Nat} {last first : Value} {Q : Fin → Shared → Prop} (ha : s.heap.get? a = some (seqO "list" (vs ++ [last]) k)) (hz : vs.length + 1 ≤ BIG) (hf : (vs ++ [last])[0]? = some first)
    (h1 : vs = [] → ∀ h', h'.get? a = some (seqO "list" [] (k + 1)) → Heap.SameBut a s.heap h' → Q (.done (.ret last)) { s with heap := h' })
    (h2 : vs ≠ [] → ∀ h', h'.get? a = some (seqO "list" (vs.set 0 last) (k + 1)) → Heap.SameBut a s.heap h' → Q (.again (.builtin "_heapq.heapify.sift" ⟨[.ref a, .bool false, .bool true, rawInt (0 : Nat), rawInt 0, first, rawInt (-1)], []⟩)) { s with heap := h' }) :
    wpAny (model prog w) A (Builtin.«_heapq.heappop» ⟨[.ref a], []⟩) Q E s := by
  obtain ⟨hh, g, d, tk, os⟩ := s
  have f2 := F.bm_sub_list
  have hB : BIG ≤ sizeLine := by decide
  have hU : ∀ (Q : Unit → Shared → Prop) (E : Value → Shared → Prop), Q () ⟨hh.update a (Obj.mapSeq fun xs => xs.pop), g, d, tk, os⟩ →
      wpAny (model prog w) A (updateSeq a fun xs => xs.pop) Q E ⟨hh, g, d, tk, os⟩ := fun Q E h => by
    exact wpAny_updateSeq ha rfl h (by simp; lia) (by simp; lia)
  have up : (hh.update a (Obj.mapSeq fun xs => xs.pop)).get? a = some (seqO "list" vs (k + 1)) := by
    have := PySem.IsL.update (f := fun xs => xs.pop) ha
    rw [if_neg (by simp)] at this
    rw [this]; simp [seqO]
  have hU2 : ∀ (Q : Unit → Shared → Prop) (E : Value → Shared → Prop), Q () ⟨(hh.update a (Obj.mapSeq fun xs => xs.pop)).update a (Obj.mapSeq fun xs => xs.setIfInBounds 0 last), g, d, tk, os⟩ →
      wpAny (model prog w) A (updateSeq a fun xs => xs.setIfInBounds 0 last) Q E ⟨hh.update a (Obj.mapSeq fun xs => xs.pop), g, d, tk, os⟩ := fun Q E h => by
    exact wpAny_updateSeq up rfl h (by simp; lia) (by simp; lia)
  have up2 : ((hh.update a (Obj.mapSeq fun xs => xs.pop)).update a (Obj.mapSeq fun xs => xs.setIfInBounds 0 last)).get? a = some (seqO "list" (vs.set 0 last) (k + 1)) := by
    have := PySem.IsL.update (f := fun xs => xs.setIfInBounds 0 last) up
    rw [this]; simp [seqO]
  have eb : (vs ++ [last]).toArray.back? = some last := by simp
  have ef : (vs ++ [last]).toArray[0]? = some first := by simpa using hf
  wp_walk using wpAny_loadPart' ha
  rw [eb]
  wp_walk using wpAny_loadPart' ha, hU
  by_cases hv : vs = []
  · subst hv
    wp_walk
    exact h1 rfl _ up (Heap.SameBut.update ..)
  · have : ((vs ++ [last]).toArray.size == 1) = false := by simpa using hv
    rw [this]
    wp_walk
    rw [ef]
    wp_walk using hU2
    exact h2 hv _ up2 ((Heap.SameBut.update ..).trans (Heap.SameBut.update ..))
end

section
variable {C : Cx} {A : Around} {E : Value → Shared → Prop} {s : Shared} {X : Addr → Prop} {h h' : Heap}
noncomputable def pushL (l : List Itm) (x : Itm) : List Itm := upL (l.length + 1) (l ++ [x]) l.length
noncomputable def popL (l : List Itm) : List Itm := match l.dropLast, l.getLast? with
  | [], _ => []
  | d :: ds, some x => downL ((d :: ds).length + 1) ((d :: ds).set 0 x) 0
  | d :: ds, none => d :: ds

theorem Hp.epoch {a : Addr} {k k' : Nat} {vs vs' : List Value} {l l' : List Itm} (p : Hp C X a k s vs l) (e : h'.get? a = some (seqO "list" vs' k')) (hs : Heap.SameBut a s.heap h') (hz : vs'.length ≤ BIG)
    (r : RdW C s.heap X vs' l') : Hp C X a k' { s with heap := h' } vs' l' := by
  have kb : ∀ o, s.heap.get? a = some o → NF o → ∃ o', h'.get? a = some o' ∧ o'.cls = o.cls ∧ NF o' := fun o e' _ => by
    obtain rfl := is_some p.at_ e'; exact ⟨_, e, rfl, fun _ z => by cases z⟩
  have nf : ∀ o, s.heap.get? a = some o → NF o := fun o e' => by obtain rfl := is_some p.at_ e'; exact fun _ z => by cases z
  have kq : Kq C (fun b => b = a) s.heap h' := Kq.one (fun c hc o e => (hs.2 c hc).trans e) kb nf rfl
  exact ⟨p.ok.touch (t := s.toks) hs kb p.new nf, e, r.keep kq (fun b z => z ▸ p.xa) p.ok.t, hz, p.xa, p.new⟩

theorem call_push {a : Addr} {k : Nat} {vs : List Value} {l : List Itm} {v : Value} {x : Itm} {Q : Value → Shared → Prop} (hu : A.units + 2 < cLine) (P : Hp C X a k s vs l) (hz : vs.length + 1 ≤ BIG) (r : RdW C s.heap X [v] [x])
    (q : ∀ h' vs', Heap.SameBut a s.heap h' → Hp C X a (k + 1) { s with heap := h' } vs' (pushL l x) → Q .none { s with heap := h' }) : wpAny C.M A (call (.builtin "_heapq.heappush") [.ref a, v]) Q E s := by
  refine call_function_tree kind_push plain_push entry_push (args_push _ _) (push_body P.at_ hz fun h1 e1 hs1 => ⟨plainId_quiet plain_sift _, ?_⟩)
  have P1 : Hp C X a (k + 1) { s with heap := h1 } (vs ++ [v]) (l ++ [x]) := P.epoch e1 hs1 (by simpa using hz) (P.rd.append r)
  have hl : vs.length = l.length := P.rd.length
  refine up_code (A := A) (result := .none) (by lia) (vs.length + 1) vs.length { s with heap := h1 } _ _ (Nat.lt_succ_self _) (by simp) P1 fun h2 vs2 hs2 P2 _ => q h2 vs2 (hs1.trans hs2) ?_
  unfold pushL
  rw [hl] at P2; exact P2

theorem call_pop {a : Addr} {k : Nat} {vs : List Value} {l : List Itm} {x : Itm} {Q : Value → Shared → Prop} (hu : A.units + 2 < cLine) (P : Hp C X a k s vs (x :: l))
    (q : ∀ h' vs' v, Heap.SameBut a s.heap h' → Hp C X a (k + 1) { s with heap := h' } vs' (popL (x :: l)) → RdW C h' X [v] [x] → Q v { s with heap := h' }) : wpAny C.M A (call (.builtin "_heapq.heappop") [.ref a]) Q E s := by
  have hl : vs.length = (x :: l).length := P.rd.length
  refine ex1_2 (P.rd.get (i := 0) (x := x) rfl) fun v0 ev0 r0 => ?_
  have hne : vs ≠ [] := fun e => by rw [e] at hl; simp at hl
  obtain ⟨ws, last, rfl⟩ : ∃ ws last, vs = ws ++ [last] := ⟨vs.dropLast, vs.getLast hne, (List.dropLast_concat_getLast hne).symm⟩
  have hB := P.big
  rw [List.length_append] at hB hl
  obtain ⟨ml, el⟩ : ∃ y, (x :: l).getLast? = some y := ⟨_, List.getLast?_eq_some_getLast (by simp)⟩
  have dl : x :: l = (x :: l).dropLast ++ [ml] := by
    have h1 := List.getLast?_eq_some_getLast (l := x :: l) (by simp)
    obtain rfl := is_some h1 el
    exact (List.dropLast_concat_getLast (by simp)).symm
  have split : RdW C s.heap X ws (x :: l).dropLast ∧ RdW C s.heap X [last] [ml] := by
    have := P.rd
    rw [dl] at this
    have key : ∀ (ws : List Value) (m : List Itm) (u : Value) (y : Itm), RdW C s.heap X (ws ++ [u]) (m ++ [y]) → RdW C s.heap X ws m ∧ RdW C s.heap X [u] [y] := by
      intro ws
      induction ws with
      | nil =>
        intro m u y r
        cases m with
        | nil => exact ⟨.nil, r⟩
        | cons z m => have := r.length; simp at this
      | cons w ws ih =>
        intro m u y r
        cases m with
        | nil => have := r.length; simp at this
        | cons z m =>
          exact ⟨.consI r.head.1 (ih m u y r.head.2).1, (ih m u y r.head.2).2⟩
    exact key _ _ _ _ this
  have keepx : ∀ {h' : Heap} {u : Value} {y : Itm} {k' : Nat} {vs' : List Value}, Heap.SameBut a s.heap h' → h'.get? a = some (seqO "list" vs' k') → RdW C s.heap X [u] [y] → RdW C h' X [u] [y] := fun {h' u y k' vs'} hs e r => by
    have kb : ∀ o, s.heap.get? a = some o → NF o → ∃ o', h'.get? a = some o' ∧ o'.cls = o.cls ∧ NF o' := fun o e' _ => by
      obtain rfl := is_some P.at_ e'; exact ⟨_, e, rfl, fun _ z => by cases z⟩
    have nf : ∀ o, s.heap.get? a = some o → NF o := fun o e' => by obtain rfl := is_some P.at_ e'; exact fun _ z => by cases z
    have kq : Kq C (fun b => b = a) s.heap h' := Kq.one (fun c hc o e => (hs.2 c hc).trans e) kb nf rfl
    exact r.keep kq (fun b z => z ▸ P.xa) P.ok.t
  refine call_function_tree kind_pop plain_pop entry_pop (args_pop _) (pop_body P.at_ (by simpa using hB) (by simpa using ev0) (fun hw h1 e1 hs1 => ?_) fun hw h1 e1 hs1 => ⟨plainId_quiet plain_sift _, ?_⟩)
  · subst hw
    have hl0 : l = [] := by
      simp at hl; exact hl
    subst hl0
    have hv0 : v0 = last := by simpa using ev0.symm
    subst hv0
    have P1 : Hp C X a (k + 1) { s with heap := h1 } [] (popL [x]) := P.epoch e1 hs1 (by decide) .nil
    exact q h1 [] v0 hs1 P1 (keepx hs1 e1 r0)
  · have hl' : ws.length = (x :: l).dropLast.length := split.1.length
    cases hd : (x :: l).dropLast with
    | nil => rw [hd] at hl'; simp at hl'; exact absurd hl' hw
    | cons d ds =>
      have P1 : Hp C X a (k + 1) { s with heap := h1 } (ws.set 0 last) ((d :: ds).set 0 ml) := P.epoch e1 hs1 (by simp; lia) (by rw [← hd]; exact split.1.set split.2)
      have hlen : (ws.set 0 last).length = (d :: ds).length := by rw [List.length_set, hl', hd]
      have hpos : 0 < (ws.set 0 last).length := by rw [hlen]; simp
      refine down_code (A := A) (result := v0) (by lia) ((d :: ds).length + 1) 0 { s with heap := h1 } _ _ (by rw [hlen]; lia) hpos P1 fun h2 vs2 hs2 P2 _ => ?_
      have hsx : Heap.SameBut a s.heap h2 := hs1.trans hs2
      refine q h2 vs2 v0 hsx ?_ (keepx hsx P2.at_ r0)
      have e : popL (x :: l) = downL ((d :: ds).length + 1) ((d :: ds).set 0 ml) 0 := by
        unfold popL; rw [hd, el]
      rw [e]; exact P2
end
end Mine
set_option maxHeartbeats 200000
namespace Mine

section
variable {C : Cx} {n : Lv} {sc : Sc} {ρ ρ' : Rho} {env : Env} {X M X' M' fp : Addr → Prop} {s₀ s s' : Shared} {h h' h₂ : Heap} {x : Str} {A : Around} {E : Value → Shared → Prop}

theorem Ok.frag (o : Ok C s) : C.K.In s.heap := fun a ob e => by
  have e1 := C.xin a ob e
  refine ex1_2 (o.k.same a ob id (C.kt a ob e) e1) fun sl e2 c2 => ?_
  rw [c2 (.inr (by rw [e1]; simp))] at e2
  exact e2

theorem Mod.mineK (m : Mod C env ρ X M h) (T : TabOK C h) (x : Str) (hu : ρ.get x ≠ .unk) : ∃ v oa, Look h env x v ∧ SlotV C env X M h v (ρ.get x) oa ∧
    ∀ a, oa = some a → ∀ h' sl', Kq C (fun b => b = a) h h' → TabOK C h' → SlotV C env X M h' v sl' (some a) → sl'.capt = false → (ρ.get x).capt = false → Mod C env ((x, sl') :: ρ) X M h' := by
  refine ex1_2 m.vars fun own q1 q2 => ?_
  refine ex1_2 ((q1 x).toV hu) fun v l sv => ?_
  refine ⟨v, own x, l, sv, fun a ha h' sl' kq T' hv nc nc0 => ?_⟩
  rw [ha] at sv
  refine ex0_4 sv.own_live fun zq1 hMa nc1 nl => ?_; refine ex1_1 zq1 fun oa ea => ?_; try clear zq1
  refine ex0_2 (m.alive a hMa) fun z1 zq2 => ?_; refine ex1_2 zq2 fun oa' ea' nfa => ?_; try clear zq2
  obtain rfl := is_some ea ea'
  refine ex1_1 m.ns fun mm hn => ?_
  have nloc : env.locals ≠ a := fun e => nl mm hn e.symm
  have look : ∀ y u, Look h env y u → Look h' env y u := fun y u l => by
    rcases l with ⟨q1, m, q2, q3⟩ | ⟨q1, c, q2, q3⟩
    · exact .inl ⟨q1, m, Ns_kq kq T nloc q2, q3⟩
    · exact .inr ⟨q1, c, q2, kq.exact (fun z => nc1 _ (z ▸ q3)) (T.notab q3 (by simp)) q3 (by simp)⟩
  have hKX : ∀ b, b = a → X b := fun b e => e ▸ m.mx a hMa
  refine { glob := m.glob, blt := m.blt, kind := m.kind, ns := ⟨mm, Ns_kq kq T nloc hn⟩, lm := m.lm, mx := m.mx, live := fun b q => ?_, alive := fun b q => ?_, cinj := m.cinj, cells := fun y c hc => ?_, cellM := fun y c hy hc hf' => ?_, hasc := m.hasc, cellX := fun y c d hc hg => ?_, vars := ⟨own, fun y => ?_, q2⟩ }
  · refine ex1_1 (m.live b q) fun o e => ?_
    exact kq.live (fun b o z e => by subst z; obtain rfl := is_some ea e; exact nfa) T' e
  · refine ex0_2 (m.alive b q) fun y1 zq3 => ?_; refine ex1_2 zq3 fun o e nf => ?_; try clear zq3
    refine ex1_3 (kq.kind b o e nf) fun o' e' _ nf' => ?_
    exact ⟨y1, o', e', nf'⟩
  · refine ex1_1 (m.cells y c hc) fun w e => ?_
    exact ⟨w, kq.exact (fun z => nc1 _ (z ▸ e)) (T.notab e (by simp)) e (by simp)⟩
  · refine m.cellM y c hy hc ?_
    rw [Rho.get_cons] at hf'
    by_cases hyx : y = x
    · subst hyx; exact nc0
    · rw [if_neg hyx] at hf'; exact hf'
  · rw [Rho.get_cons] at hg
    by_cases hyx : y = x
    · subst hyx; rw [if_pos rfl] at hg; subst hg; cases nc
    · rw [if_neg hyx] at hg; exact m.cellX y c d hc hg
  · rw [Rho.get_cons]
    by_cases hyx : y = x
    · subst hyx; rw [if_pos rfl, ha]; exact SlotV.ok (look _ _ l) hv
    · rw [if_neg hyx]
      by_cases hu : ρ.get y = .unk
      · have := q1 y; rw [hu] at this ⊢; exact this
      · refine ex1_2 ((q1 y).toV hu) fun u l' q => ?_
        refine SlotV.ok (look _ _ l') (q.keep kq hKX T (fun b e => ?_) fun _ => id)
        rintro rfl; exact hyx (q2 y x b e ha)

structure WLF (C : Cx) (fi fa fg fr : Addr) : Prop where
  ga : findIn C.K (.ref C.wlC) "__getattribute__" = some (some (.builtin "object.__getattribute__"))
  gt : findIn C.K (.ref C.wlC) "__getattr__" = some none
  init : findIn C.K (.ref C.wlC) "__init__" = some (some (.ref fi))
  add : findIn C.K (.ref C.wlC) "add" = some (some (.ref fa))
  get : findIn C.K (.ref C.wlC) "get" = some (some (.ref fg))
  rows : findIn C.K (.ref C.wlC) "rows" = some (some (.ref fr))
  ti : typeIn C.K (.ref fi) = some (.type "function")
  ta : typeIn C.K (.ref fa) = some (.type "function")
  tg : typeIn C.K (.ref fg) = some (.type "function")
  tr : typeIn C.K (.ref fr) = some (.type "function")
  pq : ∀ hk tk p n, findObj C.K C.wlC (some (dictO [⟨hk, .str (Str.ofString "pq") tk, .ref p⟩] n)) "pq" = some (.value (.ref p))
  sa : ∀ hk tk p n, shadowIn (some (dictO [⟨hk, .str (Str.ofString "pq") tk, .ref p⟩] n)) "add" = some false
  sg : ∀ hk tk p n, shadowIn (some (dictO [⟨hk, .str (Str.ofString "pq") tk, .ref p⟩] n)) "get" = some false
  sr : ∀ hk tk p n, shadowIn (some (dictO [⟨hk, .str (Str.ofString "pq") tk, .ref p⟩] n)) "rows" = some false
  made : makesIn C.K C.wlC = true
  set : findIn C.K (.ref C.wlC) "__setattr__" = some (some (.builtin "object.__setattr__"))
  over : plainOver C.K C.wlC = true
  taker : takerIn C.K C.wlC "pq" = some none
  hasd : (clsIn C.K C.wlC).any (·.hasDict) = true
  keep : keepIn C.K (.ref C.wlC) = true

theorem WlAt.inst {a p : Addr} {items : List Itm} (w : WlAt C h X a p items) : ∃ hk tk n dx, InstAt h a (instObj C.wlC dx) C.wlC (some (dictO [⟨hk, .str (Str.ofString "pq") tk, .ref p⟩] n)) := by
  obtain ⟨dx, es, n, k, vs, n1, n2, e1, e2, ⟨hk, tk, e3, _⟩, e4, z, r⟩ := w
  subst e3
  exact ⟨hk, tk, n, dx, e1, rfl, rfl, e2⟩

theorem wl_meth {fi fa fg fr f : Addr} {name : Str} {a p : Addr} {items : List Itm} {pl : Sem Bool} {Q : Value × List Value → Shared → Prop} (W : WLF C fi fa fg fr) (o : Ok C s) (w : WlAt C s.heap X a p items)
    (hf : findIn C.K (.ref C.wlC) name = some (some (.ref f))) (ht : typeIn C.K (.ref f) = some (.type "function")) (hs : ∀ hk tk p n, shadowIn (some (dictO [⟨hk, .str (Str.ofString "pq") tk, .ref p⟩] n)) name = some false)
    (q : Q (.ref f, [.ref a]) s) : wpAny C.M A (getMethod (.ref a) name pl) Q E s := by
  refine ex4_1 w.inst fun hk tk n dx I => ?_
  exact method_fn o.frag I W.ga W.gt hf ht (hs _ _ _ _) q

theorem wl_pq {fi fa fg fr : Addr} {a p : Addr} {items : List Itm} {b : Bool} {Q : Value → Shared → Prop} (W : WLF C fi fa fg fr) (o : Ok C s) (w : WlAt C s.heap X a p items) (q : Q (.ref p) { s with toks := s.toks + 1 }) :
    wpAny C.M A (getAttr (.ref a) "pq" b) Q E s := by
  refine ex4_1 w.inst fun hk tk n dx I => ?_
  exact get_value o.frag I W.ga (W.pq _ _ _ _) rfl q
end
end Mine
set_option maxHeartbeats 4000000
namespace Mine

section
variable {C : Cx} {n : Lv} {sc : Sc} {ρ ρ' : Rho} {env : Env} {X M X' M' fp : Addr → Prop} {s₀ s s' : Shared} {h h' h₂ : Heap} {x : Str} {A : Around} {E : Value → Shared → Prop}

theorem fn_block {name qual : Str} {params : Arguments} {body : List Stmt} {scope : Scope} {cl : List (Str × Addr)} {dV kV doc pm ct : Value} {an : Option Addr} {f c : Addr} {args : Args} {binds : List (Str × Value)} {ds : List (Str × D)} {cp : Option (Addr × Addr)} {Q : Value → Shared → Prop}
    (S : Sit C n.up A s) (hX : Xl X s.heap) (ho : s.heap.get? f = some { cls := .type "function", data := .func (fnX name qual params body scope cl dV kV doc pm an (.ref c) ct) }) (hcd : s.heap.CodeRec (.ref c) qual)
    (hbind : BindsTo s (fnX name qual params body scope cl dV kV doc pm an (.ref c) ct) args binds) (hr : RdK C s.heap X cl ρ) (hcl : clOk scope.names ρ = true) (hb : RdB C s.heap X binds ds) (hbs : bindsOk scope.names ρ ds = true)
    (hcode : ∀ c' P, cp = some (c', P) → c' = c ∧ c ∉ tabs ∧ P ∈ tabs ∧ CodeHd C.h₁ c P) (hk : scope.kind = .function) (hco : scope.isCoroutine = false) (hgen : scope.isGenerator = false)
    (hbody : ∀ env X2 M2 s2, Sit C n (A.deeper env) s2 → EnvIs C ⟨scope, qual ++ ".<locals>.", cp⟩ env → Mod C env (bindsRho ρ ds) X2 M2 s2.heap → Top (A.deeper env) env → Kp C s.heap s2.heap → (∀ a, X a → X2 a) → (∀ a, X2 a → X a ∨ s.heap.get? a = none) → (∀ a, M2 a → s.heap.get? a = none) →
      wpAny C.M (A.deeper env) (execs body env) (fun f s' => Q (match f with | .ret v => v | _ => .none) s') (fun _ _ => False) s2) : wpAny C.M A (call (.ref f) args.pos args.kw) Q E s := by
  refine wpAny_call (codeAny_call_function (by have := S.dp; have : recursionLimit = 1000 := rfl; lia) ho rfl hco hgen rfl hcd (hbind _ _ _ _ ?_))
  refine wpAny_newEnv S.ok hX hk hr hcl hb hbs fun new s2 o2 m2 k2 dead zq3 => ex1_3 zq3 fun fo e2 c2 nf2 => ⟨o2.nolim, codeAny_func ?_⟩
  generalize henv : newEnv scope s.heap.objs.size mainGlobals (cellsFrom (s.heap.objs.size + 1) scope.names cl) (qual ++ ".<locals>.") (some f) (.ref c) none builtinsNs = env at m2
  have een : EnvIs C ⟨scope, qual ++ ".<locals>.", cp⟩ env := by
    rw [← henv]
    exact ⟨rfl, rfl, fun c' P h => by refine ex0_4 (hcode c' P h) fun zq1 h2 h3 h4 => ?_; subst zq1; exact ⟨rfl, h2, h3, h4⟩⟩
  have dL : C.h₁.get? s.heap.objs.size = none := S.ok.k.dead S.ok.t dead_size
  have S2 : Sit C n (A.deeper env) s2 := by
    refine ⟨S.hd, fun z => (S.hx z).keep k2 S.ok.t fun _ q => q.elim, by have := S.dp; show A.depth + 1 + 10 * n.k ≤ 900; dsimp at this; lia, by have := S.un; show A.units + 3 + 100 * n.k ≤ 9000; dsimp at this; lia, ?_, o2⟩
    refine ex1_2 (S.fr.keep (Kq.of_kp (M := fun _ => False) k2)) fun l hl q => ?_
    refine ⟨env :: l, by show A.frames.map (env :: ·) = _; rw [hl]; rfl, fun env' he => ?_⟩
    rcases List.mem_cons.mp he with rfl | he
    · rw [← henv]; exact ⟨by show scope.kind ≠ _; rw [hk]; simp, _, fo, rfl, dL, e2, c2, nf2⟩
    · exact q env' he
  have tp : Top (A.deeper env) env := by
    refine ex1_2 S.fr fun l hl _ => ?_
    refine ⟨l, s.heap.objs.size, by show A.frames.map (env :: ·) = _; rw [hl]; rfl, by rw [← henv]; rfl⟩
  exact wp_false (hbody env _ _ s2 S2 een m2 tp k2 (fun a z => .inl z) (fun a z => z.imp id (dead a)) dead) fun f s' q => q

theorem wpAny_im {x : Str} {pos : Pos} {v : Value} {Q : Value → Shared → Prop} (o : Ok C s) (en : EnvIs C sc env) (m : Mod C env ρ X M s.heap) (hk : sc.scope.names.lookup x = some .globalImplicit) (hb : imList.lookup x = some v)
    (h : Q v s) (hd : (x == ("__debug__" : Str)) = false) : wpAny C.M A (eval (.Name x pos) env) Q E s :=
  Name_function_global m.kind (names_loc en hk) (loadGlobal_global (mg := C.mg) (by rw [m.glob]; exact o.glob C.nsG (by decide)) (C.im x v hb) h) hd


structure WlNext (C : Cx) (X : Addr → Prop) (s : Shared) (a p : Addr) (items : List Itm) (s' : Shared) : Prop where
  kq : Kq C (fun b => b = p) s.heap s'.heap
  ok : Ok C s'
  at_ : WlAt C s'.heap X a p items

theorem RdW.of_tup {v : Value} {i : Int} {b : Array UInt8} (r : Rd C h X v (.tup [.int i, .byt b])) : RdW C h X [v] [(i, b)] := by
  cases r.i_tup with
  | @mk a vs j nx e z rl =>
    refine ex2_3 rl.two fun y w zq2 ra rb => ?_; subst zq2
    cases ra.i_int; cases rb.i_byt
    exact .cons nx e .nil

theorem attr_name {x attr : Str} {xp pos : Pos} {Q : Value → Shared → Prop} (h : wpAny C.M A (eval (.Name x xp) env) (fun o s₁ => wpAny C.M A (getAttr o attr true) Q E s₁) E s) : wpAny C.M A (eval (.Attribute (.Name x xp) attr pos) env) Q E s := by
  rw [arm_eval_Attribute]
  refine wpAny_bind ?_
  show wpAny C.M A (eval (.Name x xp) env) _ E s
  exact wpAny_mono h (fun o s1 h1 => wpAny_bind (wpAny_standAt (wpAny_bind (wpAny_holding (wpAny_mono h1 (fun r s2 h2 => wpAny_bind (wpAny_pure (wpAny_pure h2))) fun _ _ e => e))))) fun _ _ e => e

theorem call_name2 {x : Str} {np pos : Pos} {e₁ e₂ : Expr} {id : String} {Q : Value → Shared → Prop} (h : wpAny C.M A (eval (.Name x np) env) (fun f s₁ => f = .builtin id ∧ wpAny C.M A (spliced (backTo pos (starEach [e₁, e₂] env))) (fun vs s₂ => wpAny C.M A (call (.builtin id) vs) Q E s₂) E s₁) E s)
    (h1 : starEach [e₁, e₂] env = (false, eval e₁ env) :: starEach [e₂] env) (h2 : (backTo pos (starEach [e₂] env)).any (·.1) = false)
    (h3 : eval (.Call (.Name x np) [e₁, e₂] [] pos) env = (do callWith pos (← eval (.Name x np) env) [] (backTo pos (starEach [e₁, e₂] env)) (backToKw pos (keywordEach [] env)))) : wpAny C.M A (eval (.Call (.Name x np) [e₁, e₂] [] pos) env) Q E s :=
  Call_ (he := h3) (wpAny_mono h (fun f s1 zq4 => ex0_2 zq4 fun e h => by subst e; exact callWith_builtin1 (he := h1) (hplain := h2) h) fun _ _ e => e)

theorem call_add {fi fa fg fr : Addr} {a p : Addr} {items : List Itm} {v : Value} {i : Int} {b : Array UInt8} {qual : Str} {params : Arguments} {scope : Scope} {Q : Value → Shared → Prop} {f c : Addr} {dV kV doc pm ct : Value} {an : Option Addr}
    {p1 p2 p3 p4 p5 p6 p7 p8 p9 p10 p11 p12 p13 p14 : Pos} {k1 k2 : Nat}
    (W : WLF C fi fa fg fr) (S : Sit C n.up A s) (hX : Xl X s.heap) (hXp : X p) (w : WlAt C s.heap X a p items) (hz : items.length + 1 ≤ BIG) (hnew : C.h₁.get? p = none) (r : Rd C s.heap X v (.tup [.int i, .byt b]))
    (ho : s.heap.get? f = some { cls := .type "function", data := .func (fnX "add" qual params [
      .Assign [.Tuple [.Name "dt" p1, .Name "cmt" p2] k1 p3] (.Name "item" p4) p5,
      .Expr (.Call (.Name "heappush" p6) [.Attribute (.Name "self" p7) "pq" p8, .Tuple [.UnaryOp .USub (.Name "dt" p9) p10, .Name "cmt" p11] k2 p12] [] p13) p14] scope [] dV kV doc pm an (.ref c) ct) }) (hcd : s.heap.CodeRec (.ref c) qual)
    (hbind : ∀ u v, bindArgs (fnX "add" qual params [
      .Assign [.Tuple [.Name "dt" p1, .Name "cmt" p2] k1 p3] (.Name "item" p4) p5,
      .Expr (.Call (.Name "heappush" p6) [.Attribute (.Name "self" p7) "pq" p8, .Tuple [.UnaryOp .USub (.Name "dt" p9) p10, .Name "cmt" p11] k2 p12] [] p13) p14] scope [] dV kV doc pm an (.ref c) ct) ⟨[u, v], []⟩ = pure [((Str.ofString "self"), u), ((Str.ofString "item"), v)])
    (hsc : scope.names.lookup ("self" : Str) = some .local ∧ scope.names.lookup ("item" : Str) = some .local ∧ scope.names.lookup ("dt" : Str) = some .local ∧ scope.names.lookup ("cmt" : Str) = some .local ∧ scope.names.lookup ("heappush" : Str) = some .globalImplicit)
    (hk : scope.kind = .function) (hco : scope.isCoroutine = false) (hgen : scope.isGenerator = false)
    (q : ∀ s', WlNext C X s a p (pushL items (-i, b)) s' → Q .none s') : wpAny C.M A (call (.ref f) [.ref a, v]) Q E s := by
  refine ex0_5 hsc fun s1 s2 s3 s4 s5 => ?_; try clear hsc
  refine fn_block (args := ⟨[.ref a, v], []⟩) (ds := [("self", .adr a), ("item", .tup [.int i, .byt b])]) (ρ := []) (cp := none) S hX ho hcd (.of_eq (hbind _ _)) .nil (by simp [clOk, List.all_eq_true, Rho.get, Slot.isUnk]) (.cons (.adr a) (.cons r .nil))
    (by simp [bindsOk, s1, s2, isLoc]; decide) (fun _ _ z => by cases z) hk hco hgen fun env X2 M2 t2 S2 en m2 tp kk2 hX2 hX2' hM2 => ?_
  have w2 : WlAt C t2.heap X2 a p items := (w.anti fun b o e z => (hX2' b z).elim id fun e' => by rw [e] at e'; cases e').keep (M := fun _ => False) kk2 (fun _ z => z.elim) id S.ok.t
  have lp : ∃ o, s.heap.get? p = some o := by obtain ⟨dx, es, n, k, vs, n1, n2, e1, e2, e3, e4, _⟩ := w; exact ⟨_, e4⟩
  have nMp : ¬ M2 p := fun z => by refine ex1_1 lp fun o e => ?_; try clear lp; exact no_some (hM2 p z) e
  have hXp2 : X2 p := hX2 p hXp
  -- the first statement
  have st1 : H1 C n ⟨scope, qual ++ ".<locals>.", none⟩ (bindsRho [] [("self", .adr a), ("item", .tup [.int i, .byt b])]) (.Assign [.Tuple [.Name "dt" p1, .Name "cmt" p2] k1 p3] (.Name "item" p4) p5)
      (fun fl ρ' => fl = .next ∧ ρ' = ([(Str.ofString "cmt", Slot.val (.byt b)), (Str.ofString "dt", Slot.val (.int i)), (Str.ofString "item", Slot.val (.tup [.int i, .byt b])), (Str.ofString "self", Slot.val (.adr a))] : Rho)) :=
    H1_assign (Ev_name rfl) (Asg_pair (Asg_name (by show isLoc (scope.names.lookup _) = true; rw [s3]; rfl) rfl) (Asg_name (by show isLoc (scope.names.lookup _) = true; rw [s4]; rfl) rfl)) ⟨rfl, rfl⟩
  refine wpAny_execs_cons (wp_false (st1 _ env X2 M2 t2 S2 en m2 tp) fun fl t3 ⟨fl', ρ3, X3, M3, ⟨hfl, hρ⟩, r3, p3⟩ => ?_)
  subst hfl hρ
  obtain rfl := r3.nx
  · have S3 := S2.step p3.kq p3.ok fun a z => (m2.alive a z).2
    have m3 := p3.mod
    have w3 : WlAt C t3.heap X3 a p items := by
      have x1 := w2.anti (X' := fun b => X2 b ∨ X3 b) fun b o e z => z.elim id fun z => (p3.xm b z).elim id fun e' => by rw [e] at e'; cases e'
      exact (x1.keep p3.kq (fun b z => .inl (m2.mx b z)) nMp S2.ok.t).anti fun b o e z => .inr z
    have hXp3 : X3 p := p3.xx p hXp2 nMp
    have ld : ∀ {b : Addr}, X3 b → X b ∨ s.heap.get? b = none := fun {b} z => (p3.xm b z).elim (hX2' b) fun e => .inr (dead_back kk2 S2.ok.t e)
    have kp3 : Kp C s.heap t3.heap := kk2.trans' p3.kq fun a o e z => by exact no_some (hM2 a z) e
    have ev1 : Ev C n ⟨scope, qual ++ ".<locals>.", none⟩ ([(Str.ofString "cmt", Slot.val (.byt b)), (Str.ofString "dt", Slot.val (.int i)), (Str.ofString "item", Slot.val (.tup [.int i, .byt b])), (Str.ofString "self", Slot.val (.adr a))] : Rho) (.Name "self" p7) (.adr a) := Ev_name rfl
    have ev2 : Ev C n ⟨scope, qual ++ ".<locals>.", none⟩ ([(Str.ofString "cmt", Slot.val (.byt b)), (Str.ofString "dt", Slot.val (.int i)), (Str.ofString "item", Slot.val (.tup [.int i, .byt b])), (Str.ofString "self", Slot.val (.adr a))] : Rho) (.Tuple [.UnaryOp .USub (.Name "dt" p9) p10, .Name "cmt" p11] k2 p12) (.tup [.int (-i), .byt b]) :=
      Ev_tuple (El_cons (Ev_neg (Ev_name rfl)) (El_cons (Ev_name rfl) El_nil))
    have hint : interactive env = false := by simp [interactive, m3.kind]
    refine wpAny_execs_cons (wpAny_Expr_any (hi := hint) (hs := rfl) (call_name2 (wpAny_im p3.ok en m3 s5 rfl ⟨rfl, args_cons (he := rfl) (attr_name (wp_false (ev1 _ env X3 M3 t3 S3 en m3) fun u t4 zq5 => ex0_2 zq5 fun n4 r4 => ?_))⟩ (by decide)) rfl rfl rfl))
    cases r4.i_adr
    have m4 := m3.nx n4 p3.ok
    have w4 : WlAt C t4.heap X3 a p items := w3.keep (M := fun _ => False) n4.k (fun _ z => z.elim) id p3.ok.t
    refine wl_pq W n4.ok w4 ?_
    have n5 : Nx C t4 { t4 with toks := t4.toks + 1 } := .tok n4.ok
    refine args_cons (he := rfl) (wp_false (ev2 _ env X3 M3 _ ((S3.next n4).next n5) en (m4.nx n5 n4.ok)) fun v t6 zq6 => ex0_2 zq6 fun n6 r6 => args_nil ?_)
    have n46 := n5.trans n6
    have w6 : WlAt C t6.heap X3 a p items := w4.keep (M := fun _ => False) n46.k (fun _ z => z.elim) id n4.ok.t
    obtain ⟨dx, es, en', k, vs, x1, x2, e1, e2, e3, e4, zz, rr⟩ := w6
    have P : Hp C X3 p k t6 vs items := ⟨n46.ok, e4, rr, zz, hXp3, hnew⟩
    refine call_push (by have := S3.un; have : cLine = 9900 := rfl; lia) P (by rw [rr.length]; exact hz) (RdW.of_tup r6) fun h7 vs7 hs7 P7 => ?_
    refine wpAny_execs_nil (q _ ?_)
    have kp6 : Kp C s.heap t6.heap := (kp3.trans n4.k).trans n46.k
    have ap : a ≠ p := fun z => x1 (z ▸ hXp3)
    have dp : dx ≠ p := fun z => x2 (z ▸ hXp3)
    have kb : ∀ o, t6.heap.get? p = some o → NF o → ∃ o', h7.get? p = some o' ∧ o'.cls = o.cls ∧ NF o' := fun o e' _ => by
      obtain rfl := is_some e4 e'; exact ⟨_, P7.at_, rfl, fun _ z => by cases z⟩
    have kq7 : Kq C (fun b => b = p) t6.heap h7 := Kq.one (fun c hc o e => (hs7.2 c hc).trans e) kb (fun o e' => by obtain rfl := is_some e4 e'; exact fun _ z => by cases z) rfl
    refine ⟨(Kq.of_kp kp6).trans kq7, P7.ok, ?_⟩
    have down : ∀ b o, t6.heap.get? b = some o → X b → X3 b := fun b o e z => p3.xx b (hX2 b z) fun y => by refine ex1_1 (hX b z) fun o' e' => ?_; exact no_some (hM2 b y) e'
    refine ⟨dx, es, en', k + 1, vs7, fun z => x1 (down a _ e1 z), fun z => x2 (down dx _ e2 z), (hs7.2 a ap).trans e1, (hs7.2 dx dp).trans e2, e3, P7.at_, P7.big, RdW.anti (fun b o e z => ?_) P7.rd⟩
    exact p3.xx b (hX2 b z) fun y => by refine ex1_1 (hX b z) fun o' e' => ?_; exact no_some (hM2 b y) e'
end
end Mine
set_option maxHeartbeats 1000000
namespace Mine

section
variable {C : Cx} {n : Lv} {sc : Sc} {ρ ρ' : Rho} {env : Env} {X M X' M' fp : Addr → Prop} {s₀ s s' : Shared} {h h' h₂ : Heap} {x : Str} {A : Around} {E : Value → Shared → Prop}

structure CallAdd (C : Cx) (n : Lv) (f : Addr) : Prop where
  fn : ∃ o fd, C.h₁.get? f = some o ∧ o.data = .func fd ∧ o.cls = .type "function"
  call : ∀ A X s a p items v i b (Q : Value → Shared → Prop) (E : Value → Shared → Prop), Sit C n A s → Xl X s.heap → X p → WlAt C s.heap X a p items → items.length + 1 ≤ BIG → C.h₁.get? p = none → Rd C s.heap X v (.tup [.int i, .byt b]) →
    (∀ s', WlNext C X s a p (pushL items (-i, b)) s' → Q .none s') → wpAny C.M A (call (.ref f) [.ref a, v]) Q E s

noncomputable def plOf (o : Expr) (env : Env) : Sem Bool := do return (← importBound o env).getD true

inductive WlMod (C : Cx) (env : Env) (ρ : Rho) (X M : Addr → Prop) (h : Heap) (x : Str) (l : List Itm) : Prop where
  | mk (a p : Addr) : Look h env x (.ref a) → WlAt C h X a p l → M p → (∀ h' l', Kq C (fun b => b = p) h h' → TabOK C h' → WlAt C h' X a p l' → Mod C env ((x, .wl l') :: ρ) X M h') → WlMod C env ρ X M h x l
theorem Mod.wl (m : Mod C env ρ X M h) (T : TabOK C h) {l : List Itm} (hx : ρ.get x = .wl l) : WlMod C env ρ X M h x l := by
  refine ex2_3 (m.mineK T x (by rw [hx]; simp)) fun v oa lk sv up => ?_
  rw [hx] at sv
  refine ex2_4 sv fun a p zq1 zq2 w Mp => ?_; try clear sv; subst zq1; subst zq2
  exact ⟨a, p, lk, w, Mp, fun h' l' k T' w' => up p rfl h' (.wl l') k T' ⟨a, p, rfl, rfl, w', Mp⟩ rfl (by rw [hx]; rfl)⟩

theorem H1_wladd {fi fa fg fr : Addr} {e : Expr} {xp ap cp pos : Pos} {l : List Itm} {i : Int} {b : Array UInt8} {Q : Fl → Rho → Prop} (W : WLF C fi fa fg fr) (ca : CallAdd C n fa) (hx : ρ.get x = .wl l) (he : Ev C n sc ρ e (.tup [.int i, .byt b])) (z : l.length + 1 ≤ BIG)
    (q : Q .next ((x, .wl (pushL l (-i, b))) :: ρ))
    (hcall : ∀ env, eval (.Call (.Attribute (.Name x xp) "add" ap) [e] [] cp) env = (do
      let ov ← eval (.Name x xp) env
      standAt ap.atName
      let fx ← holding [ov] (getMethod ov "add" (plOf (.Name x xp) env))
      callWith cp fx.1 fx.2 (backTo cp (starEach [e] env)) (backToKw cp (keywordEach [] env))) := by intro env; rfl)
    (htrees : ∀ env, backTo cp (starEach [e] env) = [(false, eval e env)] := by intro env; rfl)
    (hd : (x == ("__debug__" : Str)) = false := by decide) (hn : (x == ("__classdict__" : Str)) = false := by decide) :
    H1 C n sc ρ (.Expr (.Call (.Attribute (.Name x xp) "add" ap) [e] [] cp) pos) Q := fun A env X M s S en m tp => by
  have hint : interactive env = false := by simp [interactive, m.kind]
  refine wpAny_Expr_any (hi := hint) (hs := rfl) ?_
  rw [hcall env]
  obtain ⟨a, p, lk, w, Mp, -⟩ := m.wl S.ok.t hx
  refine wpAny_bind (eval_name_eq m lk (wpAny_bind (wpAny_standAt (wpAny_bind (wpAny_holding (wl_meth W S.ok w W.add W.ta W.sa ?_))))) hd hn)
  refine ex2_3 ca.fn fun fo fd ef hfd hfc => ?_
  have nfo : NF fo := fun vs z => by rw [hfd] at z; cases z
  show wpAny C.M A (callWith cp (.ref fa) [.ref a] (backTo cp (starEach [e] env)) []) _ _ s
  rw [htrees env]
  refine Calls.callWith_function (o := fo) (fd := fd) (Calls.evalArgs_plain (Calls.spliced_cons (wp_false (he A env X M s S en m) fun v s1 zq3 => ex0_2 zq3 fun n1 r1 => Calls.spliced_nil ⟨⟨n1.ok.obj ef nfo (by rw [hfc]; simp) (by rw [hfc]; simp), hfd⟩, ?_⟩)))
  have m1 := m.nx n1 S.ok
  obtain ⟨a', p', lk', w', Mp', up⟩ := m1.wl n1.ok.t hx
  cases Look.inj (lk.keep n1.k S.ok.t) lk'
  refine ca.call A X s1 a p' l v i b _ _ (S.next n1) m1.xl (m1.mx p' Mp') w' z (m1.alive p' Mp').1 r1 fun s2 wn => ?_
  have m2 := up s2.heap _ wn.kq wn.ok.t wn.at_
  exact ⟨.next, _, X, M, q, trivial, .of m2 ((Kq.of_kp n1.k).trans (wn.kq.mono fun b e => e ▸ Mp')) wn.ok⟩
end
end Mine
set_option maxHeartbeats 4000000
namespace Mine

section
variable {C : Cx} {n : Lv} {sc : Sc} {ρ ρ' : Rho} {env : Env} {X M X' M' fp : Addr → Prop} {s₀ s s' : Shared} {h h' h₂ : Heap} {x : Str} {A : Around} {E : Value → Shared → Prop}

theorem RdW.tup {v : Value} {x : Itm} (r : RdW C h X [v] [x]) : Rd C h X v (.tup [.int x.1, .byt x.2]) := by
  refine ex4_3 r.head.1 fun _ _ _ _ zq1 nx e => ?_; subst zq1
  exact .tup nx e (by show 2 ≤ BIG; decide) (.cons (.int _ _) (.cons (.byt _ _) .nil))

theorem call_name1 {x : Str} {np pos : Pos} {e₁ : Expr} {id : String} {Q : Value → Shared → Prop} (h : wpAny C.M A (eval (.Name x np) env) (fun f s₁ => f = .builtin id ∧ wpAny C.M A (spliced (backTo pos (starEach [e₁] env))) (fun vs s₂ => wpAny C.M A (call (.builtin id) vs) Q E s₂) E s₁) E s)
    (h1 : starEach [e₁] env = (false, eval e₁ env) :: starEach [] env)
    (h3 : eval (.Call (.Name x np) [e₁] [] pos) env = (do callWith pos (← eval (.Name x np) env) [] (backTo pos (starEach [e₁] env)) (backToKw pos (keywordEach [] env)))) : wpAny C.M A (eval (.Call (.Name x np) [e₁] [] pos) env) Q E s :=
  Call_ (he := h3) (wpAny_mono h (fun f s1 zq3 => ex0_2 zq3 fun e h => by subst e; exact callWith_builtin1 (he := h1) (hplain := rfl) h) fun _ _ e => e)

theorem call_get {fi fa fg fr : Addr} {a p : Addr} {it : Itm} {items : List Itm} {qual : Str} {params : Arguments} {scope : Scope} {Q : Value → Shared → Prop} {f c : Addr} {dV kV doc pm ct : Value} {an : Option Addr}
    {p1 p2 p3 p4 p5 p6 p7 p8 p9 p10 p11 p12 p13 p14 p15 p16 p17 p18 p19 p20 : Pos} {k1 k2 j1 : Nat} {cn : Const}
    (W : WLF C fi fa fg fr) (S : Sit C n.up A s) (hX : Xl X s.heap) (hXp : X p) (w : WlAt C s.heap X a p (it :: items)) (hnew : C.h₁.get? p = none)
    (ho : s.heap.get? f = some { cls := .type "function", data := .func (fnX "get" qual params [
      .Assign [.Name "item" p1] (.Call (.Name "heappop" p2) [.Attribute (.Name "self" p3) "pq" p4] [] p5) p6,
      .If (.Name "item" p7) [.Assign [.Tuple [.Name "pr" p8, .Name "cmt" p9] k1 p10] (.Name "item" p11) p12, .Return (some (.Tuple [.UnaryOp .USub (.Name "pr" p13) p14, .Name "cmt" p15] k2 p16)) p17] [] p18,
      .Return (some (.Constant .none j1 p19)) p20] scope [] dV kV doc pm an (.ref c) ct) }) (hcd : s.heap.CodeRec (.ref c) qual)
    (hbind : ∀ u, bindArgs (fnX "get" qual params [
      .Assign [.Name "item" p1] (.Call (.Name "heappop" p2) [.Attribute (.Name "self" p3) "pq" p4] [] p5) p6,
      .If (.Name "item" p7) [.Assign [.Tuple [.Name "pr" p8, .Name "cmt" p9] k1 p10] (.Name "item" p11) p12, .Return (some (.Tuple [.UnaryOp .USub (.Name "pr" p13) p14, .Name "cmt" p15] k2 p16)) p17] [] p18,
      .Return (some (.Constant .none j1 p19)) p20] scope [] dV kV doc pm an (.ref c) ct) ⟨[u], []⟩ = pure [((Str.ofString "self"), u)])
    (hsc : scope.names.lookup ("self" : Str) = some .local ∧ scope.names.lookup ("item" : Str) = some .local ∧ scope.names.lookup ("pr" : Str) = some .local ∧ scope.names.lookup ("cmt" : Str) = some .local ∧ scope.names.lookup ("heappop" : Str) = some .globalImplicit)
    (hk : scope.kind = .function) (hco : scope.isCoroutine = false) (hgen : scope.isGenerator = false)
    (q : ∀ s' v, WlNext C X s a p (popL (it :: items)) s' → Rd C s'.heap X v (.tup [.int (-it.1), .byt it.2]) → Q v s') : wpAny C.M A (call (.ref f) [.ref a]) Q E s := by
  refine ex0_5 hsc fun s1 s2 s3 s4 s5 => ?_; try clear hsc
  refine fn_block (args := ⟨[.ref a], []⟩) (ds := [("self", .adr a)]) (ρ := []) (cp := none) S hX ho hcd (.of_eq (hbind _)) .nil (by simp [clOk, List.all_eq_true, Rho.get, Slot.isUnk]) (.cons (.adr a) .nil)
    (by simp [bindsOk, s1, isLoc]; decide) (fun _ _ z => by cases z) hk hco hgen fun env X2 M2 t2 S2 en m2 tp kk2 hX2 hX2' hM2 => ?_
  have w2 : WlAt C t2.heap X2 a p (it :: items) := (w.anti fun b o e z => (hX2' b z).elim id fun e' => by rw [e] at e'; cases e').keep (M := fun _ => False) kk2 (fun _ z => z.elim) id S.ok.t
  have lp : ∃ o, s.heap.get? p = some o := by obtain ⟨dx, es, n, k, vs, n1, n2, e1, e2, e3, e4, _⟩ := w; exact ⟨_, e4⟩
  have nMp : ¬ M2 p := fun z => by refine ex1_1 lp fun o e => ?_; try clear lp; exact no_some (hM2 p z) e
  have hXp2 : X2 p := hX2 p hXp
  have ev1 : Ev C n ⟨scope, qual ++ ".<locals>.", none⟩ (bindsRho [] [((Str.ofString "self"), .adr a)]) (.Name "self" p3) (.adr a) := Ev_name rfl
  have nloc : env.locals ≠ p := fun z => nMp (z ▸ m2.lm)
  refine wpAny_execs_cons (wpAny_Assign_Name (hs := rfl) (call_name1 (wpAny_im S2.ok en m2 s5 rfl ⟨rfl, args_cons (he := rfl) (attr_name (wp_false (ev1 _ env X2 M2 t2 S2 en m2) fun u t4 zq4 => ex0_2 zq4 fun n4 r4 => ?_))⟩ (by decide)) rfl rfl))
  cases r4.i_adr
  have m4 := m2.nx n4 S2.ok
  have w4 : WlAt C t4.heap X2 a p (it :: items) := w2.keep (M := fun _ => False) n4.k (fun _ z => z.elim) id S2.ok.t
  refine wl_pq W n4.ok w4 (args_nil ?_)
  have n5 : Nx C t4 { t4 with toks := t4.toks + 1 } := .tok n4.ok
  have w5 : WlAt C ({ t4 with toks := t4.toks + 1 } : Shared).heap X2 a p (it :: items) := w4
  obtain ⟨dx, es, en', k, vs, x1, x2, e1, e2, e3, e4, zz, rr⟩ := w5
  have P : Hp C X2 p k { t4 with toks := t4.toks + 1 } vs (it :: items) := ⟨n5.ok, e4, rr, zz, hXp2, hnew⟩
  refine call_pop (by have := S2.un; have : cLine = 9900 := rfl; lia) P fun h7 vs7 v hs7 P7 r7 => ?_
  have ap : a ≠ p := fun z => x1 (z ▸ hXp2)
  have dp : dx ≠ p := fun z => x2 (z ▸ hXp2)
  have kb : ∀ o, t4.heap.get? p = some o → NF o → ∃ o', h7.get? p = some o' ∧ o'.cls = o.cls ∧ NF o' := fun o e' _ => by
    have e4' : t4.heap.get? p = some (seqO "list" vs k) := e4
    obtain rfl := is_some e4' e'; exact ⟨_, P7.at_, rfl, fun _ z => by cases z⟩
  have kq7 : Kq C (fun b => b = p) t4.heap h7 := Kq.one (fun c hc o e => (hs7.2 c hc).trans e) kb (fun o e' => by
    have e4' : t4.heap.get? p = some (seqO "list" vs k) := e4
    obtain rfl := is_some e4' e'; exact fun _ z => by cases z) rfl
  have m7 : Mod C env (bindsRho [] [((Str.ofString "self"), .adr a)]) X2 M2 h7 := m4.side n4.ok.t kq7 P7.ok.t (fun b z => z ▸ hXp2) (fun b z y => nMp (z ▸ y)) (fun y c hc z => by
    refine ex1_1 (m4.cells y c hc) fun u e => ?_
    have e4' : t4.heap.get? p = some (seqO "list" vs k) := e4
    rw [z, e4'] at e; simp at e) (fun b z => ⟨z, fun y => ⟨_, y ▸ P7.at_⟩⟩) m4.mx
  have w7 : WlAt C h7 X2 a p (popL (it :: items)) := ⟨dx, es, en', k + 1, vs7, x1, x2, (hs7.2 a ap).trans e1, (hs7.2 dx dp).trans e2, e3, P7.at_, P7.big, P7.rd⟩
  refine wpAny_put (N := fun _ => False) (X' := X2) (M' := M2) (oa := none) (sl := .val (.tup [.int it.1, .byt it.2])) P7.ok P7.ok m7 (fun _ _ => id) (.inl (names_loc en s2)) (by simp) (by simp) (fun _ z => z.elim) rfl ⟨rfl, r7.tup⟩ (by simp) rfl fun t8 o8 m8 k8 => ?_
  have S4 := S2.next n4
  have S8 : Sit C n (A.deeper env) t8 := by
    have S7 : Sit C n (A.deeper env) { t4 with heap := h7, toks := t4.toks + 1 } := (S4.next n5).step (M := fun b => b = p) kq7 P7.ok fun b z => by
      have e4' : t4.heap.get? p = some (seqO "list" vs k) := e4
      exact ⟨_, z ▸ e4', fun _ y => by cases y⟩
    exact S7.step k8 o8 fun b z => by refine ex0_2 (m7.alive b z) fun _ zq2 => ?_; refine ex1_2 zq2 fun o e nf => ?_; try clear zq2; exact ⟨o, e, nf⟩
  have w8 : WlAt C t8.heap X2 a p (popL (it :: items)) := w7.keep k8 m2.mx nMp P7.ok.t
  -- the rest
  have st2 : Hs C n ⟨scope, qual ++ ".<locals>.", none⟩ (((Str.ofString "item"), .val (.tup [.int it.1, .byt it.2])) :: bindsRho [] [((Str.ofString "self"), .adr a)])
      [.If (.Name "item" p7) [.Assign [.Tuple [.Name "pr" p8, .Name "cmt" p9] k1 p10] (.Name "item" p11) p12, .Return (some (.Tuple [.UnaryOp .USub (.Name "pr" p13) p14, .Name "cmt" p15] k2 p16)) p17] [] p18, .Return (some (.Constant .none j1 p19)) p20] (RetQ (.tup [.int (-it.1), .byt it.2])) :=
    Hs_cons (H1_if (b := true) (Et_plain (Ev_name rfl) Truth_tup) (fun _ => Hs_cons (H1_assign (Ev_name rfl) (Asg_pair (Asg_name (by show isLoc (scope.names.lookup _) = true; rw [s3]; rfl) rfl) (Asg_name (by show isLoc (scope.names.lookup _) = true; rw [s4]; rfl) rfl))
      (Hs_cons (H1_return (Ev_tuple (El_cons (Ev_neg (Ev_name rfl)) (El_cons (Ev_name rfl) El_nil))) (.inl rfl))))) (fun z => by cases z))
  refine wp_false (st2 _ env X2 M2 t8 S8 en m8 tp) fun fl t9 ⟨fl', ρ9, X9, M9, q9, r9, p9⟩ => ?_
  have kp4 : Kp C s.heap t4.heap := kk2.trans n4.k
  have k47 : Kq C (fun b => b = p) s.heap h7 := (Kq.of_kp kp4).trans kq7
  have k48 : Kq C (fun b => b = p) s.heap t8.heap := k47.trans' k8 fun b o e z => by exact no_some (hM2 b z) e
  have k49 : Kq C (fun b => b = p) s.heap t9.heap := k48.trans' p9.kq fun b o e z => by exact no_some (hM2 b z) e
  have w9 : WlAt C t9.heap X9 a p (popL (it :: items)) := by
    have y1 := w8.anti (X' := fun b => X2 b ∨ X9 b) fun b o e z => z.elim id fun z => (p9.xm b z).elim id fun e' => by rw [e] at e'; cases e'
    exact (y1.keep p9.kq (fun b z => .inl (m2.mx b z)) nMp o8.t).anti fun b o e z => .inr z
  have back : ∀ b, X b → X9 b := fun b z => p9.xx b (hX2 b z) fun y => by refine ex1_1 (hX b z) fun o' e' => ?_; exact no_some (hM2 b y) e'
  have fin : ∀ v, Rd C t9.heap X9 v (.tup [.int (-it.1), .byt it.2]) → Q v t9 := fun v r => q t9 v ⟨k49, p9.ok, w9.anti fun b o e z => back b z⟩ (r.anti fun b o e z => back b z)
  rcases q9 with rfl | ⟨rfl, hd⟩
  · refine ex1_2 r9.rt fun v e r => ?_
    subst e
    exact fin v r
  · cases hd
end
end Mine
set_option maxHeartbeats 1000000
namespace Mine

section
variable {C : Cx} {n : Lv} {sc : Sc} {ρ ρ' : Rho} {env : Env} {X M X' M' fp : Addr → Prop} {s₀ s s' : Shared} {h h' h₂ : Heap} {x : Str} {A : Around} {E : Value → Shared → Prop}

structure CallGet (C : Cx) (n : Lv) (f : Addr) : Prop where
  fn : ∃ o fd, C.h₁.get? f = some o ∧ o.data = .func fd ∧ o.cls = .type "function"
  call : ∀ A X s a p it items (Q : Value → Shared → Prop) (E : Value → Shared → Prop), Sit C n A s → Xl X s.heap → X p → WlAt C s.heap X a p (it :: items) → C.h₁.get? p = none →
    (∀ s' v, WlNext C X s a p (popL (it :: items)) s' → Rd C s'.heap X v (.tup [.int (-it.1), .byt it.2]) → Q v s') → wpAny C.M A (call (.ref f) [.ref a]) Q E s

theorem H1_wlget {fi fa fg fr : Addr} {r : Str} {rp xp ap cp pos : Pos} {it : Itm} {l : List Itm} {Q : Fl → Rho → Prop} (W : WLF C fi fa fg fr) (ca : CallGet C n fg) (hx : ρ.get x = .wl (it :: l))
    (q : Q .next ((r, .val (.tup [.int (-it.1), .byt it.2])) :: (x, .wl (popL (it :: l))) :: ρ))
    (hk : isLoc (sc.scope.names.lookup r) = true := by rfl) (hf : (ρ.get r).capt = false := by rfl)
    (hcall : ∀ env, eval (.Call (.Attribute (.Name x xp) "get" ap) [] [] cp) env = (do
      let ov ← eval (.Name x xp) env
      standAt ap.atName
      let fx ← holding [ov] (getMethod ov "get" (plOf (.Name x xp) env))
      callWith cp fx.1 fx.2 (backTo cp (starEach [] env)) (backToKw cp (keywordEach [] env))) := by intro env; rfl)
    (hd : (x == ("__debug__" : Str)) = false := by decide) (hn : (x == ("__classdict__" : Str)) = false := by decide) :
    H1 C n sc ρ (.Assign [.Name r rp] (.Call (.Attribute (.Name x xp) "get" ap) [] [] cp) pos) Q := fun A env X M s S en m tp => by
  refine wpAny_Assign_Name (hs := rfl) ?_
  rw [hcall env]
  obtain ⟨a, p, lk, w, Mp, up⟩ := m.wl S.ok.t hx
  refine wpAny_bind (eval_name_eq m lk (wpAny_bind (wpAny_standAt (wpAny_bind (wpAny_holding (wl_meth W S.ok w W.get W.tg W.sg ?_))))) hd hn)
  refine ex2_3 ca.fn fun fo fd ef hfd hfc => ?_
  have nfo : NF fo := fun vs z => by rw [hfd] at z; cases z
  show wpAny C.M A (callWith cp (.ref fg) [.ref a] [] []) _ _ s
  refine Calls.callWith_function (o := fo) (fd := fd) (evalArgs_nil3 ⟨⟨S.ok.obj ef nfo (by rw [hfc]; simp) (by rw [hfc]; simp), hfd⟩, ?_⟩)
  refine ca.call A X s a p it l _ _ S m.xl (m.mx p Mp) w (m.alive p Mp).1 fun s2 v wn rv => ?_
  have m2 := up s2.heap _ wn.kq wn.ok.t wn.at_
  have hf2 : (Rho.get ((x, .wl (popL (it :: l))) :: ρ) r).capt = false := by
    rw [Rho.get_cons]; split
    · rfl
    · exact hf
  exact wpAny_put (N := fun _ => False) (X' := X) (M' := M) (oa := none) (sl := .val (.tup [.int (-it.1), .byt it.2])) wn.ok wn.ok m2 (fun _ _ => id) (kind_or en hk) (by simp) (by simp) (fun _ z => z.elim) hf2 ⟨rfl, rv⟩ (by simp) rfl fun s3 o3 m3 k3 =>
    ⟨.next, _, X, M, q, trivial, .of m3 ((wn.kq.mono fun b e => e ▸ Mp).trans k3) o3⟩
end
end Mine
set_option maxHeartbeats 200000
namespace Mine

section
variable {C : Cx} {env : Env} {ρ : Rho} {X M X' M' N : Addr → Prop} {h h₂ h₃ : Heap} {x : Str} {v : Value}
theorem Mod.put2 {sl : Slot} {oa : Option Addr} {b : Addr} (m : Mod C env ρ X M h) (T : TabOK C h) (T2 : TabOK C h₂) (k1 : Kp C C.h₁ h)
    (k02 : Kp C h h₂) (hX : ∀ a, X' a ↔ X a ∨ N a) (hM : ∀ a, M' a ↔ M a ∨ N a) (hN : ∀ a, N a → h.get? a = none ∧ ∃ o, h₂.get? a = some o ∧ NF o)
    (P : PutAt C env x v h₂ h₃ b) (hs : Heap.SameBut b h₂ h₃) (kb : ∀ o, h₂.get? b = some o → NF o → ∃ o', h₃.get? b = some o' ∧ o'.cls = o.cls ∧ NF o')
    (hf : (ρ.get x).capt = false) (hv : SlotV C env X' M' h₂ v sl oa) (ho : ∀ a, oa = some a → N a) (nf : sl.capt = false) :
    Mod C env ((x, sl) :: ρ) X' M' h₃ ∧ Kq C M h₂ h₃ ∧ M b := by
  have hMb : M b := by
    cases P with
    | loc => exact m.lm
    | cell k l _ _ => exact m.cellM _ _ k l hf
  have hMb' : M' b := (hM b).mpr (.inl hMb)
  have hMX : ∀ a, M' a → X' a := fun a q => (hX a).mpr (((hM a).mp q).elim (fun q => .inl (m.mx a q)) .inr)
  have nfb : ∀ o, h₂.get? b = some o → NF o := fun o e vs z => by
    cases P with
    | loc _ n _ => refine ex3_3 n fun o' es ep e2 hd _ => ?_; try clear n; rw [e] at e2; cases e2; rw [z] at hd; cases hd
    | cell _ _ e2 _ => obtain rfl := is_some e e2; cases z
  have kq : Kq C (fun a => a = b) h₂ h₃ := Kq.one (fun c hc o e => (hs.2 c hc).trans e) kb nfb rfl
  have back : ∀ a o, h.get? a = some o → X' a → X a := fun a o e q => ((hX a).mp q).elim id fun z => by exact no_some ((hN a z).1) e
  have live2 : ∀ a, X' a → ∃ o, h₂.get? a = some o := fun a q => ((hX a).mp q).elim (fun q => let ⟨o, e⟩ := m.live a q; k02.live (fun _ _ q => q.elim) T2 e) fun z => let ⟨_, o, e, _⟩ := hN a z; ⟨o, e⟩
  refine ex1_2 m.vars fun own q1 q2 => ?_
  have oldM : ∀ y a, own y = some a → M a := fun y a e => by
    have := q1 y
    rw [e] at this
    by_cases hu : ρ.get y = .unk
    · rw [hu] at this; cases this
    · refine ex1_2 (this.toV hu) fun v _ q => ?_; exact q.own_live.2.1
  have own2 : ∀ y u, ρ.get y ≠ .unk → SlotV C env X M h u (ρ.get y) (own y) → SlotV C env X' M' h₃ u (ρ.get y) (own y) := fun y u hu q => by
    have q'' : SlotV C env X' M' h₂ u (ρ.get y) (own y) := by
      have := q.anti (X' := X') (M' := M') back (fun a z => (hM a).mpr (.inl z))
      exact this.keep (K := fun _ => False) k02 (fun _ z => z.elim) T (fun _ _ => id) (fun _ => id)
    refine q''.keep kq (fun a e => e ▸ hMX b hMb') T2 (fun a e => ?_) (fun _ => id)
    rintro rfl
    rw [e] at q''
    refine ex0_4 q''.own_live fun _ _ n1 n2 => ?_
    cases P with
    | loc _ n _ => exact n2 _ n rfl
    | cell _ _ e _ => exact n1 _ e
  refine ⟨{ glob := m.glob, blt := m.blt, kind := m.kind, ns := ?_, lm := (hM _).mpr (.inl m.lm), mx := hMX, live := ?_, alive := ?_, cinj := fun y z c q hc => ((hM c).mp q).elim (fun q => m.cinj y z c q hc) (fun q => by refine ex1_1 (m.cells y c hc) fun w e => ?_; exact no_some ((hN c q).1) e), cells := ?_, cellM := ?_, hasc := m.hasc, cellX := ?_, vars := ?_ }, ?_, hMb⟩
  · cases P with
    | loc k n n' => exact ⟨_, n'⟩
    | cell k l e e' =>
      refine ex1_1 m.ns fun f hf2 => ?_
      refine ex3_3 (Ns_kq k02 T id hf2) fun o es ep e2 hd r => ?_
      refine ⟨f, o, es, ep, ?_, hd, r⟩
      rw [hs.2 _ ?_]
      · exact e2
      · intro e3
        have := e2
        rw [e3, e] at this; cases this; cases hd
  · intro a q
    refine ex1_1 (live2 a q) fun o e => ?_
    by_cases hab : a = b
    · subst hab
      have : NF o := by
        rcases (hM a).mp hMb' with z | z
        · refine ex0_2 (m.alive a z) fun _ zq1 => ?_; refine ex1_2 zq1 fun o2 e2 nf => ?_; try clear zq1
          refine ex1_3 (k02.kind a o2 e2 nf) fun o3 e3 _ nf3 => ?_
          obtain rfl := is_some e e3; exact nf3
        · refine ex0_2 (hN a z) fun _ zq2 => ?_; refine ex1_2 zq2 fun o2 e2 nf => ?_; try clear zq2; obtain rfl := is_some e e2; exact nf
      refine ex1_2 (kb o e this) fun o' e' _ => ?_; exact ⟨o', e'⟩
    · exact ⟨o, (hs.2 a hab).trans e⟩
  · intro a q
    have : C.h₁.get? a = none ∧ ∃ o, h₂.get? a = some o ∧ NF o := by
      rcases (hM a).mp q with z | z
      · refine ex0_2 (m.alive a z) fun z1 zq3 => ?_; refine ex1_2 zq3 fun o z2 z3 => ?_; try clear zq3; refine ex1_3 (k02.kind a o z2 z3) fun o' z4 _ z5 => ?_; exact ⟨z1, o', z4, z5⟩
      · refine ex0_2 (hN a z) fun z1 z2 => ?_; exact ⟨k1.dead T z1, z2⟩
    refine ex0_2 this fun z1 zq4 => ?_; try clear this; refine ex1_2 zq4 fun o z2 z3 => ?_; try clear zq4
    refine ⟨z1, ?_⟩
    by_cases hab : a = b
    · subst hab; refine ex1_3 (kb o z2 z3) fun o' e' _ n' => ?_; exact ⟨o', e', n'⟩
    · exact ⟨o, (hs.2 a hab).trans z2, z3⟩
  · intro y c hc
    refine ex1_1 (m.cells y c hc) fun w e => ?_
    have e := k02.exact id (T.notab e (by simp)) e (by simp)
    by_cases hcb : c = b
    · subst hcb
      cases P with
      | loc _ n _ =>
        refine ex3_3 n fun o es ep e2 hd _ => ?_; try clear n
        obtain rfl := is_some e e2; cases hd
      | cell _ _ _ e' => exact ⟨_, e'⟩
    · exact ⟨w, (hs.2 c hcb).trans e⟩
  · intro y c hy hc hf'
    rw [Rho.get_cons] at hf'
    refine (hM c).mpr (.inl (m.cellM y c hy hc ?_))
    by_cases hyx : y = x
    · subst hyx; exact hf
    · rw [if_neg hyx] at hf'; exact hf'
  · intro y c d hc hg
    rw [Rho.get_cons] at hg
    by_cases hyx : y = x
    · subst hyx; rw [if_pos rfl] at hg; subst hg; cases nf
    · rw [if_neg hyx] at hg
      intro z
      refine ex1_1 (m.cells y c hc) fun w e => ?_
      exact m.cellX y c d hc hg (back c _ e z)
  · refine ⟨fun y => if y = x then oa else own y, fun y => ?_, fun y z a => ?_⟩
    · rw [Rho.get_cons]
      show SlotOk C env X' M' h₃ y _ (if y = x then oa else own y)
      by_cases hyx : y = x
      · subst hyx
        rw [if_pos rfl, if_pos rfl]
        refine SlotV.ok P.look (hv.keep kq (fun a e => e ▸ hMX b hMb') T2 (fun a e => ?_) fun _ => id)
        rintro rfl
        rw [e] at hv
        refine ex0_4 hv.own_live fun _ _ n1 n2 => ?_
        cases P with
        | loc _ n _ => exact n2 _ n rfl
        | cell _ _ e _ => exact n1 _ e
      · rw [if_neg hyx, if_neg hyx]
        by_cases hu : ρ.get y = .unk
        · have := q1 y; rw [hu] at this ⊢; exact this
        · refine ex1_2 ((q1 y).toV hu) fun u l q => ?_
          have l2 : Look h₂ env y u := l.keep k02 T
          exact SlotV.ok (P.other hs.2 (fun x y => m.cinj x y b hMb) hyx l2) (own2 y u hu q)
    · show (if y = x then oa else own y) = some a → (if z = x then oa else own z) = some a → y = z
      by_cases hy : y = x <;> by_cases hz : z = x
      · intro _ _; rw [hy, hz]
      · rw [if_pos hy, if_neg hz]; intro e1 e2
        have e3 := (hN a (ho a e1)).1
        refine ex0_2 (m.alive a (oldM z a e2)) fun _ zq5 => ?_; refine ex1_2 zq5 fun o e4 _ => ?_; try clear zq5
        exact no_some e3 e4
      · rw [if_neg hy, if_pos hz]; intro e1 e2
        have e3 := (hN a (ho a e2)).1
        refine ex0_2 (m.alive a (oldM y a e1)) fun _ zq6 => ?_; refine ex1_2 zq6 fun o e4 _ => ?_; try clear zq6
        exact no_some e3 e4
      · rw [if_neg hy, if_neg hz]; exact q2 y z a
  · exact kq.mono fun a e => e ▸ hMb
end
section
variable {C : Cx} {n : Lv} {sc : Sc} {ρ ρ' : Rho} {env : Env} {X M X' M' N : Addr → Prop} {s₀ s s' : Shared} {h h' h₂ : Heap} {x : Str} {A : Around} {E : Value → Shared → Prop}
theorem wpAny_put2 {A : Around} {E : Value → Shared → Prop} {x : Str} {v : Value} {sl : Slot} {oa : Option Addr} {Q : Unit → Shared → Prop} (o0 : Ok C s₀) (o : Ok C s) (m : Mod C env ρ X M s₀.heap)
    (k02 : Kp C s₀.heap s.heap) (hk : env.kindOf x = some .local ∨ env.kindOf x = some .cell)
    (hX : ∀ a, X' a ↔ X a ∨ N a) (hM : ∀ a, M' a ↔ M a ∨ N a) (hN : ∀ a, N a → s₀.heap.get? a = none ∧ ∃ o, s.heap.get? a = some o ∧ NF o)
    (hf : (ρ.get x).capt = false) (hv : SlotV C env X' M' s.heap v sl oa) (ho : ∀ a, oa = some a → N a) (nf : sl.capt = false)
    (q : ∀ s', Ok C s' → Mod C env ((x, sl) :: ρ) X' M' s'.heap → Kq C M s.heap s'.heap → Q () s') : wpAny C.M A (storeName env x v) Q E s := by
  have key : ∀ (b : Addr) (h' : Heap) (t : Nat), PutAt C env x v s.heap h' b → Heap.SameBut b s.heap h' → (∀ o, s.heap.get? b = some o → NF o → ∃ o', h'.get? b = some o' ∧ o'.cls = o.cls ∧ NF o') → M b → Q () { s with heap := h', toks := t } := fun b h' t P hs kb hb => by
    refine ex0_3 (m.put2 o0.t o.t o0.k k02 hX hM hN P hs kb hf hv ho nf) fun m' kq _ => ?_
    refine ex0_2 (m.alive b hb) fun z1 zq7 => ?_; refine ex1_2 zq7 fun ob z2 z3 => ?_; try clear zq7
    refine q _ (o.touch hs kb z1 fun o' e => ?_) m' kq
    refine ex1_3 (k02.kind b ob z2 z3) fun o3 e3 _ nf3 => ?_; obtain rfl := is_some e e3; exact nf3
  rcases hk with hk | hk
  · refine ex1_1 m.ns fun mm hn => ?_
    have hn : s.heap.Ns env.locals mm := Ns_kq k02 o0.t id hn
    rw [storeName_local hk (by rw [m.kind]; rfl)]
    exact wpAny_nsSet2 hn fun h' hn' hs kb => key _ h' _ (.loc hk hn hn') hs kb m.lm
  · refine ex1_1 (m.hasc x hk) fun c hc => ?_
    refine ex1_1 (m.cells x c hc) fun w e => ?_
    have e := k02.exact id (o0.t.notab e (by simp)) e (by simp)
    refine wpAny_storeCell m.kind hk hc e fun h' e' hs => key c h' s.toks (.cell hk hc e e') hs (fun o e2 nf => ?_) (m.cellM x c hk hc hf)
    obtain rfl := is_some e e2
    exact ⟨_, e', rfl, fun _ z => by cases z⟩

end
end Mine
set_option maxHeartbeats 4000000
namespace Mine

section
variable {C : Cx} {n : Lv} {sc : Sc} {ρ ρ' : Rho} {env : Env} {X M X' M' fp : Addr → Prop} {s₀ s s' : Shared} {h h' h₂ : Heap} {x : Str} {A : Around} {E : Value → Shared → Prop}

theorem fn_code {name qual : Str} {params : Arguments} {body : List Stmt} {scope : Scope} {cl : List (Str × Addr)} {dV kV doc pm ct : Value} {an : Option Addr} {f c : Addr} {args : Args} {binds : List (Str × Value)} {ds : List (Str × D)} {cp : Option (Addr × Addr)} {R : Result → Shared → Prop}
    (S : Sit C n.up A s) (hX : Xl X s.heap) (ho : s.heap.get? f = some { cls := .type "function", data := .func (fnX name qual params body scope cl dV kV doc pm an (.ref c) ct) }) (hcd : s.heap.CodeRec (.ref c) qual)
    (hbind : BindsTo s (fnX name qual params body scope cl dV kV doc pm an (.ref c) ct) args binds) (hr : RdK C s.heap X cl ρ) (hcl : clOk scope.names ρ = true) (hb : RdB C s.heap X binds ds) (hbs : bindsOk scope.names ρ ds = true)
    (hcode : ∀ c' P, cp = some (c', P) → c' = c ∧ c ∉ tabs ∧ P ∈ tabs ∧ CodeHd C.h₁ c P) (hk : scope.kind = .function) (hco : scope.isCoroutine = false) (hgen : scope.isGenerator = false)
    (hbody : ∀ env X2 M2 s2, Sit C n (A.deeper env) s2 → EnvIs C ⟨scope, qual ++ ".<locals>.", cp⟩ env → Mod C env (bindsRho ρ ds) X2 M2 s2.heap → Top (A.deeper env) env → Kp C s.heap s2.heap → (∀ a, X a → X2 a) → (∀ a, X2 a → X a ∨ s.heap.get? a = none) → (∀ a, M2 a → s.heap.get? a = none) →
      wpAny C.M (A.deeper env) (execs body env) (fun f s' => R (.ok (.ret (match f with | .ret v => v | _ => .none))) s') (fun _ _ => False) s2) : codeAny C.M A (.call (.ref f) args) R s := by
  refine codeAny_call_function (by have := S.dp; have : recursionLimit = 1000 := rfl; lia) ho rfl hco hgen rfl hcd (hbind _ _ _ _ ?_)
  refine wpAny_newEnv S.ok hX hk hr hcl hb hbs fun new s2 o2 m2 k2 dead zq2 => ex1_3 zq2 fun fo e2 c2 nf2 => ⟨o2.nolim, codeAny_func ?_⟩
  generalize henv : newEnv scope s.heap.objs.size mainGlobals (cellsFrom (s.heap.objs.size + 1) scope.names cl) (qual ++ ".<locals>.") (some f) (.ref c) none builtinsNs = env at m2
  have een : EnvIs C ⟨scope, qual ++ ".<locals>.", cp⟩ env := by
    rw [← henv]
    exact ⟨rfl, rfl, fun c' P h => by refine ex0_4 (hcode c' P h) fun zq1 h2 h3 h4 => ?_; subst zq1; exact ⟨rfl, h2, h3, h4⟩⟩
  have dL : C.h₁.get? s.heap.objs.size = none := S.ok.k.dead S.ok.t dead_size
  have S2 : Sit C n (A.deeper env) s2 := by
    refine ⟨S.hd, fun z => (S.hx z).keep k2 S.ok.t fun _ q => q.elim, by have := S.dp; show A.depth + 1 + 10 * n.k ≤ 900; dsimp at this; lia, by have := S.un; show A.units + 3 + 100 * n.k ≤ 9000; dsimp at this; lia, ?_, o2⟩
    refine ex1_2 (S.fr.keep (Kq.of_kp (M := fun _ => False) k2)) fun l hl q => ?_
    refine ⟨env :: l, by show A.frames.map (env :: ·) = _; rw [hl]; rfl, fun env' he => ?_⟩
    rcases List.mem_cons.mp he with rfl | he
    · rw [← henv]; exact ⟨by show scope.kind ≠ _; rw [hk]; simp, _, fo, rfl, dL, e2, c2, nf2⟩
    · exact q env' he
  have tp : Top (A.deeper env) env := by
    refine ex1_2 S.fr fun l hl _ => ?_
    refine ⟨l, s.heap.objs.size, by show A.frames.map (env :: ·) = _; rw [hl]; rfl, by rw [← henv]; rfl⟩
  exact wp_false (hbody env _ _ s2 S2 een m2 tp k2 (fun a z => .inl z) (fun a z => z.imp id (dead a)) dead) fun f s' q => q


theorem typeCall_weight (c : Addr) (l : List Value) (kw : List (Str × Value)) : (Code.builtin "type.__call__" ⟨.ref c :: l, kw⟩).weight = 1 := by kernel_rfl
theorem typeCall_envs (c : Addr) (l : List Value) (kw : List (Str × Value)) : (Code.builtin "type.__call__" ⟨.ref c :: l, kw⟩).envs = [] := by kernel_rfl
theorem typeCall_units (c : Addr) (l : List Value) (kw : List (Str × Value)) : (Code.builtin "type.__call__" ⟨.ref c :: l, kw⟩).cUnits = 1 := by kernel_rfl

theorem Sit.made {c : Addr} {l : List Value} {kw : List (Str × Value)} (S : Sit C n.up A s) : Sit C n (A.under (.builtin "type.__call__" ⟨.ref c :: l, kw⟩)) s := by
  refine ⟨S.hd, S.hx, ?_, ?_, ?_, S.ok⟩
  · have := S.dp; show A.depth + _ + 10 * n.k ≤ 900; rw [typeCall_weight]; dsimp at this; lia
  · have := S.un; show A.units + _ + 100 * n.k ≤ 9000; rw [typeCall_units]; dsimp at this; lia
  · have := S.fr
    have e : (A.under (.builtin "type.__call__" ⟨.ref c :: l, kw⟩)).frames = A.frames := by
      simp only [Around.under, typeCall_envs]; rfl
    refine ex1_2 this fun l h q => ?_; try clear this
    exact ⟨l, e.trans h, q⟩

structure WlMade (C : Cx) (X : Addr → Prop) (s : Shared) (a p : Addr) (s' : Shared) : Prop where
  k : Kp C s.heap s'.heap
  ok : Ok C s'
  at_ : WlAt C s'.heap (fun b => X b ∨ b = p) a p []
  new : s.heap.get? p = none
  live : ∃ o, s'.heap.get? p = some o ∧ NF o

theorem store_pq {fi fa fg fr a dx : Addr} {v : Value} {Q : Unit → Shared → Prop} (W : WLF C fi fa fg fr) (o : Ok C s) (e1 : s.heap.get? a = some (instObj C.wlC dx)) (e2 : s.heap.get? dx = some emptyDict)
    (q : ∀ h' hk tk k, Heap.SameBut dx s.heap h' → h'.get? dx = some (dictO [⟨hk, .str (Str.ofString "pq") tk, v⟩] k) → hk = PyData.keyHash C.w.params (Str.ofString "pq") → Q () { s with heap := h', toks := s.toks + 2 }) :
    wpAny C.M A (setAttr (.ref a) "pq" v) Q E s := by
  have I : InstAt s.heap a (instObj C.wlC dx) C.wlC (some emptyDict) := ⟨e1, rfl, rfl, e2⟩
  have n1 : Nx C s { s with toks := s.toks + 1 } := .tok o
  refine set_plain o.frag I W.set (osa_open (s := { s with toks := s.toks + 1 }) n1.ok.frag I W.over W.taker fun b => ?_)
  refine ex1_2 (any_some W.hasd) fun cd hc hd' => ?_
  refine wpAny_bind (wpAny_pure (wpAny_bind (wpAny_bind (wpAny_loadPart (s := { s with toks := s.toks + 1 }) e1 (wpAny_bind ((looks_clsIn n1.ok.frag hc).here ?_))))))
  rw [hd']
  refine wpAny_pure (a := some dx) (wpAny_bind (wpAny_pure (wpAny_bind ?_)))
  unfold nsSet
  refine wpAny_bind (wpAny_bind (wpAny_askSetting (wpAny_pure (wpAny_bind (wpAny_mkText (wpAny_bind (wpAny_loadPart e2 ?_)))))))
  dsimp only
  have c : (!(#[] : Array DictEntry).any (·.key.isStr (Str.ofString "pq")) && (#[] : Array DictEntry).any (·.refKey)) = false := by simp
  rw [aRefKeyMayBeTheName_at, c]
  refine wpAny_updatePart (s := { s with toks := s.toks + 1 + 1 }) e2 ?_
  have U := Heap.SameBut.update s.heap dx (Obj.putName (Str.ofString "pq") (PyData.keyHash C.w.params (Str.ofString "pq")) (.str (Str.ofString "pq") (s.toks + 1)) v)
  have D' : (s.heap.update dx (Obj.putName (Str.ofString "pq") (PyData.keyHash C.w.params (Str.ofString "pq")) (.str (Str.ofString "pq") (s.toks + 1)) v)).get? dx = some (dictO [⟨PyData.keyHash C.w.params (Str.ofString "pq"), .str (Str.ofString "pq") (s.toks + 1), v⟩] 1) := by
    rw [Heap.get?_update_self _ e2 (by rfl)]; rfl
  refine wpAny_bind (wpAny_lookBehind D' (pastItsLine_dict (by rw [sizeLine_eq]; show 1 ≤ _; decide)) ?_)
  exact wpAny_pure (q _ _ _ _ U D' rfl)

theorem call_mkwl {fi fa fg fr c : Addr} {qual : Str} {params : Arguments} {scope : Scope} {dV kV doc pm ct : Value} {an : Option Addr} {p1 p2 p3 p4 : Pos} {Q : Value → Shared → Prop}
    (W : WLF C fi fa fg fr) (S : Sit C n.up.up A s) (hX : Xl X s.heap)
    (ho : s.heap.get? fi = some { cls := .type "function", data := .func (fnX "__init__" qual params [.Assign [.Attribute (.Name "self" p1) "pq" p2] (.List [] p3) p4] scope [] dV kV doc pm an (.ref c) ct) }) (hcd : s.heap.CodeRec (.ref c) qual)
    (hbind : ∀ u, bindArgs (fnX "__init__" qual params [.Assign [.Attribute (.Name "self" p1) "pq" p2] (.List [] p3) p4] scope [] dV kV doc pm an (.ref c) ct) ⟨[u], []⟩ = pure [((Str.ofString "self"), u)])
    (hsc : scope.names.lookup ("self" : Str) = some .local) (hk : scope.kind = .function) (hco : scope.isCoroutine = false) (hgen : scope.isGenerator = false)
    (q : ∀ s' a p, WlMade C X s a p s' → Q (.ref a) s') : wpAny C.M A (call (.ref C.wlC) [] []) Q E s := by
  obtain ⟨hh, g, d, t, os⟩ := s
  refine wpAny_call (make_core (makes_of S.ok.frag W.made) (looks_findIn S.ok.frag W.init) (fun self => bind_fn S.ok.frag self W.ti) (.inl rfl) ?_)
  have ex : ∀ b o, hh.get? b = some o → ((hh.push emptyDict).push (instObj C.wlC hh.objs.size)).get? b = some o := fun b o e => Heap.get?_push_of_some _ (Heap.get?_push_of_some _ e)
  have n1 : Nx C ⟨hh, g, d, t, os⟩ ⟨(hh.push emptyDict).push (instObj C.wlC hh.objs.size), g, d, t, os⟩ := Nx.keeps' (s := ⟨hh, g, d, t, os⟩) S.ok ex
  have ea : ((hh.push emptyDict).push (instObj C.wlC hh.objs.size)).get? (hh.objs.size + 1) = some (instObj C.wlC hh.objs.size) := by heap_get
  have ed : ((hh.push emptyDict).push (instObj C.wlC hh.objs.size)).get? hh.objs.size = some emptyDict := by heap_get
  have da : hh.get? (hh.objs.size + 1) = none := by
    cases e : hh.get? (hh.objs.size + 1) with
    | none => rfl
    | some o => exact absurd (Heap.lt_size e) (Nat.not_lt.mpr (Nat.le_succ _))
  have dd : hh.get? hh.objs.size = none := dead_size (s := ⟨hh, g, d, t, os⟩)
  refine fn_code (X := X) (args := ⟨[.ref (hh.objs.size + 1)], []⟩) (ds := [("self", .adr (hh.objs.size + 1))]) (ρ := []) (cp := none) (Sit.next S.made n1) (hX.nx n1) (ex _ _ ho) (hcd.keeps ex) (.of_eq (hbind _)) .nil (by simp [clOk, List.all_eq_true, Rho.get, Slot.isUnk]) (.cons (.adr _) .nil)
    (by simp [bindsOk, hsc, isLoc]; decide) (fun _ _ z => by cases z) hk hco hgen fun env X2 M2 t2 S2 en m2 tp kk2 hX2 hX2' hM2 => ?_
  refine wpAny_execs_cons (plainObj_wpAny_Assign_Attribute ?_ rfl)
  refine List_ (args_nil (wpAny_newList ?_ (big_line (by decide))))
  have n3 : Nx C t2 { t2 with heap := t2.heap.push { cls := .type "list", data := .seq ([] : List Value).toArray } } := Nx.keeps' S2.ok (push_keeps _)
  have ep : (t2.heap.push { cls := .type "list", data := .seq ([] : List Value).toArray }).get? t2.heap.objs.size = some (seqO "list" [] 0) := Heap.get?_push_size _ rfl
  have ev : Ev C n ⟨scope, qual ++ ".<locals>.", none⟩ (bindsRho [] [("self", .adr (hh.objs.size + 1))]) (.Name "self" p1) (.adr (hh.objs.size + 1)) := Ev_name rfl
  refine wp_false (ev _ env X2 M2 _ (S2.next n3) en (m2.nx n3 S2.ok)) fun u t4 zq3 => ex0_2 zq3 fun n4 r4 => ?_
  cases r4.i_adr
  have kx : ∀ {k k' : Heap} {b : Addr} {o : Obj}, Kp C k k' → TabOK C k → k.get? b = some o → o.cls ≠ .type "frame" → o.cls ≠ .none → k'.get? b = some o := fun {k k' b o} K T e c1 c2 => K.exact id (T.notab e c2) e c1
  have ea4 : t4.heap.get? (hh.objs.size + 1) = some (instObj C.wlC hh.objs.size) := kx ((kk2.trans n3.k).trans n4.k) n1.ok.t ea (by simp) (by simp)
  have ed4 : t4.heap.get? hh.objs.size = some emptyDict := kx ((kk2.trans n3.k).trans n4.k) n1.ok.t ed (by simp) (by simp)
  have ep4 : t4.heap.get? t2.heap.objs.size = some (seqO "list" [] 0) := kx n4.k n3.ok.t ep (by simp) (by simp)
  have ed2 : t2.heap.get? hh.objs.size = some emptyDict := kx kk2 n1.ok.t ed (by simp) (by simp)
  have ea2 : t2.heap.get? (hh.objs.size + 1) = some (instObj C.wlC hh.objs.size) := kx kk2 n1.ok.t ea (by simp) (by simp)
  have pa : t2.heap.objs.size ≠ hh.objs.size + 1 := fun z => absurd (Heap.lt_size ea2) (by rw [z]; exact Nat.lt_irrefl _)
  have pd : t2.heap.objs.size ≠ hh.objs.size := fun z => absurd (Heap.lt_size ed2) (by rw [z]; exact Nat.lt_irrefl _)
  refine store_pq W n4.ok ea4 ed4 fun h' hk' tk k U D hhk => wpAny_execs_nil ⟨rfl, q _ _ t2.heap.objs.size ?_⟩
  have kb : ∀ o, t4.heap.get? hh.objs.size = some o → NF o → ∃ o', h'.get? hh.objs.size = some o' ∧ o'.cls = o.cls ∧ NF o' := fun o e _ => by
    obtain rfl := is_some ed4 e; exact ⟨_, D, rfl, fun _ z => by cases z⟩
  have nf : ∀ o, t4.heap.get? hh.objs.size = some o → NF o := fun o e => by obtain rfl := is_some ed4 e; exact fun _ z => by cases z
  have kq : Kq C (fun b => b = hh.objs.size) t4.heap h' := Kq.one (fun c hc o e => (U.2 c hc).trans e) kb nf rfl
  have k4 : Kp C hh t4.heap := ((n1.k.trans kk2).trans n3.k).trans n4.k
  have hp : h'.get? t2.heap.objs.size = some (seqO "list" [] 0) := (U.2 _ pd).trans ep4
  refine ⟨k4.trans' kq (fun b o e z => by subst z; exact no_some dd e), n4.ok.touch U kb (S.ok.k.dead S.ok.t dd) nf, ?_, ?_, ⟨_, hp, fun _ z => by cases z⟩⟩
  · refine ⟨hh.objs.size, _, _, _, [], fun z => z.elim (fun z => ?_) (fun z => pa z.symm), fun z => z.elim (fun z => ?_) (fun z => pd z.symm), (U.2 _ (Nat.succ_ne_self _)).trans ea4, D, ⟨_, _, rfl, hhk⟩, hp, Nat.zero_le _, .nil⟩
    · refine ex1_1 (hX _ z) fun o e => ?_; exact no_some da e
    · refine ex1_1 (hX _ z) fun o e => ?_; exact no_some dd e
  · cases e : hh.get? t2.heap.objs.size with
    | none => rfl
    | some o =>
      refine ex1_1 ((n1.k.trans kk2).live (fun _ _ q => q.elim) S2.ok.t e) fun o' e' => ?_
      exact absurd (Heap.lt_size e') (Nat.lt_irrefl _)
end
end Mine
set_option maxHeartbeats 1000000
namespace Mine

section
variable {C : Cx} {n : Lv} {sc : Sc} {ρ ρ' : Rho} {env : Env} {X M X' M' fp : Addr → Prop} {s₀ s s' : Shared} {h h' h₂ : Heap} {x : Str} {A : Around} {E : Value → Shared → Prop}

structure CallMk (C : Cx) (n : Lv) : Prop where
  keep : keepIn C.K (.ref C.wlC) = true
  call : ∀ A X s (Q : Value → Shared → Prop) (E : Value → Shared → Prop), Sit C n A s → Xl X s.heap → (∀ s' a p, WlMade C X s a p s' → Q (.ref a) s') → wpAny C.M A (call (.ref C.wlC) [] []) Q E s

theorem H1_mkwl {cn : Str} {xp np cp pos : Pos} {Q : Fl → Rho → Prop} (ca : CallMk C n) (hg : C.mg cn = some (.ref C.wlC)) (q : Q .next ((x, .wl []) :: ρ))
    (hc : sc.scope.names.lookup cn = some .globalImplicit := by rfl) (hk : isLoc (sc.scope.names.lookup x) = true := by rfl) (hf : (ρ.get x).capt = false := by rfl) (hd : (cn == ("__debug__" : Str)) = false := by decide) :
    H1 C n sc ρ (.Assign [.Name x xp] (.Call (.Name cn np) [] [] cp) pos) Q := fun A env X M s S en m tp => by
  refine wpAny_Assign_Name (hs := rfl) ?_
  refine Call_ (Name_function_global m.kind (names_loc en hc) (loadGlobal_global (mg := C.mg) (by rw [m.glob]; exact S.ok.glob C.nsG (by decide)) hg ?_) hd)
  refine callWith_K0 S.ok.frag ca.keep ?_
  refine ca.call A X s _ _ S m.xl fun s1 a p w => ?_
  refine wpAny_put2 (X' := fun b => X b ∨ b = p) (M' := fun b => M b ∨ b = p) (N := fun b => b = p) (oa := some p) (sl := .wl []) S.ok w.ok m w.k (kind_or en hk) (fun _ => Iff.rfl) (fun _ => Iff.rfl)
    (fun b z => by subst z; exact ⟨w.new, w.live⟩) hf ⟨a, p, rfl, rfl, w.at_, .inr rfl⟩ (fun b z => by cases z; rfl) rfl fun s2 o2 m2 k2 => ⟨.next, _, _, _, q, trivial, m2, (Kq.of_kp w.k).trans k2, o2, fun b z _ => .inl z, fun b z => z.elim .inl fun z => .inr ?_, fun b z => z.elim .inl fun z => .inr ?_⟩
  · subst z; exact w.new
  · subst z; exact w.new
end
end Mine
namespace Mine

section
variable {C : Cx} {n : Lv} {sc : Sc} {ρ ρ' : Rho} {env : Env} {X M X' M' fp : Addr → Prop} {s₀ s s' : Shared} {h h' h₂ : Heap} {x : Str} {A : Around} {E : Value → Shared → Prop}

theorem Ev_dget {ek ed : Expr} {xp ap cp : Pos} {kvs : List (Array UInt8 × D)} {k : Array UInt8} {d d' : D} (h1 : Ev C n sc ρ (.Name x xp) (.dict kvs)) (h2 : Ev C n sc ρ ek (.byt k)) (h3 : Ev C n sc ρ ed d)
    (hd : (kvs.lookup k).getD d = d') (hline : (ap.endLine == cp.line) = true := by decide) (htrees : ∀ env, backTo cp (starEach [ek, ed] env) = [(false, eval ek env), (false, eval ed env)] := by intro env; rfl) :
    Ev C n sc ρ (.Call (.Attribute (.Name x xp) "get" ap) [ek, ed] [] cp) d' := fun A env X M s S e m => by
  refine wpAny_Call_method2_late rfl hline (htrees env) (wp_false (h1 A env X M s S e m) fun o s1 zq1 => ex0_2 zq1 fun n1 r1 => ?_)
  have r1' := r1
  cases r1.i_dict with
  | @mk a es _ xa na ea za rl =>
    refine ⟨"dict", "dict.get", F.plainAttrs_dict, F.slot_dict_get, F.type_dict_get, (rl.map ea).typeIs, fun b e => by cases e; exact ⟨_, ea, rfl⟩, ?_⟩
    refine wpAny_dict_get2 (knd := bytesKind C.prog C.w) na (wp_false (h2 A env X M s1 (S.next n1) e (m.nx n1 S.ok)) fun kv s2 zq2 => ex0_2 zq2 fun n2 r2 => wp_false (h3 A env X M s2 ((S.next n1).next n2) e ((m.nx n1 S.ok).nx n2 n1.ok)) fun dv s3 zq3 => ex0_2 zq3 fun n3 r3 => ?_)
    have r3' := (r1'.nx n2 n1.ok).nx n3 n2.ok
    cases r2.i_byt with
    | mk t =>
    cases r3'.i_dict with
    | @mk _ es3 _ xa3 na3 ea3 za3 rl3 =>
      refine ⟨k, _, isB_self k t, rl3.map ea3, ((n1.trans n2).trans n3).trans (.tok n3.ok), ?_⟩
      subst hd
      rcases rl3.find (k := k) with ⟨q, q'⟩ | ⟨d', e', q1, q2, q3⟩
      · rw [findBy_list, q, q']; exact r3
      · rw [findBy_list, q1, q2]; exact q3
end
end Mine
namespace Mine

section
variable {C : Cx} {n : Lv} {sc : Sc} {ρ ρ' : Rho} {env : Env} {X M X' M' fp : Addr → Prop} {s₀ s s' : Shared} {h h' h₂ : Heap} {x : Str} {A : Around} {E : Value → Shared → Prop}

theorem main_any {Q : Bool → Shared → Prop} (o : Ok C s) (hc : kdsCode C.K env.code = true) (h : ∀ b, Q b s) : wpAny C.M A (inMainModule env) Q E s := kds_main o.frag hc h

theorem Ev_set1 {e : Expr} {pos : Pos} {b : Array UInt8} (h1 : Ev C n sc ρ e (.byt b)) (hc : ∀ env, EnvIs C sc env → kdsCode C.K env.code = true) (hp : [e].all kdsPlain = true := by rfl) : Ev C n sc ρ (.Set [e] 0 pos) (.set 1) := fun A env X M s S en m => by
  rw [arm_eval_Set]
  refine wpAny_bind (wpAny_standAt (wpAny_bind (main_any S.ok (hc env en) fun bb => ?_)))
  rw [kds_star [e] hp, List.map_map]
  refine kds_core (ts := (evalEach [e] env).map fun t => do let v ← t; standAt pos; pure v) (by rfl) ?_ ?_ ?_ fun led => ?_
  · refine List.findIdx?_eq_none_iff.mpr fun x hx => ?_
    refine ex1_2 (List.mem_map.mp hx) fun t _ zq1 => ?_; subst zq1
    rfl
  · rw [List.length_map, kds_len]; show 1 ≤ 30; decide
  · rw [List.map_map]; try rfl
  · have n1 : Nx C s { s with heap := s.heap.push { cls := .type "set", dict := none, data := .set #[] 0 (.fresh 0 0 led) } } := Nx.keeps' S.ok (push_keeps _)
    have at1 : (s.heap.push { cls := .type "set", dict := none, data := .set #[] 0 (.fresh 0 0 led) }).get? s.heap.objs.size = some { cls := .type "set", dict := none, data := .set #[] 0 (.fresh 0 0 led) } := Heap.get?_push_size _ rfl
    refine kds_all pos [e] _ _ ?_
    show wpAny C.M A (eval e env) _ _ _
    refine wp_false (h1 A env X M _ (S.next n1) en (m.nx n1 S.ok)) fun v s2 zq2 => ex0_2 zq2 fun n2 r2 => ?_
    cases r2.i_byt with
    | mk t =>
    have at2 : s2.heap.get? s.heap.objs.size = some { cls := .type "set", dict := none, data := .set #[] 0 (.fresh 0 0 led) } := n2.k.exact id (n1.ok.t.notab at1 (by simp)) at1 (by simp)
    refine kds_fill_cons ?_
    unfold setAdd
    refine wpAny_holding (wpAny_bind ((bytesKind C.prog C.w).pyHash (k := b) (isB_self b t) ?_))
    refine wpAny_setAddHashed_of (knd := bytesKind C.prog C.w) (s := { s2 with toks := s2.toks + 1 }) (S := fun _ => false) (n := 0) (isB_self b t) rfl ⟨_, _, _, _, at2, ⟨rfl, rfl, rfl⟩, rfl, fun e he => by simp at he, fun k => by simp, by decide, rfl, rfl⟩ (by decide) fun h' hs hS => ?_
    refine kds_fill_nil rfl ?_
    refine ex4_8 hS fun o es ep tb ho hex hd hel hmem hb hf hn => ?_; try clear hS
    have dd : s.heap.get? s.heap.objs.size = none := dead_size
    have kb : ∀ o, s2.heap.get? s.heap.objs.size = some o → NF o → ∃ o', h'.get? s.heap.objs.size = some o' ∧ o'.cls = o.cls ∧ NF o' := fun o2 e _ => by
      obtain rfl := is_some at2 e; exact ⟨o, ho, hex.1, fun _ z => by rw [hd] at z; cases z⟩
    have nf : ∀ o, s2.heap.get? s.heap.objs.size = some o → NF o := fun o e => by obtain rfl := is_some at2 e; exact fun _ z => by cases z
    have kq : Kq C (fun a => a = s.heap.objs.size) s2.heap h' := Kq.one (fun c hc o e => (hs.2 c hc).trans e) kb nf rfl
    refine ⟨⟨(n1.k.trans n2.k).trans' kq (fun a o e z => by subst z; exact no_some dd e), n2.ok.touch hs kb (S.ok.k.dead S.ok.t dd) nf⟩, ?_⟩
    exact .set m.xl.fresh ho hex hd hf (by rw [hn]; rfl) (by decide)
end
end Mine
namespace Mine

section
variable {C : Cx} {n : Lv} {sc : Sc} {ρ ρ' : Rho} {env : Env} {X M X' M' fp : Addr → Prop} {s₀ s s' : Shared} {h h' h₂ : Heap} {x : Str} {A : Around} {E : Value → Shared → Prop}

noncomputable def Kl (C : Cx) (n : Lv) (sc : Sc) (ρ : Rho) (kws : List Keyword) (ds : List D) : Prop :=
  ∀ A env X M s pos, Sit C n A s → EnvIs C sc env → Mod C env ρ X M s.heap →
    wpAny C.M A (evalAll ((backToKw pos (keywordEach kws env)).map (·.2))) (fun ks s' => Nx C s s' ∧ RdL C s'.heap X ks ds) (fun _ _ => False) s
theorem Kl_nil : Kl C n sc ρ [] [] := fun A env X M s pos S e m => kwAll_nil ⟨.refl S.ok, .nil⟩
theorem Kl_cons {p : Pos} {name : Str} {value : Expr} {rest : List Keyword} {d : D} {ds : List D} (h1 : Ev C n sc ρ value d) (h2 : Kl C n sc ρ rest ds) : Kl C n sc ρ (⟨some name, value, p⟩ :: rest) (d :: ds) := fun A env X M s pos S e m =>
  kwAll_cons (wp_false (h1 A env X M s S e m) fun v s1 zq1 => ex0_2 zq1 fun n1 r1 => wp_false (h2 A env X M s1 pos (S.next n1) e (m.nx n1 S.ok)) fun ks s2 zq2 => ex0_2 zq2 fun n2 r2 => ⟨n1.trans n2, .cons (r1.nx n2 n1.ok) r2⟩)

noncomputable def CallN (C : Cx) (n : Lv) (f : Value) (kn : List Str) (ds ks : List D) (d : D) : Prop :=
  ∀ A X s vs us, Sit C n A s → Xl X s.heap → RdL C s.heap X vs ds → RdL C s.heap X us ks → wpAny C.M A (call f vs (kn.zip us)) (fun v s' => Nx C s s' ∧ Rd C s'.heap X v d) (fun _ _ => False) s

theorem Ev_calln {f : Addr} {x : Str} {np pos : Pos} {e : Expr} {rest : List Expr} {kws : List Keyword} {kn : List Str} {ds ks : List D} {d : D} {name qual : Str} {params : Arguments} {body : List Stmt} {scope : Scope} {dV : Value} {cp : Option (Addr × Addr)}
    (g : GFn C f x qual params body scope dV cp) (he : El C n sc ρ (e :: rest) ds) (hkl : Kl C n sc ρ kws ks) (hc : CallN C n (.ref f) kn ds ks d)
    (hkn : ∀ env pos, (backToKw pos (keywordEach kws env)).filterMap (·.1) = kn := by intro _ _; rfl) (hall : ∀ env pos, (backToKw pos (keywordEach kws env)).all (·.1.isSome) = true := by intro _ _; rfl)
    (hk : sc.scope.names.lookup x = some .globalImplicit := by rfl) (hd : (x == ("__debug__" : Str)) = false := by decide)
    (h1 : ∀ env, starEach (e :: rest) env = (false, eval e env) :: starEach rest env := by intro env; rfl)
    (h3 : ∀ env, eval (.Call (.Name x np) (e :: rest) kws pos) env = (do callWith pos (← eval (.Name x np) env) [] (backTo pos (starEach (e :: rest) env)) (backToKw pos (keywordEach kws env))) := by intro env; rfl) : Ev C n sc ρ (.Call (.Name x np) (e :: rest) kws pos) d := fun A env X M s S en m => by
  refine ex6_4 g.code fun c doc pm an ct kV e0 cr nt hcp => ?_
  rw [h3 env]
  refine wpAny_bind (Name_function_global m.kind (names_loc en hk) (loadGlobal_global (mg := C.mg) (by rw [m.glob]; exact S.ok.glob C.nsG (by decide)) g.glob ?_) hd)
  refine callWith_def_kw (o := { cls := .type "function", data := .func (fnX x qual params body scope [] dV kV doc pm an (.ref c) ct) }) rfl ?_
  refine evalArgs_kw2 (he := h1 env) (hall env pos) ?_
  refine wp_false (he A env X M s pos S en m) fun vs s1 zq3 => ex0_2 zq3 fun n1 r1 => ?_
  refine wp_false (hkl A env X M s1 pos (S.next n1) en (m.nx n1 S.ok)) fun us s2 zq4 => ex0_2 zq4 fun n2 r2 => ?_
  rw [hkn]
  refine ⟨n2.ok.obj e0 (fun _ z => by cases z) (by simp) (by simp), wp_false (hc A X s2 vs us ((S.next n1).next n2) ((m.nx n1 S.ok).nx n2 n1.ok).xl (r1.nx n2 n1.ok) r2) fun v s3 zq5 => ex0_2 zq5 fun n3 r3 => ⟨(n1.trans n2).trans n3, r3⟩⟩
end
end Mine
namespace Mine

section
variable {C : Cx} {n : Lv}

theorem CallN_fn {f T : Addr} {vals : List Value} {nn : Nat} {name qual : Str} {params : Arguments} {body : List Stmt} {scope : Scope} {cp : Option (Addr × Addr)} {kn : List Str} {ds ks : List D} {bds : List (Str × D)} {d : D}
    (bf : List Value → List Value → List (Str × Value)) (g : GFn C f name qual params body scope (.ref T) cp) (hT : C.h₁.get? T = some (seqO "tuple" vals nn))
    (hbind : ∀ {kV doc pm ct an c vs us}, vs.length = ds.length → us.length = ks.length → ∃ k, bindArgs (fnX name qual params body scope [] (.ref T) kV doc pm an c ct) ⟨vs, kn.zip us⟩ = seqItems? (.ref T) >>= k ∧ k (some vals.toArray) = pure (bf vs us))
    (hrd : ∀ h X vs us, RdL C h X vs ds → RdL C h X us ks → RdB C h X (bf vs us) bds) (hbs : bindsOk scope.names [] bds = true)
    (hbody : Hs C n ⟨scope, qual ++ ".<locals>.", cp⟩ (bindsRho [] bds) body (RetQ d)) : CallN C n.up (.ref f) kn ds ks d := fun A X s vs us S x r q => by
  refine ex6_4 g.code fun c doc pm an ct kV e cr nt hc => ?_
  have e' := S.ok.obj e (fun _ z => by cases z) (by simp) (by simp)
  have eT := S.ok.obj hT (fun _ z => by cases z) (by simp) (by simp)
  refine ex1_2 (hbind (kV := kV) (doc := doc) (pm := pm) (ct := ct) (an := an) (c := .ref c) r.length q.length) fun k k1 k2 => ?_
  exact call_fn (args := ⟨vs, kn.zip us⟩) (cl := []) (ρ := []) S x e' (CodeRec.kq cr S.ok.k nt) (BindsTo.of_defaults rfl eT rfl k1 k2) .nil (by simp [clOk, List.all_eq_true, Rho.get, Slot.isUnk]) (hrd _ _ _ _ r q) hbs
    (fun c' P h => let ⟨a, b, d⟩ := hc c' P h; ⟨a, nt, b, d⟩) g.kind g.co g.gen hbody
end
end Mine
set_option maxHeartbeats 200000
namespace Mine

open Builtin.Bytes (order)
theorem ord_refl : ∀ l : List UInt8, order l l = .eq
  | [] => rfl
  | x :: xs => by
    have h : ¬ x < x := UInt8.lt_irrefl x
    show (if x < x then _ else if x > x then _ else order xs xs) = _
    rw [if_neg h, if_neg h, ord_refl xs]
theorem ord_eq : ∀ a b : List UInt8, order a b = .eq → a = b
  | [], [], _ => rfl
  | [], _ :: _, h => by cases h
  | _ :: _, [], h => by cases h
  | x :: xs, y :: ys, h => by
    have h' : (if x < y then Ordering.lt else if x > y then .gt else order xs ys) = .eq := h
    split at h'
    · cases h'
    · split at h'
      · cases h'
      · rename_i h1 h2
        have e : x = y := UInt8.le_antisymm (UInt8.not_lt.mp h2) (UInt8.not_lt.mp h1)
        rw [e, ord_eq xs ys h']
theorem ord_gt : ∀ a b : List UInt8, order a b = .gt → order b a = .lt
  | [], [], h => by cases h
  | [], _ :: _, h => by cases h
  | _ :: _, [], h => rfl
  | x :: xs, y :: ys, h => by
    have h' : (if x < y then Ordering.lt else if x > y then .gt else order xs ys) = .gt := h
    show (if y < x then Ordering.lt else if y > x then .gt else order ys xs) = .lt
    split at h'
    · cases h'
    · split at h'
      · rename_i h1 h2; rw [if_pos h2]
      · rename_i h1 h2; rw [if_neg h2, if_neg h1, ord_gt xs ys h']
theorem ord_trans : ∀ a b c : List UInt8, order a b = .lt → order b c = .lt → order a c = .lt
  | [], [], _, h, _ => by cases h
  | [], _ :: _, [], _, h => by cases h
  | [], _ :: _, _ :: _, _, _ => rfl
  | _ :: _, [], _, h, _ => by cases h
  | _ :: _, _ :: _, [], _, h => by cases h
  | x :: xs, y :: ys, z :: zs, h, k => by
    have h' : (if x < y then Ordering.lt else if x > y then .gt else order xs ys) = .lt := h
    have k' : (if y < z then Ordering.lt else if y > z then .gt else order ys zs) = .lt := k
    show (if x < z then Ordering.lt else if x > z then .gt else order xs zs) = .lt
    split at h'
    · rename_i h1
      split at k'
      · rename_i k1; rw [if_pos (UInt8.lt_trans h1 k1)]
      · split at k'
        · cases k'
        · rename_i k1 k2
          have e : y = z := UInt8.le_antisymm (UInt8.not_lt.mp k2) (UInt8.not_lt.mp k1)
          rw [← e, if_pos h1]
    · split at h'
      · cases h'
      · rename_i h1 h2
        have e : x = y := UInt8.le_antisymm (UInt8.not_lt.mp h2) (UInt8.not_lt.mp h1)
        subst e
        split at k'
        · rename_i k1; rw [if_pos k1]
        · split at k'
          · cases k'
          · rename_i k1 k2; rw [if_neg k1, if_neg k2, ord_trans xs ys zs h' k']

theorem ltB_iff {b c : Array UInt8} : ltB b c = true ↔ order b.toList c.toList = .lt := by
  show (order b.toList c.toList == .lt) = true ↔ _
  exact beq_iff_eq
theorem ltB_irrefl (b : Array UInt8) : ltB b b = false := by
  cases h : ltB b b with
  | false => rfl
  | true => rw [ltB_iff, ord_refl] at h; cases h
theorem ltB_trans {a b c : Array UInt8} (h : ltB a b = true) (k : ltB b c = true) : ltB a c = true := ltB_iff.mpr (ord_trans _ _ _ (ltB_iff.mp h) (ltB_iff.mp k))
theorem ltB_total {a b : Array UInt8} (h : ltB a b = false) (n : a ≠ b) : ltB b a = true := by
  rw [ltB_iff]
  cases e : order a.toList b.toList with
  | lt => rw [ltB_iff.mpr e] at h; cases h
  | eq => exact absurd (Array.toList_inj.mp (ord_eq _ _ e)) n
  | gt => exact ord_gt _ _ e

noncomputable def leI (x y : Itm) : Prop := ltI y x = false
theorem ltI_iff {x y : Itm} : ltI x y = true ↔ x.1 < y.1 ∨ (x.1 = y.1 ∧ ltB x.2 y.2 = true) := by
  unfold ltI
  by_cases h : x.1 = y.1
  · rw [if_pos h]
    by_cases k : x.2 = y.2
    · rw [if_pos k]; simp [h, k, ltB_irrefl]
    · rw [if_neg k]; simp [h]
  · rw [if_neg h]; simp [h]
theorem ltI_irrefl (x : Itm) : ltI x x = false := by
  cases h : ltI x x with
  | false => rfl
  | true =>
    rcases ltI_iff.mp h with h | ⟨_, h⟩
    · lia
    · rw [ltB_irrefl] at h; cases h
theorem ltI_trans {x y z : Itm} (h : ltI x y = true) (k : ltI y z = true) : ltI x z = true := by
  rw [ltI_iff] at *
  rcases h with h | ⟨h1, h2⟩ <;> rcases k with k | ⟨k1, k2⟩
  · exact .inl (by lia)
  · exact .inl (by lia)
  · exact .inl (by lia)
  · exact .inr ⟨h1.trans k1, ltB_trans h2 k2⟩
theorem ltI_total {x y : Itm} (h : ltI x y = false) (n : x ≠ y) : ltI y x = true := by
  have h' : ¬ (x.1 < y.1 ∨ (x.1 = y.1 ∧ ltB x.2 y.2 = true)) := fun z => by rw [ltI_iff.mpr z] at h; cases h
  rw [ltI_iff]
  by_cases e : x.1 = y.1
  · refine .inr ⟨e.symm, ltB_total ?_ fun z => n (Prod.ext e z)⟩
    cases q : ltB x.2 y.2 with
    | false => rfl
    | true => exact absurd (.inr ⟨e, q⟩) h'
  · exact .inl (by have : ¬ x.1 < y.1 := fun z => h' (.inl z); lia)
theorem leI_refl (x : Itm) : leI x x := ltI_irrefl x
theorem leI_of_lt {x y : Itm} (h : ltI x y = true) : leI x y := by
  unfold leI
  cases k : ltI y x with
  | false => rfl
  | true => have := ltI_trans h k; rw [ltI_irrefl] at this; cases this
theorem leI_trans {x y z : Itm} (h : leI x y) (k : leI y z) : leI x z := by
  unfold leI at *
  cases q : ltI z x with
  | false => rfl
  | true =>
    by_cases e : z = y
    · subst e; rw [q] at h; cases h
    · have k1 := ltI_total k e
      have := ltI_trans k1 q
      rw [this] at h; cases h
theorem leI_time {x y : Itm} (h : leI x y) : x.1 ≤ y.1 := by
  unfold leI at h
  have h' : ¬ (y.1 < x.1) := fun z => by rw [ltI_iff.mpr (.inl z)] at h; cases h
  lia
end Mine
namespace Mine

theorem swap_get {l : List Itm} {i j k : Nat} {x y : Itm} (hi : l[i]? = some x) (hj : l[j]? = some y) : ((l.set j x).set i y)[k]? = if k = i then some y else if k = j then some x else l[k]? := by
  have li : i < l.length := (List.getElem?_eq_some_iff.mp hi).1
  have lj : j < l.length := (List.getElem?_eq_some_iff.mp hj).1
  rw [List.getElem?_set]
  by_cases e : i = k
  · subst e; rw [if_pos rfl, if_pos rfl, if_pos (by rw [List.length_set]; exact li)]
  · rw [if_neg e, if_neg (fun z => e z.symm), List.getElem?_set]
    by_cases e2 : j = k
    · subst e2; rw [if_pos rfl, if_pos lj, if_pos rfl]
    · rw [if_neg e2, if_neg (fun z => e2 z.symm)]
theorem set_count {l : List Itm} {i : Nat} {x y a : Itm} (hi : l[i]? = some x) : (l.set i y).count a + (if x = a then 1 else 0) = l.count a + (if y = a then 1 else 0) := by
  induction l generalizing i with
  | nil => cases hi
  | cons b l ih =>
    cases i with
    | zero => cases hi; simp only [List.set_cons_zero, List.count_cons, beq_iff_eq]; lia
    | succ i =>
      have := ih (i := i) hi
      simp only [List.set_cons_succ, List.count_cons, beq_iff_eq]; lia
theorem swap_perm {l : List Itm} {i j : Nat} {x y : Itm} (hi : l[i]? = some x) (hj : l[j]? = some y) : ((l.set j x).set i y).Perm l := by
  rw [List.perm_iff_count]
  intro a
  by_cases e : i = j
  · subst e; obtain rfl := is_some hi hj
    have h1 : (l.set i x)[i]? = some x := by rw [List.getElem?_set_self (List.getElem?_eq_some_iff.mp hi).1]
    have := set_count (y := x) (a := a) h1
    have := set_count (y := x) (a := a) hi
    lia
  · have h1 : (l.set j x)[i]? = some x := by rw [List.getElem?_set_ne (fun z => e z.symm)]; exact hi
    have := set_count (y := y) (a := a) h1
    have := set_count (y := x) (a := a) hj
    lia

noncomputable def HO (l : List Itm) : Prop := ∀ i x y, 0 < i → l[(i - 1) / 2]? = some x → l[i]? = some y → leI x y
noncomputable def HUp (l : List Itm) (pos : Nat) : Prop :=
  (∀ i x y, 0 < i → i ≠ pos → l[(i - 1) / 2]? = some x → l[i]? = some y → leI x y) ∧
  (∀ i x y, 0 < i → (i - 1) / 2 = pos → 0 < pos → l[(pos - 1) / 2]? = some x → l[i]? = some y → leI x y)
noncomputable def HDn (l : List Itm) (pos : Nat) : Prop :=
  (∀ i x y, 0 < i → i ≠ pos → (i - 1) / 2 ≠ pos → l[(i - 1) / 2]? = some x → l[i]? = some y → leI x y) ∧
  (∀ i x y, 0 < i → (i - 1) / 2 = pos → 0 < pos → l[(pos - 1) / 2]? = some x → l[i]? = some y → leI x y)

theorem upL_perm : ∀ (f : Nat) (l : List Itm) (pos : Nat), (upL f l pos).Perm l
  | 0, l, _ => .refl _
  | f + 1, l, pos => by
    unfold upL
    split
    · exact .refl _
    · split
      · rename_i x p hx hp
        split
        · exact (upL_perm f _ _).trans (swap_perm hx hp)
        · exact .refl _
      · exact .refl _
theorem downL_perm : ∀ (f : Nat) (l : List Itm) (pos : Nat), (downL f l pos).Perm l
  | 0, l, _ => .refl _
  | f + 1, l, pos => by
    unfold downL
    split
    · split
      · rename_i x y hx hy
        split
        · rename_i r hr
          split
          · exact (downL_perm f _ _).trans (swap_perm hx hy)
          · exact (downL_perm f _ _).trans (swap_perm hx hr)
        · exact (downL_perm f _ _).trans (swap_perm hx hy)
      · exact .refl _
    · exact upL_perm _ _ _

theorem upL_heap : ∀ (f : Nat) (l : List Itm) (pos : Nat), pos < f → HUp l pos → HO (upL f l pos)
  | 0, l, _, hf, _ => by lia
  | f + 1, l, pos, hf, h => by
    unfold upL
    split
    · rename_i e; subst e
      intro i x y hi hx hy
      exact h.1 i x y hi (by lia) hx hy
    · rename_i e
      split
      · rename_i x p hx hp
        split
        · rename_i lt
          refine upL_heap f _ _ (by lia) ⟨fun i u v hi hne hu hv => ?_, fun i u v hi hpar h0 hu hv => ?_⟩
          · rw [swap_get hx hp] at hu hv
            by_cases e1 : i = pos
            · subst e1
              rw [if_neg (by lia), if_pos rfl] at hu
              rw [if_pos rfl] at hv
              cases hu; cases hv; exact leI_of_lt lt
            · rw [if_neg e1, if_neg hne] at hv
              by_cases e2 : (i - 1) / 2 = pos
              · obtain rfl := is_some (if_pos e2) hu
                exact h.2 i _ _ hi e2 (by lia) hp hv
              · rw [if_neg e2] at hu
                by_cases e3 : (i - 1) / 2 = (pos - 1) / 2
                · obtain rfl := is_some (if_pos e3) hu
                  exact leI_trans (leI_of_lt lt) (h.1 i _ _ hi e1 (by rw [e3]; exact hp) hv)
                · rw [if_neg e3] at hu
                  exact h.1 i _ _ hi e1 hu hv
          · rw [swap_get hx hp] at hu hv
            rw [if_neg (by lia), if_neg (by lia)] at hu
            have b := h.1 ((pos - 1) / 2) u p h0 (by lia) hu hp
            by_cases e1 : i = pos
            · obtain rfl := is_some (if_pos e1) hv; exact b
            · rw [if_neg e1, if_neg (by lia)] at hv
              exact leI_trans b (h.1 i _ _ hi e1 (by rw [hpar]; exact hp) hv)
        · rename_i lt
          intro i u v hi hu hv
          by_cases e1 : i = pos
          · subst e1; rw [hp] at hu; rw [hx] at hv; cases hu; cases hv
            unfold leI; simpa using lt
          · exact h.1 i _ _ hi e1 hu hv
      · rename_i hno
        intro i u v hi hu hv
        by_cases e1 : i = pos
        · subst e1; exact absurd hu (hno _ _ hv)
        · exact h.1 i _ _ hi e1 hu hv
end Mine
namespace Mine

theorem dn_step {l : List Itm} {pos c : Nat} {x y : Itm} (hx : l[pos]? = some x) (hy : l[c]? = some y) (hc : 0 < c) (hpar : (c - 1) / 2 = pos) (sib : ∀ i v, 0 < i → (i - 1) / 2 = pos → l[i]? = some v → leI y v)
    (h : HDn l pos) : HDn ((l.set c x).set pos y) c := by
  refine ⟨fun i u v hi hne hpne hu hv => ?_, fun i u v hi hp h0 hu hv => ?_⟩
  · rw [swap_get hx hy] at hu hv
    by_cases e1 : i = pos
    · obtain rfl := is_some (if_pos e1) hv
      rw [if_neg (by omega), if_neg hpne] at hu
      exact h.2 c u _ hc hpar (by omega) (by rw [← e1]; exact hu) hy
    · rw [if_neg e1, if_neg hne] at hv
      by_cases e2 : (i - 1) / 2 = pos
      · obtain rfl := is_some (if_pos e2) hu; exact sib i v hi e2 hv
      · rw [if_neg e2, if_neg hpne] at hu; exact h.1 i u v hi e1 e2 hu hv
  · rw [swap_get hx hy] at hu hv
    obtain rfl := is_some (if_pos hpar) hu
    rw [if_neg (by omega), if_neg (by omega)] at hv
    exact h.1 i _ v hi (by omega) (by omega) (by rw [hp]; exact hy) hv

theorem downL_heap : ∀ (f : Nat) (l : List Itm) (pos : Nat), 0 < f → l.length ≤ pos + f → HDn l pos → HO (downL f l pos)
  | 0, l, _, hf, _, _ => by lia
  | f + 1, l, pos, hf, hz, h => by
    unfold downL
    split
    · rename_i lt
      have hx : ∃ x, l[pos]? = some x := ⟨_, List.getElem?_eq_getElem (by lia)⟩
      have hy : ∃ y, l[2 * pos + 1]? = some y := ⟨_, List.getElem?_eq_getElem (by lia)⟩
      refine ex1_1 hx fun x hx => ?_
      refine ex1_1 hy fun y hy => ?_
      rw [hx, hy]
      dsimp only
      have two : ∀ i, 0 < i → (i - 1) / 2 = pos → i = 2 * pos + 1 ∨ i = 2 * pos + 2 := fun i hi e => by lia
      split
      · rename_i r hr
        split
        · rename_i yr
          refine downL_heap f _ _ (by lia) (by simp only [List.length_set]; lia) (dn_step hx hy (by lia) (by lia) (fun i v hi e hv => ?_) h)
          rcases two i hi e with rfl | rfl
          · obtain rfl := is_some hy hv; exact leI_refl _
          · obtain rfl := is_some hr hv; exact leI_of_lt yr
        · rename_i yr
          refine downL_heap f _ _ (by lia) (by simp only [List.length_set]; lia) (dn_step hx hr (by lia) (by lia) (fun i v hi e hv => ?_) h)
          rcases two i hi e with rfl | rfl
          · obtain rfl := is_some hy hv; unfold leI; simpa using yr
          · obtain rfl := is_some hr hv; exact leI_refl _
      · rename_i hr
        refine downL_heap f _ _ (by lia) (by simp only [List.length_set]; lia) (dn_step hx hy (by lia) (by lia) (fun i v hi e hv => ?_) h)
        rcases two i hi e with rfl | rfl
        · obtain rfl := is_some hy hv; exact leI_refl _
        · exact no_some hr hv
    · rename_i lt
      refine upL_heap _ _ _ (by lia) ⟨fun i u v hi hne hu hv => ?_, h.2⟩
      by_cases e : (i - 1) / 2 = pos
      · have := (List.getElem?_eq_some_iff.mp hv).1; lia
      · exact h.1 i u v hi hne e hu hv

theorem HO.head {l : List Itm} (h : HO l) {m : Itm} (hm : l[0]? = some m) : ∀ (i : Nat) (x : Itm), l[i]? = some x → leI m x := by
  intro i
  induction i using Nat.strongRecOn with
  | _ i ih =>
    intro x hx
    by_cases e : i = 0
    · subst e; obtain rfl := is_some hm hx; exact leI_refl _
    · have hp : ∃ p, l[(i - 1) / 2]? = some p := ⟨_, List.getElem?_eq_getElem (by have := (List.getElem?_eq_some_iff.mp hx).1; lia)⟩
      refine ex1_1 hp fun p hp => ?_
      exact leI_trans (ih _ (by lia) p hp) (h i p x (by lia) hp hx)
theorem HO.least {m : Itm} {l : List Itm} (h : HO (m :: l)) : ∀ x ∈ m :: l, leI m x := fun x hx => by
  obtain ⟨i, hi, e⟩ := List.mem_iff_getElem.mp hx
  exact h.head (m := m) rfl i x (by rw [List.getElem?_eq_getElem hi, e])
theorem HO.nil : HO [] := fun _ _ _ _ hx _ => by cases hx

theorem pushL_perm (l : List Itm) (x : Itm) : (pushL l x).Perm (x :: l) := (upL_perm _ _ _).trans (List.perm_append_singleton x l)
theorem pushL_heap {l : List Itm} (h : HO l) (x : Itm) : HO (pushL l x) := by
  refine upL_heap _ _ _ (by lia) ⟨fun i u v hi hne hu hv => ?_, fun i u v hi hp h0 hu hv => ?_⟩
  · have li := (List.getElem?_eq_some_iff.mp hv).1
    rw [List.length_append, List.length_singleton] at li
    rw [List.getElem?_append_left (by lia)] at hu hv
    exact h i u v hi hu hv
  · have li := (List.getElem?_eq_some_iff.mp hv).1
    rw [List.length_append, List.length_singleton] at li
    lia

theorem popL_perm {m : Itm} {l : List Itm} : (popL (m :: l)).Perm l := by
  unfold popL
  cases l with
  | nil => exact .refl _
  | cons b l =>
    have e : (m :: b :: l).dropLast = m :: (b :: l).dropLast := rfl
    have g : (m :: b :: l).getLast? = some ((b :: l).getLast (by simp)) := by rw [List.getLast?_cons_cons, List.getLast?_eq_getLast]
    rw [e, g]
    dsimp only
    refine (downL_perm _ _ _).trans ?_
    show ((b :: l).getLast _ :: (b :: l).dropLast).Perm (b :: l)
    exact (List.perm_append_singleton _ _).symm.trans (by rw [List.dropLast_concat_getLast])
theorem popL_heap {l : List Itm} (h : HO l) : HO (popL l) := by
  unfold popL
  split
  · exact .nil
  · rename_i d ds x e g
    refine downL_heap _ _ _ (by lia) (by simp) ⟨fun i u v hi hne hp hu hv => ?_, fun i u v hi hp h0 _ _ => by lia⟩
    have hl : ∀ k w, k ≠ 0 → ((d :: ds).set 0 x)[k]? = some w → l[k]? = some w := fun k w hk hw => by
      rw [List.getElem?_set_ne (fun z => hk z.symm), ← e] at hw
      have lk := (List.getElem?_eq_some_iff.mp hw).1
      rw [List.getElem?_dropLast] at hw
      split at hw
      · exact hw
      · cases hw
    exact h i u v hi (hl _ _ (by lia) hu) (hl _ _ (by lia) hv)
  · rename_i d ds e g
    exact absurd (List.getLast?_eq_none_iff.mp g) (fun z => by rw [z] at e; cases e)
end Mine
namespace Mine

noncomputable def krun {α : Type} (c : Nat → Nat → Bool) : KasT α → α
  | .ret a => a
  | .ask i j k => krun c (k (c i j))
noncomputable def asksIn {α : Type} (n : Nat) (c : Nat → Nat → Bool) : KasT α → Prop
  | .ret _ => True
  | .ask i j k => i < n ∧ j < n ∧ asksIn n c (k (c i j))

theorem kasWp_krun {α : Type} {cmp : Nat → Nat → (Bool → Shared → Prop) → Shared → Prop} {I : Shared → Prop} {c : Nat → Nat → Bool} {n : Nat} {Q : α → Shared → Prop}
    (hc : ∀ i j (K : Bool → Shared → Prop) s, i < n → j < n → I s → (∀ s', I s' → K (c i j) s') → cmp i j K s) : ∀ (t : KasT α) (s : Shared), asksIn n c t → I s → (∀ s', I s' → Q (krun c t) s') → t.kasWp cmp Q s
  | .ret a, s, _, hI, hQ => hQ s hI
  | .ask i j k, s, h, hI, hQ => hc i j _ s h.1 h.2.1 hI fun s' hI' => kasWp_krun hc (k (c i j)) s' h.2.2 hI' hQ

theorem krun_congr {α : Type} {c c' : Nat → Nat → Bool} {n : Nat} (hc : ∀ i j, i < n → j < n → c i j = c' i j) : ∀ (t : KasT α), asksIn n c' t → asksIn n c t ∧ krun c t = krun c' t
  | .ret a, _ => ⟨trivial, rfl⟩
  | .ask i j k, h => by
    have e := hc i j h.1 h.2.1
    have := krun_congr hc (k (c' i j)) h.2.2
    refine ⟨⟨h.1, h.2.1, ?_⟩, ?_⟩
    · rw [e]; exact this.1
    · show krun c (k (c i j)) = krun c' (k (c' i j))
      rw [e]; exact this.2

noncomputable def incr : List Nat → Bool
  | a :: b :: r => Nat.blt a b && incr (b :: r)
  | _ => true
noncomputable def okRes (n : Nat) (σ : List Nat) (p : Array Nat) : Bool :=
  p.toList.all (fun i => Nat.blt i n) && (List.range n).all (fun i => p.toList.contains i) && incr (p.toList.map fun i => σ.getD i 0 * 8 + i)
noncomputable def ltσ (σ : List Nat) (i j : Nat) : Bool := Nat.blt (σ.getD i 0) (σ.getD j 0)
noncomputable def expl (n : Nat) : KasT (Array Nat) → List (List Nat) → Bool
  | .ret p, cs => cs.all fun σ => okRes n σ p
  | .ask i j k, cs => Nat.blt i n && Nat.blt j n && ((cs.filter fun σ => ltσ σ i j).isEmpty || expl n (k true) (cs.filter fun σ => ltσ σ i j)) &&
      ((cs.filter fun σ => !ltσ σ i j).isEmpty || expl n (k false) (cs.filter fun σ => !ltσ σ i j))
theorem expl_sound {n : Nat} : ∀ (t : KasT (Array Nat)) (cs : List (List Nat)), expl n t cs = true → ∀ σ ∈ cs, asksIn n (ltσ σ) t ∧ okRes n σ (krun (ltσ σ) t) = true
  | .ret p, cs, h, σ, hσ => ⟨trivial, List.all_eq_true.mp h σ hσ⟩
  | .ask i j k, cs, h, σ, hσ => by
    unfold expl at h
    simp only [Bool.and_eq_true, Bool.or_eq_true, Nat.blt_eq] at h
    refine ex0_2 h fun zq1 h4 => ?_; try clear h; refine ex0_2 zq1 fun zq1 h3 => ?_; obtain ⟨h1, h2⟩ := zq1
    show (i < n ∧ j < n ∧ asksIn n (ltσ σ) (k (ltσ σ i j))) ∧ okRes n σ (krun (ltσ σ) (k (ltσ σ i j))) = true
    cases hb : ltσ σ i j with
    | true =>
      have hm : σ ∈ cs.filter fun σ => ltσ σ i j := List.mem_filter.mpr ⟨hσ, hb⟩
      rcases h3 with h3 | h3
      · rw [List.isEmpty_iff] at h3; rw [h3] at hm; cases hm
      · refine ex0_2 (expl_sound (k true) _ h3 σ hm) fun q1 q2 => ?_
        exact ⟨⟨h1, h2, q1⟩, q2⟩
    | false =>
      have hm : σ ∈ cs.filter fun σ => !ltσ σ i j := List.mem_filter.mpr ⟨hσ, by rw [hb]; rfl⟩
      rcases h4 with h4 | h4
      · rw [List.isEmpty_iff] at h4; rw [h4] at hm; cases hm
      · refine ex0_2 (expl_sound (k false) _ h4 σ hm) fun q1 q2 => ?_
        exact ⟨⟨h1, h2, q1⟩, q2⟩

noncomputable def sel : Nat → List Nat → List (List Nat)
  | 0, _ => [[]]
  | k + 1, av => av.flatMap fun x => (sel k (av.erase x)).map (x :: ·)
theorem mem_sel : ∀ (l av : List Nat), l.Nodup → (∀ x ∈ l, x ∈ av) → l ∈ sel l.length av
  | [], av, _, _ => by simp [sel]
  | x :: r, av, hn, hm => by
    rw [List.nodup_cons] at hn
    show x :: r ∈ av.flatMap fun x => (sel r.length (av.erase x)).map (x :: ·)
    refine List.mem_flatMap.mpr ⟨x, hm x (.head _), List.mem_map.mpr ⟨r, mem_sel r (av.erase x) hn.2 fun y hy => ?_, rfl⟩⟩
    refine (List.mem_erase_of_ne fun e => ?_).mpr (hm y (.tail _ hy))
    subst e; exact hn.1 hy

theorem sort2 : expl 2 (kas_sort 2) (sel 2 (List.range 2)) = true := by decide +kernel
theorem sort3 : expl 3 (kas_sort 3) (sel 3 (List.range 3)) = true := by decide +kernel
theorem sort4 : expl 4 (kas_sort 4) (sel 4 (List.range 4)) = true := by decide +kernel
theorem sort5 : expl 5 (kas_sort 5) (sel 5 (List.range 5)) = true := by decide +kernel
theorem sort6 : expl 6 (kas_sort 6) (sel 6 (List.range 6)) = true := by decide +kernel

noncomputable def stairs : Nat → List (List Nat)
  | 0 => [[]]
  | 1 => [[0]]
  | k + 2 => (stairs (k + 1)).flatMap fun l => [l.headD 0 :: l, (l.headD 0 + 1) :: l]
theorem down2 : expl 2 (kas_sort 2) (stairs 2) = true := by decide +kernel
theorem down3 : expl 3 (kas_sort 3) (stairs 3) = true := by decide +kernel
theorem down4 : expl 4 (kas_sort 4) (stairs 4) = true := by decide +kernel
theorem down5 : expl 5 (kas_sort 5) (stairs 5) = true := by decide +kernel
theorem down6 : expl 6 (kas_sort 6) (stairs 6) = true := by decide +kernel
theorem down7 : expl 7 (kas_sort 7) (stairs 7) = true := by decide +kernel

theorem incr_pairwise : ∀ {l : List Nat}, incr l = true → l.Pairwise (· < ·)
  | [], _ => .nil
  | [a], _ => by simp
  | a :: b :: r, h => by
    unfold incr at h
    simp only [Bool.and_eq_true, Nat.blt_eq] at h
    have ih := incr_pairwise h.2
    rw [List.pairwise_cons] at ih ⊢
    refine ⟨fun x hx => ?_, by rw [List.pairwise_cons]; exact ih⟩
    rcases List.mem_cons.mp hx with rfl | hx
    · exact h.1
    · exact Nat.lt_trans h.1 (ih.1 x hx)

structure OkRes (n : Nat) (σ : List Nat) (p : Array Nat) : Prop where
  lt : ∀ i ∈ p.toList, i < n
  all : ∀ i, i < n → i ∈ p.toList
  inc : p.toList.Pairwise fun i j => σ.getD i 0 < σ.getD j 0 ∨ (σ.getD i 0 = σ.getD j 0 ∧ i < j)
theorem OkRes.of {n : Nat} {σ : List Nat} {p : Array Nat} (hn : n ≤ 8) (h : okRes n σ p = true) : OkRes n σ p := by
  unfold okRes at h
  simp only [Bool.and_eq_true, List.all_eq_true, Nat.blt_eq, List.mem_range] at h
  refine ex0_2 h fun zq2 h3 => ?_; try clear h; refine ex0_2 zq2 fun h1 h2 => ?_; try clear zq2
  have h3 := incr_pairwise h3
  rw [List.pairwise_map] at h3
  refine ⟨h1, fun i hi => by simpa using h2 i hi, (List.Pairwise.and_mem.mp h3).imp fun {i j} q => ?_⟩
  have li := h1 i q.1
  have lj := h1 j q.2.1
  have := q.2.2
  lia

variable {α : Type}
noncomputable def cOf (lt : α → α → Bool) (l : List α) (i j : Nat) : Bool := match l[i]?, l[j]? with
  | some x, some y => lt x y
  | _, _ => false
noncomputable def srt (lt : α → α → Bool) (l : List α) : List α := if l.length < 2 then l else (krun (cOf lt l) (kas_sort l.length)).toList.filterMap fun i => l[i]?

noncomputable def Askd (lt : α → α → Bool) (l : List α) : Prop := ¬ l.length < 2 → asksIn l.length (cOf lt l) (kas_sort l.length) ∧ ∀ i ∈ (krun (cOf lt l) (kas_sort l.length)).toList, i < l.length

theorem cOf_eq {lt : α → α → Bool} {l : List α} {i j : Nat} (hi : i < l.length) (hj : j < l.length) : cOf lt l i j = lt l[i] l[j] := by
  unfold cOf; rw [List.getElem?_eq_getElem hi, List.getElem?_eq_getElem hj]

theorem srt_of {lt : α → α → Bool} {l : List α} {σ : List Nat} {cs : List (List Nat)} (h2 : ¬ l.length < 2) (h8 : l.length ≤ 8) (hx : expl l.length (kas_sort l.length) cs = true) (hσ : σ ∈ cs) (hr : ∀ i j, i < l.length → j < l.length → cOf lt l i j = ltσ σ i j) :
    asksIn l.length (cOf lt l) (kas_sort l.length) ∧ ∃ p : Array Nat, krun (cOf lt l) (kas_sort l.length) = p ∧ srt lt l = p.toList.filterMap (fun i => l[i]?) ∧ OkRes l.length σ p := by
  refine ex0_2 (expl_sound _ _ hx σ hσ) fun a1 a2 => ?_
  refine ex0_2 (krun_congr hr _ a1) fun b1 b2 => ?_
  refine ⟨b1, _, rfl, by unfold srt; rw [if_neg h2], ?_⟩
  rw [b2]; exact OkRes.of h8 a2

theorem srt_mem {l : List α} {p : Array Nat} {σ : List Nat} (h : OkRes l.length σ p) (x : α) : x ∈ p.toList.filterMap (fun i => l[i]?) ↔ x ∈ l := by
  rw [List.mem_filterMap]
  constructor
  · intro zi1; refine ex1_2 zi1 fun i _ e => ?_; try clear zi1; exact List.mem_of_getElem? e
  · intro hx
    refine ex1_1 (List.getElem?_of_mem hx) fun i e => ?_
    exact ⟨i, h.all i (List.getElem?_eq_some_iff.mp e).1, e⟩
theorem srt_pair {l : List α} {p : Array Nat} {σ : List Nat} {R : α → α → Prop} (h : OkRes l.length σ p) (hR : ∀ i j, (hi : i < l.length) → (hj : j < l.length) → (σ.getD i 0 < σ.getD j 0 ∨ (σ.getD i 0 = σ.getD j 0 ∧ i < j)) → R l[i] l[j]) :
    (p.toList.filterMap (fun i => l[i]?)).Pairwise R := by
  rw [List.pairwise_filterMap]
  refine (List.Pairwise.and_mem.mp h.inc).imp fun {i j} q x hx y hy => ?_
  have hi := h.lt i q.1
  have hj := h.lt j q.2.1
  rw [List.getElem?_eq_getElem hi] at hx
  rw [List.getElem?_eq_getElem hj] at hy
  cases hx; cases hy
  exact hR i j hi hj q.2.2

noncomputable def rankOf (lt : α → α → Bool) (l : List α) (x : α) : Nat := l.countP fun y => lt y x
theorem rank_lt {lt : α → α → Bool} {l : List α} (tr : ∀ x y z, lt x y = true → lt y z = true → lt x z = true) (ir : ∀ x, lt x x = false) {x y : α} (hx : x ∈ l) (h : lt x y = true) : rankOf lt l x < rankOf lt l y := by
  unfold rankOf
  induction l with
  | nil => cases hx
  | cons a l ih =>
    rw [List.countP_cons, List.countP_cons]
    have mono : l.countP (fun z => lt z x) ≤ l.countP fun z => lt z y := List.countP_mono_left fun z _ hz => tr z x y hz h
    rcases List.mem_cons.mp hx with rfl | hx
    · rw [ir x, h]; simp; omega
    · have := ih hx
      cases hz : lt a x with
      | false => simp; omega
      | true => rw [tr a x y hz h]; simp; omega
theorem rank_bound {lt : α → α → Bool} {l : List α} (ir : ∀ x, lt x x = false) {x : α} (hx : x ∈ l) : rankOf lt l x < l.length := by
  unfold rankOf
  induction l with
  | nil => cases hx
  | cons a l ih =>
    rw [List.countP_cons, List.length_cons]
    rcases List.mem_cons.mp hx with rfl | hx
    · rw [ir x]
      have := List.countP_le_length (p := fun y => lt y x) (l := l)
      simp; omega
    · have := ih hx
      split <;> omega

theorem sort_any : ∀ n, 2 ≤ n → n ≤ 6 → expl n (kas_sort n) (sel n (List.range n)) = true
  | 2, _, _ => sort2
  | 3, _, _ => sort3
  | 4, _, _ => sort4
  | 5, _, _ => sort5
  | 6, _, _ => sort6
  | 0, h, _ => by lia
  | 1, h, _ => by lia
  | n + 7, _, h => by lia
theorem down_any : ∀ n, 2 ≤ n → n ≤ 7 → expl n (kas_sort n) (stairs n) = true
  | 2, _, _ => down2
  | 3, _, _ => down3
  | 4, _, _ => down4
  | 5, _, _ => down5
  | 6, _, _ => down6
  | 7, _, _ => down7
  | 0, h, _ => by lia
  | 1, h, _ => by lia
  | n + 8, _, h => by lia

theorem srt_strict {lt : α → α → Bool} {l : List α} (tr : ∀ x y z, lt x y = true → lt y z = true → lt x z = true) (ir : ∀ x, lt x x = false) (tot : ∀ x ∈ l, ∀ y ∈ l, x ≠ y → lt x y = true ∨ lt y x = true) (nd : l.Nodup) (h6 : l.length ≤ 6) :
    Askd lt l ∧ (∀ x, x ∈ srt lt l ↔ x ∈ l) ∧ (srt lt l).Pairwise (fun x y => lt x y = true) := by
  by_cases h2 : l.length < 2
  · have e : srt lt l = l := by unfold srt; rw [if_pos h2]
    rw [e]
    refine ⟨fun z => absurd h2 z, fun x => Iff.rfl, ?_⟩
    match l, h2 with
    | [], _ => exact .nil
    | [a], _ => simp
  · have hlen : ((List.range l.length).map fun i => (l[i]?.map (rankOf lt l)).getD 0).length = l.length := by simp
    have hget : ∀ i, (hi : i < l.length) → ((List.range l.length).map fun i => (l[i]?.map (rankOf lt l)).getD 0).getD i 0 = rankOf lt l l[i] := fun i hi => by
      rw [List.getD_eq_getElem?_getD, List.getElem?_map, List.getElem?_range hi]; simp [hi]
    have rk : ∀ i j, (hi : i < l.length) → (hj : j < l.length) → (lt l[i] l[j] = true ↔ rankOf lt l l[i] < rankOf lt l l[j]) := fun i j hi hj => by
      constructor
      · exact rank_lt tr ir (List.getElem_mem hi)
      · intro hlt
        by_cases e : l[i] = l[j]
        · rw [e] at hlt; lia
        · rcases tot _ (List.getElem_mem hi) _ (List.getElem_mem hj) e with q | q
          · exact q
          · have := rank_lt tr ir (List.getElem_mem hj) q; lia
    have mem : ((List.range l.length).map fun i => (l[i]?.map (rankOf lt l)).getD 0) ∈ sel l.length (List.range l.length) := by
      have := mem_sel ((List.range l.length).map fun i => (l[i]?.map (rankOf lt l)).getD 0) (List.range l.length) ?_ ?_
      · rw [hlen] at this; exact this
      · rw [List.Nodup, List.pairwise_map]
        refine (List.Pairwise.and_mem.mp List.nodup_range).imp fun {i j} q e => ?_
        have hi := List.mem_range.mp q.1
        have hj := List.mem_range.mp q.2.1
        simp only [List.getElem?_eq_getElem hi, List.getElem?_eq_getElem hj, Option.map_some, Option.getD_some] at e
        have ne : l[i] ≠ l[j] := fun z => q.2.2 ((List.getElem_inj nd).mp z)
        rcases tot _ (List.getElem_mem hi) _ (List.getElem_mem hj) ne with z | z
        · have := (rk i j hi hj).mp z; lia
        · have := (rk j i hj hi).mp z; lia
      · intro x hx
        refine ex1_2 (List.mem_map.mp hx) fun i hi zq3 => ?_; subst zq3
        have hi := List.mem_range.mp hi
        rw [List.getElem?_eq_getElem hi]
        exact List.mem_range.mpr (rank_bound ir (List.getElem_mem hi))
    obtain ⟨a1, p, ep, a2, a3⟩ := srt_of (lt := lt) h2 (by lia) (sort_any l.length (by lia) h6) mem fun i j hi hj => by
      rw [cOf_eq hi hj]
      unfold ltσ
      rw [hget i hi, hget j hj, Bool.eq_iff_iff, Nat.blt_eq]
      exact rk i j hi hj
    rw [a2]
    refine ⟨fun _ => ⟨a1, by rw [ep]; exact a3.lt⟩, srt_mem a3, srt_pair a3 fun i j hi hj q => ?_⟩
    rw [hget i hi, hget j hj] at q
    rcases q with q | ⟨q, q'⟩
    · exact (rk i j hi hj).mpr q
    · by_cases e : l[i] = l[j]
      · have := (List.getElem_inj nd).mp e; lia
      · rcases tot _ (List.getElem_mem hi) _ (List.getElem_mem hj) e with z | z
        · exact z
        · have := (rk j i hj hi).mp z; lia

noncomputable def stair (f : α → Int) : List α → List Nat
  | [] => []
  | [a] => [0]
  | a :: b :: r => ((stair f (b :: r)).headD 0 + if f b < f a then 1 else 0) :: stair f (b :: r)
theorem stair_mem (f : α → Int) : ∀ l : List α, stair f l ∈ stairs l.length
  | [] => by simp [stair, stairs]
  | [a] => by simp [stair, stairs]
  | a :: b :: r => by
    have ih := stair_mem f (b :: r)
    show _ ∈ (stairs (r.length + 1)).flatMap fun l => [l.headD 0 :: l, (l.headD 0 + 1) :: l]
    refine List.mem_flatMap.mpr ⟨_, ih, ?_⟩
    have es : stair f (a :: b :: r) = ((stair f (b :: r)).headD 0 + if f b < f a then 1 else 0) :: stair f (b :: r) := rfl
    rw [es]
    generalize stair f (b :: r) = u
    split <;> simp
theorem stair_lt (f : α → Int) : ∀ l : List α, l.Pairwise (fun x y => f y ≤ f x) → ∀ i j, (hi : i < l.length) → (hj : j < l.length) → ((f l[i] < f l[j]) ↔ (stair f l).getD i 0 < (stair f l).getD j 0)
  | [], _, i, _, hi, _ => by simp at hi
  | [a], _, i, j, hi, hj => by
    simp at hi hj; subst hi; subst hj; simp
  | a :: b :: r, h, i, j, hi, hj => by
    rw [List.pairwise_cons] at h
    have ih := stair_lt f (b :: r) h.2
    have down : ∀ k, (hk : k < (b :: r).length) → f (b :: r)[k] ≤ f a := fun k hk => h.1 _ (List.getElem_mem hk)
    have hb : ∀ k, (hk : k < (b :: r).length) → f (b :: r)[k] ≤ f b := fun k hk => by
      cases k with
      | zero => exact Int.le_refl _
      | succ k => exact (List.pairwise_cons.mp h.2).1 _ (List.getElem_mem (by simpa using hk))
    have h0 : (stair f (b :: r)).headD 0 = (stair f (b :: r)).getD 0 0 := by cases stair f (b :: r) <;> rfl
    have sb : ∀ k, (hk : k < (b :: r).length) → (stair f (b :: r)).getD k 0 ≤ (stair f (b :: r)).headD 0 := fun k hk => by
      rw [h0]
      have := ih 0 k (by simp) hk
      have e := hb k hk
      simp only [List.getElem_cons_zero] at this
      lia
    have es : stair f (a :: b :: r) = ((stair f (b :: r)).headD 0 + if f b < f a then 1 else 0) :: stair f (b :: r) := rfl
    rw [es]
    cases i with
    | zero =>
      cases j with
      | zero => simp
      | succ j =>
        have hj' : j < (b :: r).length := by simpa using hj
        have q1 := down j hj'
        have q2 := sb j hj'
        simp only [List.getElem_cons_zero, List.getElem_cons_succ, List.getD_cons_zero, List.getD_cons_succ]
        split <;> lia
    | succ i =>
      have hi' : i < (b :: r).length := by simpa using hi
      cases j with
      | zero =>
        have q1 := down i hi'
        have q2 := sb i hi'
        have q3 := ih i 0 hi' (by simp)
        have q4 := hb i hi'
        have q5 : f b ≤ f a := down 0 (by simp)
        rw [← h0] at q3
        simp only [List.getElem_cons_zero, List.getElem_cons_succ, List.getD_cons_zero, List.getD_cons_succ] at q3 ⊢
        generalize (stair f (b :: r)).headD 0 = u at *
        generalize (stair f (b :: r)).getD i 0 = v at *
        generalize f (b :: r)[i] = x at *
        generalize f b = y at *
        generalize f a = z at *
        by_cases hyz : y < z
        · rw [if_pos hyz]; constructor <;> intro _ <;> lia
        · rw [if_neg hyz]; constructor <;> intro _ <;> lia
      | succ j =>
        have hj' : j < (b :: r).length := by simpa using hj
        simp only [List.getElem_cons_succ, List.getD_cons_succ]
        exact ih i j hi' hj'

theorem srt_down {f : α → Int} {l : List α} {S : α → α → Prop} (hd : l.Pairwise fun x y => f y < f x ∨ (f x = f y ∧ S x y)) (h7 : l.length ≤ 7) :
    Askd (fun x y => decide (f x < f y)) l ∧ (∀ x, x ∈ srt (fun x y => decide (f x < f y)) l ↔ x ∈ l) ∧ (srt (fun x y => decide (f x < f y)) l).Pairwise (fun x y => f x < f y ∨ (f x = f y ∧ S x y)) := by
  by_cases h2 : l.length < 2
  · have e : srt (fun x y => decide (f x < f y)) l = l := by unfold srt; rw [if_pos h2]
    rw [e]
    refine ⟨fun z => absurd h2 z, fun x => Iff.rfl, ?_⟩
    match l, h2 with
    | [], _ => exact .nil
    | [a], _ => simp
  · have lt := stair_lt f l (hd.imp fun q => by rcases q with q | ⟨q, _⟩ <;> lia)
    obtain ⟨a1, p, ep, a2, a3⟩ := srt_of (lt := fun x y => decide (f x < f y)) h2 (by lia) (down_any l.length (by lia) h7) (stair_mem f l) fun i j hi hj => by
      rw [cOf_eq hi hj]
      unfold ltσ
      rw [Bool.eq_iff_iff, Nat.blt_eq, decide_eq_true_iff]
      exact lt i j hi hj
    rw [a2]
    refine ⟨fun _ => ⟨a1, by rw [ep]; exact a3.lt⟩, srt_mem a3, srt_pair a3 fun i j hi hj q => ?_⟩
    have l1 := lt i j hi hj
    have l2 := lt j i hj hi
    rcases q with q | ⟨q, q'⟩
    · exact .inl (l1.mpr q)
    · rcases List.pairwise_iff_getElem.mp hd i j hi hj q' with z | z
      · have := l2.mp z; lia
      · exact .inr z

theorem sorted_unique {R : α → α → Prop} (as : ∀ x y, R x y → ¬ R y x) : ∀ {l m : List α}, l.Pairwise R → m.Pairwise R → (∀ x, x ∈ l ↔ x ∈ m) → l = m
  | [], [], _, _, _ => rfl
  | [], b :: m, _, _, h => absurd ((h b).mpr (.head _)) (by simp)
  | a :: l, [], _, _, h => absurd ((h a).mp (.head _)) (by simp)
  | a :: l, b :: m, hl, hm, h => by
    rw [List.pairwise_cons] at hl hm
    have e : a = b := by
      rcases List.mem_cons.mp ((h a).mp (.head _)) with e | e
      · exact e
      · rcases List.mem_cons.mp ((h b).mpr (.head _)) with e' | e'
        · exact e'.symm
        · exact absurd (hl.1 b e') (as _ _ (hm.1 a e))
    subst e
    rw [sorted_unique as hl.2 hm.2 fun x => ?_]
    constructor
    · intro hx
      rcases List.mem_cons.mp ((h x).mp (.tail _ hx)) with e | e
      · subst e; exact absurd (hl.1 x hx) (as _ _ (hl.1 x hx))
      · exact e
    · intro hx
      rcases List.mem_cons.mp ((h x).mpr (.tail _ hx)) with e | e
      · subst e; exact absurd (hm.1 x hx) (as _ _ (hm.1 x hx))
      · exact e
end Mine
set_option maxHeartbeats 1000000
namespace Mine

section
variable {C : Cx} {n : Lv} {sc : Sc} {ρ ρ' : Rho} {env : Env} {X M X' M' fp : Addr → Prop} {s₀ s s' s₁ : Shared} {h h' h₂ : Heap} {x : Str} {A : Around} {E : Value → Shared → Prop}

theorem FrsOk.funs {l : List Env} (hl : A.frames = some l) (x : FrsOk C A h) : h.FunFrames C.h₁ l := by
  refine ex1_2 x fun l' hl' q => ?_; try clear x
  rw [hl] at hl'; cases hl'
  clear hl
  induction l with
  | nil => trivial
  | cons env r ih =>
    refine ex0_2 (q env (.head _)) fun k zq1 => ?_; refine ex2_5 zq1 fun L o f1 f2 f3 _ f4 => ?_; try clear zq1
    exact ⟨k, ⟨L, o, f1, f2, f3, f4⟩, ih fun e he => q e (.tail _ he)⟩
theorem FrsOk.at_ {l : List Env} (hl : A.frames = some l) (x : FrsOk C A h) {b : Addr} (hb : b ∈ l.filterMap (·.frame)) : C.h₁.get? b = none ∧ ∃ o, h.get? b = some o ∧ o.cls = .type "frame" ∧ NF o := by
  refine ex1_2 x fun l' hl' q => ?_; try clear x
  obtain rfl := is_some hl hl'
  refine ex1_2 (List.mem_filterMap.mp hb) fun env he hf => ?_
  refine ex0_2 (q env he) fun k zq2 => ?_; refine ex2_5 zq2 fun L o f1 f2 f3 f4 f5 => ?_; try clear zq2
  obtain rfl := is_some f1 hf
  exact ⟨f2, o, f3, f4, f5⟩

theorem Nx.exc {e T : Addr} {S : List Addr} (o : Ok C s) (n : Nx C s s₁) (de : s.heap.get? e = none) (dT : s.heap.get? T = none)
    (fe : ∃ ob vs, s₁.heap.get? e = some ob ∧ ob.data = .fields vs ∧ ob.cls ≠ .none ∧ ∀ q t, vs[1]? ≠ some (.str q t)) (fT : T = e ∨ ∀ ob, s₁.heap.get? T = some ob → ∃ vs, ob.data = .fields vs ∧ ob.cls ≠ .none ∧ ∀ q t, vs[1]? ≠ some (.str q t))
    (fr : ∀ b ∈ S, C.h₁.get? b = none ∧ ∃ ob, s₁.heap.get? b = some ob ∧ ob.cls = .type "frame" ∧ NF ob)
    (hk : ∀ b ob, b ≠ e → b ≠ T → s₁.heap.get? b = some ob → ∃ sl, h₂.get? b = some { ob with slots := sl } ∧ (b ∉ S → sl = ob.slots)) : Nx C s { s₁ with heap := h₂ } := by
  have ff : ∀ a ob, a = e ∨ a = T → s₁.heap.get? a = some ob → ∃ vs, ob.data = .fields vs ∧ ob.cls ≠ .none ∧ ∀ q t, vs[1]? ≠ some (.str q t) := fun a ob z eq => by
    have k1 : ∀ ob, s₁.heap.get? e = some ob → ∃ vs, ob.data = .fields vs ∧ ob.cls ≠ .none ∧ ∀ q t, vs[1]? ≠ some (.str q t) := fun ob eq => by
      refine ex2_3 fe fun ob' vs e1 e2 e3 => ?_; try clear fe
      obtain rfl := is_some eq e1; exact ⟨vs, e2, e3⟩
    rcases z with z | z
    · subst z; exact k1 ob eq
    · subst z
      rcases fT with z | f
      · subst z; exact k1 ob eq
      · exact f ob eq
  have exact_ : ∀ a ob, a ≠ e → a ≠ T → a ∉ S → s₁.heap.get? a = some ob → h₂.get? a = some ob := fun a ob h1 h2 h3 eq => by
    refine ex1_2 (hk a ob h1 h2 eq) fun sl e2 c => ?_
    rw [c h3] at e2; exact e2
  have kc : ∀ c q, s₁.heap.CodeRec (.ref c) q → c ∉ tabs → h₂.CodeRec (.ref c) q := fun c q x _ => by
    refine CodeRec.but x fun ob eq => ?_
    refine ex4_4 x fun c' o2 vs2 tk e2 e3 e4 e5 => ?_; try clear x
    cases e2
    obtain rfl := is_some eq e3
    refine exact_ c ob (fun z => ?_) (fun z => ?_) (fun z => ?_) eq
    · refine ex1_3 (ff c ob (.inl z) eq) fun vs d _ h1 => ?_; rw [e4] at d; cases d; exact h1 _ _ e5
    · refine ex1_3 (ff c ob (.inr z) eq) fun vs d _ h1 => ?_; rw [e4] at d; cases d; exact h1 _ _ e5
    · refine ex0_2 (fr c z) fun _ zq3 => ?_; refine ex1_3 zq3 fun ob' e' _ nf => ?_; try clear zq3; obtain rfl := is_some eq e'; exact nf _ e4
  have kq : Kq C (fun b => b = e ∨ b = T) s₁.heap h₂ := by
    refine ⟨fun a ob nm t eq => ?_, fun a ob eq nf => ?_, kc⟩
    · refine ex1_2 (hk a ob (fun z => nm (.inl z)) (fun z => nm (.inr z)) eq) fun sl e2 c => ?_
      refine ⟨sl, e2, fun h => c fun hm => ?_⟩
      refine ex0_2 (fr a hm) fun d1 zq4 => ?_; refine ex1_3 zq4 fun ob' e' c' _ => ?_; try clear zq4
      obtain rfl := is_some eq e'
      rcases h with h | h
      · exact h c'
      · exact h d1
    · have ne : a ≠ e ∧ a ≠ T := ⟨fun z => by refine ex1_2 (ff a ob (.inl z) eq) fun vs d _ => ?_; exact nf _ d, fun z => by refine ex1_2 (ff a ob (.inr z) eq) fun vs d _ => ?_; exact nf _ d⟩
      refine ex1_2 (hk a ob ne.1 ne.2 eq) fun sl e2 _ => ?_
      exact ⟨_, e2, rfl, nf⟩
  have d1 := o.k.dead o.t de
  have d2 := o.k.dead o.t dT
  refine ⟨n.k.trans' kq fun a ob eq z => ?_, n.ok.k.trans' kq fun a ob eq z => ?_, TabOK.by (K := fun _ => False) n.ok.t kc fun P hP ob eq => ?_, n.ok.g, n.ok.o⟩
  · rcases z with z | z <;> subst z
    · exact no_some de eq
    · exact no_some dT eq
  · rcases z with z | z <;> subst z
    · exact no_some d1 eq
    · exact no_some d2 eq
  · refine exact_ P ob (fun z => ?_) (fun z => ?_) (fun hm => ?_) eq
    · refine ex1_3 (ff P ob (.inl z) eq) fun vs _ c _ => ?_; exact n.ok.t.notab eq c hP
    · refine ex1_3 (ff P ob (.inr z) eq) fun vs _ c _ => ?_; exact n.ok.t.notab eq c hP
    · refine ex1_1 (C.tabIn P hP) fun _ e' => ?_
      exact no_some ((fr P hm).1) e'

structure Fly (C : Cx) (s s' : Shared) (e : Addr) (fl : Option Value) : Prop where
  nx : Nx C s s'
  new : s.heap.get? e = none
  at_ : ∃ oe vs, s'.heap.get? e = some oe ∧ oe.cls = .type "KeyError" ∧ oe.data = .fields vs ∧ 2 < vs.size ∧ vs[2]? = some .none ∧
    match fl with
    | none => vs[1]? = some .none
    | some f => ∃ T oT ts L, vs[1]? = some (.ref T) ∧ T ≠ e ∧ s.heap.get? T = none ∧ s'.heap.get? T = some oT ∧ oT.cls = .type "traceback" ∧ oT.data = .fields ts ∧ ts[3]? = some f ∧ ts[1]? = some (.ref L)

theorem Fly.one {e : Addr} {fl : Option Value} (F : Fly C s s' e fl) : ∃ ob vs, s'.heap.get? e = some ob ∧ ob.data = .fields vs ∧ ob.cls ≠ .none ∧ ∀ q t, vs[1]? ≠ some (.str q t) := by
  refine ex2_6 F.at_ fun oe vs h1 h2 h3 h4 h5 h6 => ?_
  refine ⟨oe, vs, h1, h3, by rw [h2]; simp, fun q t z => ?_⟩
  cases fl with
  | none => rw [z] at h6; simp at h6
  | some f => refine ex4_2 h6 fun T oT ts L h7 _ => ?_; try clear h6; rw [z] at h7; simp at h7

theorem slots_in {S : List Addr} (hs : Heap.SlotsOnly S h h') {b : Addr} {ob : Obj} (e : h.get? b = some ob) : ∃ sl, h'.get? b = some { ob with slots := sl } ∧ (b ∉ S → sl = ob.slots) := by
  refine ex1_1 (hs.2.2 b ob e) fun sl e1 => ?_
  refine ⟨sl, e1, fun hb => ?_⟩
  have := (hs.2.1 b hb).trans e
  rw [e1] at this
  injection this with this
  exact congrArg Obj.slots this

theorem fly_entry {e L : Addr} {oe : Obj} {vs : Array Value} {head : Value} {b : Bool} {Q : Unit → Shared → Prop} (o : Ok C s) (nx : Nx C s s₁) (de : s.heap.get? e = none) (fr : FrsOk C A s₁.heap) (tp : Top A env) (hL : env.frame = some L)
    (he : s₁.heap.get? e = some oe) (hc : oe.cls = .type "KeyError") (hd : oe.data = .fields vs) (hsz : 2 < vs.size) (h2 : vs[2]? = some .none) (h1 : ∀ q t, vs[1]? ≠ some (.str q t))
    (q : ∀ s', Fly C s s' e (some (rawInt L)) → Q () s') :
    wpAny C.M A (do let a ← frameOf env; let pl ← entryPlaceOf L b; let b ← EntryCells.newEntry head a .none (rawInt L) .none pl; setField (.ref e) 1 b) Q E s₁ := by
  refine ex2_2 tp fun outer L' hfr hL' => ?_; try clear tp
  obtain rfl := is_some hL hL'
  refine wpAny_bind (wpAny_frameOf_fun hfr (fr.funs hfr) hL fun h₁ hs₁ => ?_)
  refine wpAny_bind (wpAny_entryPlaceOf fun pl hpl => ?_)
  unfold EntryCells.newEntry newFields
  refine wpAny_bind (wpAny_newObj_type ?_ (hpl.sizeOk5 _ _ _ _ _))
  have hene : e ∉ (env :: outer).filterMap (·.frame) := fun hm => by
    refine ex0_2 (fr.at_ hfr hm) fun _ zq5 => ?_; refine ex1_3 zq5 fun ob e' _ nf => ?_; try clear zq5
    obtain rfl := is_some he e'; exact nf _ hd
  have he₁ : h₁.get? e = some oe := (hs₁.2.1 e hene).trans he
  generalize hto : ({ cls := .type "traceback", dict := none, data := .fields ([head, .ref L, .none, rawInt L, .none] ++ (if pl.isEmpty then List.replicate 6 Value.none else pl)).toArray } : Obj) = to
  have he₂ := Heap.get?_push_of_some (h := h₁) to he₁
  refine wpAny_setField he₂ hd (by lia) (q _ ?_)
  have hTe : h₁.objs.size ≠ e := Nat.ne_of_gt (Heap.lt_size he₁)
  have hd₃ := Obj.data_mapFields hd (·.setIfInBounds 1 (Value.ref h₁.objs.size))
  have he₃ := Heap.get?_update_self (Obj.mapFields (·.setIfInBounds 1 (Value.ref h₁.objs.size))) he₂ (Obj.isFreed_of_fields hd₃)
  have hT₃ : ((h₁.push to).update e (Obj.mapFields (·.setIfInBounds 1 (Value.ref h₁.objs.size)))).get? h₁.objs.size = some to := (Heap.get?_update_other (h₁.push to) _ (Ne.symm hTe)).trans (Heap.get?_push_size h₁ (by rw [← hto]; rfl))
  have dT : s₁.heap.get? h₁.objs.size = none := by rw [hs₁.1]; exact dead_size
  refine ⟨?_, de, ?_⟩
  · refine Nx.exc (s₁ := s₁) (e := e) (T := h₁.objs.size) (S := (env :: outer).filterMap (·.frame)) o nx de (dead_back nx.k nx.ok.t dT) ⟨oe, vs, he, hd, by rw [hc]; simp, h1⟩ (.inr fun ob z => by exact no_some dT z) (fun b hb => fr.at_ hfr hb) fun b ob hbe hbT hb => ?_
    refine ex1_2 (slots_in hs₁ hb) fun sl e1 c => ?_
    exact ⟨sl, by rw [Heap.get?_update_other _ _ (Ne.symm hbe)]; exact Heap.get?_push_of_some _ e1, c⟩
  · refine ⟨_, _, he₃, (Obj.cls_mapFields _ _).trans hc, hd₃, by simpa using hsz, by rw [Array.getElem?_setIfInBounds_ne (by decide)]; exact h2, h₁.objs.size, to, _, L, by rw [Array.getElem?_setIfInBounds_self_of_lt (by lia)], hTe, dead_back nx.k nx.ok.t dT, hT₃, by rw [← hto], by rw [← hto], ?_, ?_⟩
    · first | (simp; done) | (rcases hpl with rfl | ⟨_, _, _, _, _, _, _, rfl⟩ <;> simp)
    · first | (simp; done) | (rcases hpl with rfl | ⟨_, _, _, _, _, _, _, rfl⟩ <;> simp)

theorem Fly.note {e L : Addr} {fl : Option Value} {Q : Unit → Shared → Prop} (o : Ok C s) (F : Fly C s s' e fl) (fr : FrsOk C A s'.heap) (tp : Top A env) (hL : env.frame = some L) (hfl : fl = none ∨ fl = some .none)
    (q : ∀ s'', Fly C s s'' e (some (rawInt L)) → Q () s'') : wpAny C.M A (noteFrame (.ref e) env) Q E s' := by
  have one := F.one
  refine ex2_6 F.at_ fun oe vs he hc hd hsz h2 h6 => ?_
  have h1 : ∀ q t, vs[1]? ≠ some (.str q t) := by
    refine ex2_4 one fun ob vs' e1 d1 _ x1 => ?_; try clear one
    obtain rfl := is_some he e1; rw [hd] at d1; cases d1; exact x1
  unfold noteFrame
  simp only [hL]
  rcases hfl with rfl | rfl
  · refine wpAny_bind (wpAny_field he hd h6 ?_)
    rw [if_neg (by decide)]
    exact fly_entry o F.nx F.new fr tp hL he hc hd hsz h2 h1 q
  · refine ex4_8 h6 fun T oT ts L' h7 hTe dT eT cT dTs h8 h9 => ?_; try clear h6
    refine wpAny_bind (wpAny_field he hd h7 ?_)
    rw [if_pos (show (Value.ref T != Value.none) = true from by simp)]
    refine wpAny_bind (wpAny_field eT dTs h8 ?_)
    rw [if_neg (show ¬ ((Value.none == rawInt L) = true) from by simp [rawInt])]
    refine wpAny_bind (wpAny_setField eT dTs (Array.getElem?_eq_some_iff.mp h8).1 ?_)
    have other : ∀ b, b ≠ T → (s'.heap.update T (Obj.mapFields (·.setIfInBounds 3 Value.none))).get? b = s'.heap.get? b := fun b hb => Heap.get?_update_other _ _ (Ne.symm hb)
    have nx2 : Nx C s { s' with heap := s'.heap.update T (Obj.mapFields (·.setIfInBounds 3 Value.none)) } := by
      refine Nx.exc (e := e) (T := T) (S := []) o F.nx F.new dT one (.inr fun ob z => ?_) (fun b hb => by simp at hb) fun b ob _ hbT hb => ⟨ob.slots, (other b hbT).trans hb, fun _ => rfl⟩
      obtain rfl := is_some eT z
      exact ⟨ts, dTs, by rw [cT]; simp, fun q t z => by rw [h9] at z; simp at z⟩
    have fr2 : FrsOk C A (s'.heap.update T (Obj.mapFields (·.setIfInBounds 3 Value.none))) := by
      refine ex1_2 fr fun l hl f => ?_; try clear fr
      refine ⟨l, hl, fun env he' => ?_⟩
      refine ex0_2 (f env he') fun f1 zq6 => ?_; refine ex2_5 zq6 fun L₁ ob f2 f3 f4 f5 f6 => ?_; try clear zq6
      refine ⟨f1, L₁, ob, f2, f3, (other L₁ fun z => ?_).trans f4, f5, f6⟩
      subst z; obtain rfl := is_some eT f4; exact f6 _ dTs
    exact fly_entry (s₁ := { s' with heap := s'.heap.update T (Obj.mapFields (·.setIfInBounds 3 Value.none)) }) o nx2 F.new fr2 tp hL ((other e (Ne.symm hTe)).trans he) hc hd hsz h2 h1 q

theorem Fly.land {e : Addr} {f : Value} {Q : Unit → Shared → Prop} (o : Ok C s) (F : Fly C s s' e (some f)) (q : ∀ s'', Fly C s s'' e (some .none) → Q () s'') : wpAny C.M A (setFlight (.ref e) none) Q E s' := by
  have one := F.one
  refine ex2_6 F.at_ fun oe vs he hc hd hsz h2 zq7 => ?_; refine ex4_8 zq7 fun T oT ts L' h7 hTe dT eT cT dTs h8 h9 => ?_; try clear zq7
  unfold setFlight
  refine wpAny_bind (wpAny_field he hd h7 ?_)
  rw [if_pos (show (Value.ref T != Value.none) = true from by simp)]
  have other : ∀ b, b ≠ T → (s'.heap.update T (Obj.mapFields (·.setIfInBounds 3 ((none : Option Addr).elim Value.none fun f => rawInt f)))).get? b = s'.heap.get? b := fun b hb => Heap.get?_update_other _ _ (Ne.symm hb)
  have h3 : 3 < ts.size := (Array.getElem?_eq_some_iff.mp h8).1
  refine wpAny_setField eT dTs h3 (q _ ⟨?_, F.new, ?_⟩)
  · refine Nx.exc (e := e) (T := T) (S := []) o F.nx F.new dT one (.inr fun ob z => ?_) (fun b hb => by simp at hb) fun b ob _ hbT hb => ⟨ob.slots, (other b hbT).trans hb, fun _ => rfl⟩
    obtain rfl := is_some eT z
    exact ⟨ts, dTs, by rw [cT]; simp, fun q t z => by rw [h9] at z; simp at z⟩
  · refine ⟨oe, vs, (other e (Ne.symm hTe)).trans he, hc, hd, hsz, h2, T, _, _, L', h7, hTe, dT, Heap.get?_update_self _ eT (Obj.isFreed_of_fields (Obj.data_mapFields dTs _)), (Obj.cls_mapFields _ _).trans cT, Obj.data_mapFields dTs _, by simp [h3], by rw [Array.getElem?_setIfInBounds_ne (by decide)]; exact h9⟩

noncomputable def Flx (C : Cx) (s : Shared) (v : Value) (s' : Shared) : Prop := ∃ e fl, v = .ref e ∧ Fly C s s' e fl ∧ (fl = none ∨ fl = some .none)

theorem Fly.back {e : Addr} {fl : Option Value} (o : Ok C s₀) (n : Nx C s₀ s) (F : Fly C s s' e fl) : Fly C s₀ s' e fl := by
  refine ex2_6 F.at_ fun oe vs he hc hd hsz h2 h6 => ?_
  refine ⟨n.trans F.nx, dead_back n.k n.ok.t F.new, oe, vs, he, hc, hd, hsz, h2, ?_⟩
  cases fl with
  | none => exact h6
  | some f =>
    refine ex4_4 h6 fun T oT ts L' h7 hTe dT r => ?_; try clear h6
    exact ⟨T, oT, ts, L', h7, hTe, dead_back n.k n.ok.t dT, r⟩
theorem Flx.back {v : Value} (o : Ok C s₀) (n : Nx C s₀ s) (F : Flx C s v s') : Flx C s₀ v s' := by
  obtain ⟨e, fl, rfl, F, hf⟩ := F
  exact ⟨e, fl, rfl, F.back o n, hf⟩

theorem Flx.leave {v : Value} {Q : Unit → Shared → Prop} (o : Ok C s) (F : Flx C s v s') (fr : FrsOk C A s'.heap) (tp : Top A env) (q : ∀ s'', Flx C s v s'' → Q () s'') : wpAny C.M A (leaving env v) Q E s' := by
  obtain ⟨e, fl, rfl, F, hf⟩ := F
  obtain ⟨outer, L, hfr, hL⟩ := id tp
  unfold leaving
  exact wpAny_bind (F.note o fr tp hL hf fun s2 F2 => F2.land o fun s3 F3 => q s3 ⟨e, some .none, rfl, F3, .inr rfl⟩)

noncomputable def EvX (C : Cx) (n : Lv) (sc : Sc) (ρ : Rho) (e : Expr) : Prop :=
  ∀ A env X M s, Sit C n A s → EnvIs C sc env → Mod C env ρ X M s.heap → wpAny C.M A (eval e env) (fun _ _ => False) (Flx C s) s
noncomputable def ElX (C : Cx) (n : Lv) (sc : Sc) (ρ : Rho) (es : List Expr) : Prop :=
  ∀ A env X M s pos, Sit C n A s → EnvIs C sc env → Mod C env ρ X M s.heap → wpAny C.M A (spliced (backTo pos (starEach es env))) (fun _ _ => False) (Flx C s) s
noncomputable def HsX (C : Cx) (n : Lv) (sc : Sc) (ρ : Rho) (ss : List Stmt) : Prop :=
  ∀ A env X M s, Sit C n A s → EnvIs C sc env → Mod C env ρ X M s.heap → Top A env → wpAny C.M A (execs ss env) (fun _ _ => False) (Flx C s) s
noncomputable def CallX (C : Cx) (n : Lv) (f : D) (ds : List D) : Prop :=
  ∀ A X s v vs, Sit C n A s → Xl X s.heap → Rd C s.heap X v f → RdL C s.heap X vs ds → wpAny C.M A (call v vs) (fun _ _ => False) (Flx C s) s

theorem EvX_sub_dict {v i pos kvs k} (h1 : Ev C n sc ρ v (.dict kvs)) (h2 : Ev C n sc ρ i (.byt k)) (hx : kvs.lookup k = none) (hn : n.h = false)
    (hs : ∀ o i', subscripted i false o i' = operate [o, i'] (getItem o i') := by intro _ _; rfl) : EvX C n sc ρ (.Subscript v i pos) := fun A env X M s S e m =>
  Subscript_ (wp_false (h1 A env X M s S e m) fun o s1 zq11 => ex0_2 zq11 fun n1 r1 => wp_false (h2 A env X M s1 (S.next n1) e (m.nx n1 S.ok)) fun iv s2 zq12 => ex0_2 zq12 fun n2 r2 => by
    have r1 := r1.nx n2 n1.ok
    cases r2.i_byt with
    | mk t =>
    cases r1.i_dict with
    | @mk a es _ xa na ea za rl =>
      have M1 := rl.map ea
      rcases rl.find (k := k) with ⟨_, q⟩ | ⟨d', e', q1, q2, q3⟩
      · refine wpAny_sub M1.typeIs F.slot_dict_getitem.lookup (wpAny_getItem_missing_of (knd := bytesKind C.prog C.w) (k := k) (isB_self k t) na (S.hd hn) M1 (by rw [findBy_list, q]; rfl) fun h' e hx => ?_) (hs _ _)
        have n3 : Nx C s2 { s2 with heap := h', toks := s2.toks + 1 } := Nx.keeps n2.ok hx.keeps
        refine ex2_3 hx.there fun ob tv e1 e2 e3 => ?_
        exact ⟨e, none, rfl, ⟨(n1.trans n2).trans n3, dead_back (n1.trans n2).k n2.ok.t hx.new, ob, _, e1, e2, e3, by simp, rfl, rfl⟩, .inl rfl⟩
      · exact no_some hx q1)

theorem CallX_lam {qual : Str} {params : Arguments} {body : Expr} {scope : Scope} {fvs : List (Str × D)} {names : List Str} {ds : List D}
    (hbind : ∀ {name cl pm ct c vs}, vs.length = names.length → bindArgs (kla_fn name qual params body scope cl pm c ct) ⟨vs, []⟩ = pure (names.zip vs)) (hn : ds.length = names.length) (hcl : clOk scope.names (extRho fvs) = true) (hbs : bindsOk scope.names (extRho fvs) (names.zip ds) = true)
    (hk : scope.kind = .function) (hco : scope.isCoroutine = false) (hgen : scope.isGenerator = false)
    (hbody : EvX C n ⟨scope, qual ++ ".<locals>.", none⟩ (bindsRho (extRho fvs) (names.zip ds)) body) : CallX C n.up (.lam qual params body scope fvs) ds := fun A X s v vs S x rv r => by
  cases rv.i_lam with
  | mk nX ho hcd rc =>
    refine lam_block (args := ⟨vs, []⟩) S x ho hcd (hbind (by rw [r.length, hn])) rc.toK hcl (RdB.zip r) hbs hk hco hgen fun env X2 M2 s2 S2 en m2 tp hX2 k2 => ?_
    have nx2 : Nx C s s2 := ⟨k2, S2.ok⟩
    refine wpAny_mono (hbody _ env X2 M2 s2 S2 en m2) (fun _ _ z => z.elim) fun e s3 F => ?_
    have fr3 : FrsOk C (A.deeper env) s3.heap := by
      refine ex2_3 (id F) fun _ _ _ F' _ => ?_
      exact S2.fr.keep (M := fun _ => False) F'.nx.k
    exact F.leave S2.ok fr3 tp fun s4 F4 => F4.back S.ok nx2

theorem EvX_callv {x : Str} {np pos : Pos} {e : Expr} {rest : List Expr} {ds : List D} {f : D} (hf : Ev C n sc ρ (.Name x np) f) (hfn : f.isFn = true) (he : El C n sc ρ (e :: rest) ds) (hc : CallX C n f ds)
    (h1 : ∀ env, starEach (e :: rest) env = (false, eval e env) :: starEach rest env := by intro env; rfl)
    (h3 : ∀ env, eval (.Call (.Name x np) (e :: rest) [] pos) env = (do callWith pos (← eval (.Name x np) env) [] (backTo pos (starEach (e :: rest) env)) (backToKw pos (keywordEach [] env))) := by intro env; rfl) : EvX C n sc ρ (.Call (.Name x np) (e :: rest) [] pos) := fun A env X M s S en m => by
  refine Call_ (he := h3 env) (wp_false (hf A env X M s S en m) fun fv s0 zq13 => ex0_2 zq13 fun n0 rf => ?_)
  have m0 := m.nx n0 S.ok
  have fin : ∀ {a : Addr} {o : Obj} {fd : FuncData}, fv = .ref a → s0.heap.get? a = some o → o.data = .func fd → o.cls = .type "function" → wpAny C.M A (callWith pos fv [] (backTo pos (starEach (e :: rest) env)) []) (fun _ _ => False) (Flx C s) s0 := fun {a o fd} ev ho hd hcl => by
    subst ev
    refine callWith_def (he := h1 env) (o := o) hd ?_
    exact wp_false (he A env X M s0 pos (S.next n0) en m0) fun vs s1 zq14 => ex0_2 zq14 fun n1 r1 => ⟨n1.k.exact id (n0.ok.t.notab ho (by rw [hcl]; simp)) ho (by rw [hcl]; simp), wpAny_mono (hc A X s1 _ vs ((S.next n0).next n1) (m0.nx n1 n0.ok).xl (rf.nx n1 n0.ok) r1) (fun _ _ z => z) fun v s2 F => F.back S.ok (n0.trans n1)⟩
  exact ex3_4 (rf.fn hfn) fun _ _ _ ev ho hd hc => fin ev ho hd hc

theorem ElX_head {x rest} (h : EvX C n sc ρ x) (he : ∀ env, starEach (x :: rest) env = (false, eval x env) :: starEach rest env := by intro env; rfl) : ElX C n sc ρ (x :: rest) := fun A env X M s pos S e m =>
  args_cons (he := he env) (wpAny_mono (h A env X M s S e m) (fun _ _ z => z.elim) fun _ _ z => z)
theorem EvX_tuple {es k pos} (h : ElX C n sc ρ es) : EvX C n sc ρ (.Tuple es k pos) := fun A env X M s S e m =>
  Tuple_ (wpAny_mono (h A env X M s pos S e m) (fun _ _ z => z.elim) fun _ _ z => z)

theorem HsX_wladd {fi fa fg fr : Addr} {e : Expr} {xp ap cp pos : Pos} {l : List Itm} {rest : List Stmt} (W : WLF C fi fa fg fr) (ca : ∃ o fd, C.h₁.get? fa = some o ∧ o.data = .func fd ∧ o.cls = .type "function") (hx : ρ.get x = .wl l) (he : EvX C n sc ρ e)
    (hcall : ∀ env, eval (.Call (.Attribute (.Name x xp) "add" ap) [e] [] cp) env = (do
      let ov ← eval (.Name x xp) env
      standAt ap.atName
      let fx ← holding [ov] (getMethod ov "add" (plOf (.Name x xp) env))
      callWith cp fx.1 fx.2 (backTo cp (starEach [e] env)) (backToKw cp (keywordEach [] env))) := by intro env; rfl)
    (htrees : ∀ env, backTo cp (starEach [e] env) = [(false, eval e env)] := by intro env; rfl)
    (hd : (x == ("__debug__" : Str)) = false := by decide) (hn : (x == ("__classdict__" : Str)) = false := by decide) :
    HsX C n sc ρ (.Expr (.Call (.Attribute (.Name x xp) "add" ap) [e] [] cp) pos :: rest) := fun A env X M s S en m tp => by
  have hint : interactive env = false := by simp [interactive, m.kind]
  refine wpAny_execs_cons (wpAny_Expr_any (hi := hint) (hs := rfl) ?_)
  rw [hcall env]
  obtain ⟨a, p, lk, w, Mp, -⟩ := m.wl S.ok.t hx
  refine wpAny_bind (eval_name_eq m lk (wpAny_bind (wpAny_standAt (wpAny_bind (wpAny_holding (wl_meth W S.ok w W.add W.ta W.sa ?_))))) hd hn)
  refine ex2_3 ca fun fo fd ef hfd hfc => ?_; try clear ca
  show wpAny C.M A (callWith cp (.ref fa) [.ref a] (backTo cp (starEach [e] env)) []) _ _ s
  rw [htrees env]
  exact Calls.callWith_function (o := fo) (fd := fd) (Calls.evalArgs_plain (Calls.spliced_cons (wpAny_mono (he A env X M s S en m) (fun _ _ z => z.elim) fun _ _ z => z)))

theorem HsX_assign {y : Str} {yp pos : Pos} {e : Expr} {rest : List Stmt} (he : EvX C n sc ρ e) (hs : ∀ env, swapsWith e (some (.Name y yp)) pos.line env = pure false := by intro env; rfl) : HsX C n sc ρ (.Assign [.Name y yp] e pos :: rest) := fun A env X M s S en m tp =>
  wpAny_execs_cons (wpAny_Assign_Name (hs := hs env) (wpAny_mono (he A env X M s S en m) (fun _ _ z => z.elim) fun _ _ z => z))

theorem H1_try_ok {body : List Stmt} {h₀ : ExceptHandler} {hs : List ExceptHandler} {pos : Pos} {Q : Fl → Rho → Prop} (h : Hs C n sc ρ body Q) : H1 C n sc ρ (.Try body (h₀ :: hs) [] [] pos) Q := fun A env X M s S en m tp =>
  wpAny_Try_except (wp_false (h A env X M s S en m tp) fun f s1 q => by
    cases f with
    | next => exact wpAny_execs_nil q
    | _ => exact q)

theorem H1_try_exc {body : List Stmt} {b₀ : Stmt} {suite : List Stmt} {np hp pos : Pos} {Q : Fl → Rho → Prop} (hb : HsX C n sc ρ body) (hh : Hs C ⟨n.k, true⟩ sc ρ (b₀ :: suite) Q) (hk : sc.scope.names.lookup ("KeyError" : Str) = some .globalImplicit := by rfl) :
    H1 C n sc ρ (.Try body [.ExceptHandler (some (.Name "KeyError" np)) none (b₀ :: suite) hp] [] [] pos) Q := fun A env X M s S en m tp => by
  refine wpAny_Try_except (wpAny_mono (hb A env X M s S en m tp) (fun _ _ z => z.elim) fun v s1 F => ?_)
  obtain ⟨e, fl, rfl, F, hf⟩ := F
  obtain ⟨outer, L, hfr, hL⟩ := id tp
  refine F.note S.ok (S.next F.nx).fr tp hL hf fun s2 F2 => F2.land S.ok fun s3 F3 => ?_
  have m3 := m.nx F3.nx S.ok
  refine wpAny_handleBy_builtin (X := "KeyError") (T := "KeyError") (b := true) (by rw [isSubtype_type]; kernel_rfl) (by rw [isSubtype_type]; kernel_rfl) (by rw [isSubtype_type]; kernel_rfl) (wpAny_bi F3.nx.ok en m3 hk rfl ⟨rfl, ?_, ?_⟩ (by decide))
  · refine ex2_3 F3.at_ fun oe vs he hc _ => ?_
    exact ⟨oe, he, hc⟩
  rw [if_pos rfl]
  refine F3.land S.ok fun s4 F4 => ?_
  have S4 := S.next F4.nx
  have S4' : Sit C ⟨n.k, true⟩ (A.mark (some (.ref e))) s4 := by
    refine ⟨(fun z => by cases z), (fun _ => ?_), S4.dp, S4.un, S4.fr, S4.ok⟩
    refine ex2_6 F4.at_ fun oe vs he hc hd hsz h2 _ => ?_
    exact ⟨e, oe, vs, rfl, he, by rw [hc]; simp, hd, h2⟩
  refine wp_false (hh _ env X M s4 S4' en (m.nx F4.nx S.ok) tp) fun f s5 ⟨fl', ρ', X', M', q, r, p⟩ => ⟨fl', ρ', X', M', q, r, (Post.of (m.nx F4.nx S.ok) (.of_kp F4.nx.k) F4.nx.ok).trans m p⟩
end
end Mine
namespace Mine

section
variable {C : Cx} {n : Lv} {sc : Sc} {ρ ρ' : Rho} {env : Env} {X M X' M' fp : Addr → Prop} {s₀ s s' s₁ : Shared} {h h' h₂ : Heap} {x : Str} {A : Around} {E : Value → Shared → Prop}

theorem list_upd {b : Addr} {vs vs' : List Value} {k : Nat} {f : Array Value → Array Value} {Q : Unit → Shared → Prop} (o : Ok C s) (hb : C.h₁.get? b = none) (e : s.heap.get? b = some (seqO "list" vs k)) (hf : f vs.toArray = vs'.toArray)
    (z : vs.length ≤ BIG) (z' : vs'.length ≤ BIG) (q : ∀ h' k', h'.get? b = some (seqO "list" vs' k') → Kq C (fun c => c = b) s.heap h' → Ok C { s with heap := h' } → Heap.SameBut b s.heap h' → Q () { s with heap := h' }) :
    wpAny C.M A (Builtin.List.listUpdate (.ref b) f) Q E s := by
  have hB : BIG ≤ sizeLine := by decide
  refine listUpdate_at e rfl ?_ (by rw [List.size_toArray]; lia) (by rw [hf, List.size_toArray]; lia)
  have up := get?_update_seq e f
  rw [hf] at up
  have hs := Heap.SameBut.update s.heap b (Obj.mapSeq f)
  have kb : ∀ o, s.heap.get? b = some o → NF o → ∃ o', (s.heap.update b (Obj.mapSeq f)).get? b = some o' ∧ o'.cls = o.cls ∧ NF o' := fun o e' _ => by
    obtain rfl := is_some e e'; exact ⟨_, up, rfl, fun _ z => by cases z⟩
  have nf : ∀ o, s.heap.get? b = some o → NF o := fun o e' => by obtain rfl := is_some e e'; exact fun _ z => by cases z
  exact q _ _ up (Kq.one (fun c hc o e => (hs.2 c hc).trans e) kb nf rfl) (o.touch (t := s.toks) hs kb hb nf) hs

theorem Sit.in1 (S : Sit C n.up A s) : Sit C n A.in1.in1 s := ⟨S.hd, S.hx, by have := S.dp; show A.depth + 10 * n.k ≤ 900; dsimp at this; lia, by have := S.un; show A.units + 1 + 1 + 100 * n.k ≤ 9000; dsimp at this; lia, S.fr, S.ok⟩

structure KeyOk (C : Cx) {α : Type} (key : α → D) (lt : α → α → Bool) (κ : SortKind) : Prop where
  kind : ∀ A s X (l : List α) ks (Q : SortKind → Shared → Prop) (E : Value → Shared → Prop), 2 ≤ l.length → RdL C s.heap X ks (l.map key) → Q κ s → wpAny C.M A (keyKind' ks.toArray) Q E s
  lt : ∀ A s X x y v w (Q : Bool → Shared → Prop) (E : Value → Shared → Prop), A.units ≤ 9300 → Rd C s.heap X v (key x) → Rd C s.heap X w (key y) → Q (lt x y) s → wpAny C.M A (keyLt' κ v w) Q E s

theorem KeyOk.int {α : Type} (f : α → Int) : KeyOk C (fun x => .int (f x)) (fun x y => decide (f x < f y)) oneType' where
  kind := fun A s X l ks Q E h2 r q => by
    have r' : RdL C s.heap X ks ((l.map f).map .int) := by rw [List.map_map]; exact r
    rw [ksk_kind (keys := ks.toArray) (kz := l.map f) (by simpa using r'.ints) (by rw [List.size_toArray, r.length, List.length_map]; exact h2)]
    exact wpAny_pure q
  lt := fun A s X x y v w Q E hu r1 r2 q => by
    cases r1.i_int; cases r2.i_int
    exact kat_lt_int q

theorem RdL.tups {α : Type} {f : α → Int} {g : α → Array UInt8} {l : List α} : ∀ {ks : List Value}, RdL C h X ks (l.map fun x => .tup [.int (f x), .byt (g x)]) → ∃ fs, KatTups h ks fs ∧ fs.length = l.length ∧ ∀ v ∈ fs, ∃ i t, v = .int i t := by
  induction l with
  | nil => intro ks r; cases r.i_nil; exact ⟨[], .nil, rfl, fun _ h => (List.not_mem_nil h).elim⟩
  | cons a l ih =>
    intro ks r
    cases r.i_cons with
    | mk r1 q =>
    refine ex1_3 (ih q) fun fs k hl hi => ?_
    cases r1.i_tup with
    | @mk b vs j nx e z rl =>
      refine ex2_3 rl.two fun y w zq1 ra rb => ?_; subst zq1
      cases ra.i_int with
      | mk t =>
        refine ⟨.int (f a) t :: fs, .cons e rfl rfl rfl k, by simp [hl], fun v hv => ?_⟩
        rcases List.mem_cons.mp hv with rfl | hv
        · exact ⟨_, t, rfl⟩
        · exact hi v hv

theorem KeyOk.pair {α : Type} (f : α → Int) (g : α → Array UInt8) : KeyOk C (fun x => .tup [.int (f x), .byt (g x)]) (fun x y => ltI (f x, g x) (f y, g y)) (tuples' true) where
  kind := fun A s X l ks Q E h2 r q => by
    refine ex1_3 (RdL.tups r) fun fs k hl hi => ?_
    refine kat_kind (T := .type "int") k (by lia) (fun v hv => ?_) (by decide) q
    refine ex2_1 (hi v hv) fun i t zq2 => ?_; subst zq2
    exact .now
  lt := fun A s X x y v w Q E hu r1 r2 q => by
    cases r1.i_tup with
    | @mk a vs j n1 e1 z1 rl1 =>
    cases r2.i_tup with
    | @mk b ws k n2 e2 z2 rl2 =>
      refine ex2_3 rl1.two fun p1 p2 zq3 ra rb => ?_; subst zq3
      refine ex2_3 rl2.two fun q1 q2 zq4 ra' rb' => ?_; subst zq4
      refine kat_lt e1 rfl e2 rfl ?_
      show KatLex _ _ _ _ _ _ [(p1, q1), (p2, q2)] 0 s
      have c1 := Eqv_int (C := C) (a := f x) (b := f y) A s X p1 q1 (by lia) ra ra'
      have c2 := Eqv_byt (C := C) (a := g x) (b := g y) A s X p2 q2 (by lia) rb rb'
      cases ra.i_int with
      | mk t =>
      cases ra'.i_int with
      | mk u =>
      cases rb.i_byt with
      | mk t1 =>
      cases rb'.i_byt with
      | mk t2 =>
      refine kat_cons (c1 _ _ _ _ ?_)
      by_cases h1 : f x = f y
      · rw [decide_eq_true h1]
        refine kat_yes (kat_cons (c2 _ _ _ _ ?_))
        by_cases h2 : g x = g y
        · rw [decide_eq_true h2]
          refine kat_yes (kat_nil ?_)
          have : ltI (f x, g x) (f y, g y) = false := by unfold ltI; simp [h1, h2]
          rw [this] at q; exact q
        · rw [decide_eq_false h2]
          refine kat_no ?_
          have : ltI (f x, g x) (f y, g y) = ltB (g x) (g y) := by unfold ltI; simp [h1, h2]
          rw [this] at q
          exact kat_one _ _ (lt_bytes q)
      · rw [decide_eq_false h1]
        refine kat_no ?_
        have : ltI (f x, g x) (f y, g y) = decide (f x < f y) := by unfold ltI; simp [h1]
        rw [this] at q
        exact oneLt_int q

theorem getD_rd {vs : List Value} {ds : List D} (r : RdL C h X vs ds) {i : Nat} (hi : i < vs.length) : ∃ d, ds[i]? = some d ∧ Rd C h X (vs.getD i .none) d := by
  have e : vs[i]? = some (vs.getD i .none) := by simp [hi]
  exact r.get e

structure Kys (C : Cx) (X : Addr → Prop) (s : Shared) (a kS : Addr) (e1 : Nat) (s' : Shared) (ks : List Value) (kds : List D) : Prop where
  kq : Kq C (fun b => b = a) s.heap s'.heap
  ok : Ok C s'
  at_ : s'.heap.get? a = some (seqO "list" [] e1)
  ks_ : ∃ k, s'.heap.get? kS = some (seqO "list" ks k)
  rd : RdL C s'.heap (fun b => X b ∨ b = kS) ks kds

theorem keys_made {α : Type} {dat key : α → D} {a kS : Addr} {e1 : Nat} {f : Value} {fD : D} (S : Sit C n A s) (hX : Xl X s.heap) (hXa : X a) (hnk : s.heap.get? kS = none) (hfr : ∀ b, b = a → ∃ o, s.heap.get? b = some o ∧ NF o)
    (rf : Rd C s.heap X f fD) {body : Value → PUnit → Sem (ForInStep PUnit)}
    (hb : ∀ v (s' : Shared) (R : ForInStep PUnit → Shared → Prop), wpAny C.M A (call f [v]) (fun k s'' => wpAny C.M A (Builtin.List.listUpdate (.ref kS) (·.push k)) (fun _ s3 => R (.yield ⟨⟩) s3) E s'') (fun _ _ => False) s' → wpAny C.M A (body v ⟨⟩) R E s') :
    ∀ (l : List α) (vs ks : List Value) (kds : List D) (s' : Shared) (Q : PUnit → Shared → Prop), (∀ x ∈ l, CallV C n fD [dat x] (key x)) → RdL C s.heap X vs (l.map dat) → ks.length + vs.length ≤ BIG → Kys C X s a kS e1 s' ks kds →
      (∀ s'' ks', Kys C X s a kS e1 s'' ks' (kds ++ l.map key) → Q ⟨⟩ s'') → wpAny C.M A (forIn vs PUnit.unit body) Q E s'
  | [], _, ks, kds, s', Q, _, .nil, _, K, q => by
    rw [List.forIn_nil]
    exact wpAny_pure (q s' ks (by simpa using K))
  | x :: l, _, ks, kds, s', Q, hc, .cons (v := v) (vs := vs) rv r, hz, K, q => by
    rw [List.forIn_cons]
    have dk := S.ok.k.dead S.ok.t hnk
    have fresh : ∀ b o, s.heap.get? b = some o → (X b ∨ b = kS) → X b := fun b o e z => z.elim id fun z => by subst z; exact no_some hnk e
    have sub : ∀ b, b = a → (X b ∨ b = kS) := fun b z => .inl (z ▸ hXa)
    have S' : Sit C n A s' := S.step K.kq K.ok hfr
    refine ex1_1 K.ks_ fun kk ek => ?_
    have hX' : Xl (fun b => X b ∨ b = kS) s'.heap := fun b z => by
      rcases z with z | z
      · refine ex1_1 (hX b z) fun o e => ?_
        by_cases zt : b ∈ tabs
        · refine ex1_2 (K.ok.t b zt) fun ps e' _ => ?_; exact ⟨_, e'⟩
        · by_cases za : b = a
          · subst za; exact ⟨_, K.at_⟩
          · refine ex1_2 (K.kq.same b o za zt e) fun sl e' _ => ?_; exact ⟨_, e'⟩
      · exact ⟨_, z ▸ ek⟩
    have rv' : Rd C s'.heap (fun b => X b ∨ b = kS) v (dat x) := (rv.anti fresh).keep K.kq sub S.ok.t
    have rf' : Rd C s'.heap (fun b => X b ∨ b = kS) f fD := (rf.anti fresh).keep K.kq sub S.ok.t
    refine wpAny_bind (hb v s' _ (wp_false (hc x (.head _) A _ s' f [v] S' hX' rf' (.one rv')) fun k s2 zq5 => ex0_2 zq5 fun n2 r2 => ?_))
    have ek2 : s2.heap.get? kS = some (seqO "list" ks kk) := n2.k.exact id (K.ok.t.notab ek (by simp)) ek (by simp)
    have ea2 : s2.heap.get? a = some (seqO "list" [] e1) := n2.k.exact id (K.ok.t.notab K.at_ (by simp)) K.at_ (by simp)
    have lk : ks.length ≤ BIG := by lia
    have hz' : ks.length + (vs.length + 1) ≤ BIG := hz
    refine list_upd (vs' := ks ++ [k]) n2.ok dk ek2 (by simp) lk (by rw [List.length_append, List.length_singleton]; lia) fun h3 k3 e3 q3 o3 hs3 => ?_
    have nka : a ≠ kS := fun z => by
      refine ex1_2 (hfr a rfl) fun o e _ => ?_
      rw [z, hnk] at e; cases e
    refine keys_made S hX hXa hnk hfr rf hb l vs (ks ++ [k]) (kds ++ [key x]) _ Q (fun y hy => hc y (.tail _ hy)) r (by rw [List.length_append, List.length_singleton]; lia) ?_ fun s4 ks4 K4 => q s4 ks4 (by simpa using K4)
    refine ⟨(K.kq.trans (Kq.of_kp n2.k)).trans' q3 (fun b o e z => by subst z; exact no_some hnk e), o3, (hs3.2 a nka).trans ea2, ⟨k3, e3⟩, RdL.append ?_ (.one ?_)⟩
    · exact (K.rd.nx n2 K.ok).keep q3 (fun b z => .inr z) n2.ok.t
    · exact r2.keep q3 (fun b z => .inr z) n2.ok.t

theorem sort_tree {α : Type} {dat key : α → D} {lt : α → α → Bool} {κ : SortKind} {a : Addr} {k : Nat} {f : Value} {fD : D} {l : List α} {vs : List Value} {Q : PySem.Fin → Shared → Prop} (ko : KeyOk C key lt κ)
    (S : Sit C n A s) (hu : A.units ≤ 9300) (hX : Xl X s.heap) (hXa : X a) (hna : C.h₁.get? a = none) (ho : s.heap.get? a = some (seqO "list" vs k)) (h64 : l.length < 64) (rl : RdL C s.heap X vs (l.map dat)) (rf : Rd C s.heap X f fD)
    (hc : ∀ x ∈ l, CallV C n fD [dat x] (key x)) (hask : Askd lt l)
    (q : ∀ s' vs' k', Kq C (fun b => b = a) s.heap s'.heap → Ok C s' → s'.heap.get? a = some (seqO "list" vs' k') → RdL C s'.heap X vs' ((srt lt l).map dat) → vs'.length ≤ BIG → Q (.done (.ret .none)) s') :
    wpAny C.M A (ksk_tree a f false) Q E s := by
  have hB : BIG = 1048576 := rfl
  have lv : vs.length = l.length := by simpa using rl.length
  have zv : vs.length ≤ BIG := by lia
  unfold ksk_tree
  refine wpAny_bind (listItems_at ho rfl ?_)
  refine wpAny_bind (list_upd (vs' := []) S.ok hna ho rfl zv (by decide) fun h1 e1 o1 q1 ok1 hs1 => ?_)
  refine wpAny_bind (seqEpoch_at o1 rfl ?_)
  refine wpAny_bind (wpAny_newTuple ?_ (big_line (by simpa using zv)))
  refine wpAny_bind (wpAny_newList ?_ (big_line (by decide)))
  refine wpAny_holding ?_
  generalize hs2 : ({ s with heap := (h1.push { cls := .type "tuple", data := .seq vs.toArray.toList.toArray }).push { cls := .type "list", data := .seq ([] : List Value).toArray } } : Shared) = s2
  have ext2 : ∀ b o, h1.get? b = some o → s2.heap.get? b = some o := fun b o e => by rw [← hs2]; exact push_keeps _ _ _ (push_keeps _ _ _ e)
  have nx2 : Nx C { s with heap := h1 } s2 := by
    have := Nx.keeps' (s := { s with heap := h1 }) (h' := s2.heap) ok1 ext2
    rw [← hs2] at this ⊢; exact this
  generalize hkS : (h1.push { cls := .type "tuple", data := .seq vs.toArray.toList.toArray }).objs.size = kS
  have ekS : s2.heap.get? kS = some (seqO "list" [] 0) := by rw [← hs2, ← hkS]; exact Heap.get?_push_size _ rfl
  have dkS : s.heap.get? kS = none := by
    cases e : s.heap.get? kS with
    | none => rfl
    | some o =>
      have := Heap.lt_size e
      rw [← hkS, Heap.size_push, hs1.1] at this
      exact absurd this (Nat.not_lt.mpr (Nat.le_succ _))
  have dk := S.ok.k.dead S.ok.t dkS
  have ea2 : s2.heap.get? a = some (seqO "list" [] e1) := ext2 _ _ o1
  have nka : a ≠ kS := fun z => by rw [z, dkS] at ho; cases ho
  have fresh : ∀ b o, s.heap.get? b = some o → (X b ∨ b = kS) → X b := fun b o e z => z.elim id fun z => by subst z; exact no_some dkS e
  have fra : ∀ b, b = a → ∃ o, s.heap.get? b = some o ∧ NF o := fun b z => ⟨_, z ▸ ho, fun _ y => by cases y⟩
  have K0 : Kys C X s a kS e1 s2 [] [] := ⟨q1.trans (Kq.of_kp nx2.k), nx2.ok, ea2, ⟨0, ekS⟩, .nil⟩
  have lst : (vs.toArray : Array Value).toList = vs := by simp
  have goal : wpAny C.M A (ksk_rest a f false vs.toArray e1 (.ref kS)) Q E s2 := by
    unfold ksk_rest
    refine wpAny_bind (wpAny_rule ?_)
    first
      | rw [List.forIn_toArray]
      | (rw [← Array.forIn_toList]; simp only [List.toList_toArray])
    refine wpAny_bind (keys_made (dat := dat) (key := key) (X := X) (e1 := e1) S hX hXa dkS fra rf (fun v s' R hR => ?_) l vs [] [] s2 _ hc rl (by simpa using zv) K0 fun s3 ks3 K3 => ?_)
    · refine wpAny_bind (wpAny_attempt (wpAny_mono hR (fun k s'' hk => ?_) fun _ _ hF => hF.elim))
      try dsimp only
      exact wpAny_bind (wpAny_mono hk (fun _ s3 h3 => wpAny_pure h3) fun _ _ e => e)
    · rw [List.nil_append] at K3
      refine ex1_1 K3.ks_ fun k3 ek3 => ?_
      have lks : ks3.length = l.length := by simpa using K3.rd.length
      refine wpAny_bind (listItems_at ek3 rfl ?_)
      -- the tail
      have tail : ∀ (st : SortSt) (out : List Value) (s4 : Shared), s4 = s3 → (arrOf st).map (·.2) = out.toArray → failedOf st = none → out.length ≤ BIG → RdL C s3.heap (fun b => X b ∨ b = kS) out ((srt lt l).map dat) → wpAny C.M A (ksk_tail a false e1 (.ref kS) st) Q E s4 := by
        intro st out s4 es hout hf hz ro
        subst es
        unfold ksk_tail
        try dsimp only
        rw [hout]
        refine wpAny_bind (list_upd (vs' := []) K3.ok dk ek3 rfl (by lia) (by decide) fun h5 k5 e5 q5 o5 hs5 => ?_)
        refine wpAny_bind (wpAny_letGo ?_)
        have ea5 : h5.get? a = some (seqO "list" [] e1) := (hs5.2 a nka).trans K3.at_
        refine wpAny_bind (seqEpoch_at ea5 rfl ?_)
        refine wpAny_bind (list_upd (vs' := out) (s := { s4 with heap := h5 }) o5 hna ea5 (by simp) (by decide) hz fun h6 k6 e6 q6 o6 hs6 => ?_)
        rw [hf]
        simp only [bne_self_eq_false, Bool.false_eq_true, if_false]
        refine wpAny_pure (q _ out k6 ?_ o6 e6 ?_ hz)
        · exact (K3.kq.trans' q5 (fun b o e z => by subst z; exact no_some dkS e)).trans q6
        · have r2 := ro.keep q5 (fun b z => .inr z) K3.ok.t
          exact (r2.anti (X' := X) fun b o e z => .inl z).keep q6 (fun b z => z ▸ hXa) o5.t
      have rl3 : RdL C s3.heap (fun b => X b ∨ b = kS) vs (l.map dat) := (rl.anti fresh).keep K3.kq (fun b z => .inl (z ▸ hXa)) S.ok.t
      unfold ksk_end
      try dsimp only
      simp only [Bool.false_eq_true, if_false]
      by_cases h2 : vs.toArray.size < 2
      · rw [if_pos h2, if_pos h2]
        have hsrt : srt lt l = l := by unfold srt; rw [if_pos (by rw [List.size_toArray] at h2; lia)]
        refine wpAny_bind (wpAny_pure (wpAny_bind (wpAny_pure ?_)))
        refine tail _ vs s3 rfl ?_ rfl zv (by rw [hsrt]; exact rl3)
        show ((ks3.toArray.zip vs.toArray).map (·.2)) = vs.toArray
        apply Array.toList_inj.mp
        rw [Array.toList_map, ksk_zip]
        show (List.zip ks3 vs).map Prod.snd = vs
        exact List.map_snd_zip (by lia)
      · rw [if_neg h2, if_neg h2]
        have h2' : 2 ≤ vs.length := by rw [List.size_toArray] at h2; lia
        refine ex0_2 (hask (by lia)) fun hk1 hk2 => ?_
        refine wpAny_bind (ko.kind A s3 (fun b => X b ∨ b = kS) l ks3 _ _ (by lia) K3.rd ?_)
        refine wpAny_bind (wpAny_mono (kat_run (Q := fun st' s' => s' = s3 ∧ arrOf st' = (krun (cOf lt l) (kas_sort l.length)).map (kas_item (ks3.toArray.zip vs.toArray)) ∧ failedOf st' = none ∧ (krun (cOf lt l) (kas_sort l.length)).size = vs.length) (G := fun p s' => s' = s3 ∧ p = krun (cOf lt l) (kas_sort l.length))
          (by lia) h2' (by lia) (fun p st' s' a1 a2 a3 a4 => ⟨a4.1, by rw [a2, a4.2], a3, by rw [← a4.2]; exact a1⟩) ?_) ?_ fun _ _ x => x)
        · rw [lv]
          refine kasWp_krun (I := fun s' => s' = s3) (fun i j K s' hi hj hI hK => ?_) _ _ hk1 rfl fun s' hs => ⟨hs, rfl⟩
          subst hI
          refine ex1_2 (getD_rd K3.rd (i := i) (by lia)) fun d1 g1 r1 => ?_
          refine ex1_2 (getD_rd K3.rd (i := j) (by lia)) fun d2 g2 r2 => ?_
          rw [List.getElem?_map, List.getElem?_eq_getElem hi] at g1
          rw [List.getElem?_map, List.getElem?_eq_getElem hj] at g2
          cases g1; cases g2
          have := ko.lt A s' (fun b => X b ∨ b = kS) l[i] l[j] _ _ K (fun _ _ => False) hu r1 r2
          unfold kas_ask
          refine this ?_
          rw [← cOf_eq (lt := lt) hi hj]
          exact hK s' rfl
        · intro zi1 s' zi2; obtain ⟨⟨⟩, st'⟩ := zi1; refine ex0_4 zi2 fun hs har hf hpz => ?_; try clear zi2
          try dsimp only
          have key : ∀ is : List Nat, (∀ i ∈ is, i < l.length) → RdL C s3.heap (fun b => X b ∨ b = kS) (is.map fun i => vs.getD i Value.none) ((is.filterMap fun i => l[i]?).map dat) := by
            intro is
            induction is with
            | nil => intro _; exact .nil
            | cons i is ih =>
              intro hi
              have h0 := hi i (.head _)
              refine ex1_2 (getD_rd rl3 (i := i) (by lia)) fun d g r => ?_
              rw [List.getElem?_map, List.getElem?_eq_getElem h0] at g
              cases g
              rw [List.filterMap_cons, List.getElem?_eq_getElem h0]
              exact .cons r (ih fun j hj => hi j (.tail _ hj))
          have ro := key _ hk2
          have hsrt : srt lt l = (krun (cOf lt l) (kas_sort l.length)).toList.filterMap fun i => l[i]? := by unfold srt; rw [if_neg (by lia)]
          rw [← hsrt] at ro
          refine tail st' _ s' hs (kat_snds (by lia) har) hf ?_ ro
          rw [ro.length, List.length_map, hsrt]
          have := List.length_filterMap_le (fun i => l[i]?) (krun (cOf lt l) (kas_sort l.length)).toList
          have hpz' : (krun (cOf lt l) (kas_sort l.length)).toList.length = vs.length := by rw [Array.length_toList]; exact hpz
          exact Nat.le_trans (by simpa using this) (by lia)
  exact goal
end
end Mine
namespace Mine

section
variable {C : Cx} {n : Lv} {sc : Sc} {ρ ρ' : Rho} {env : Env} {X M X' M' fp : Addr → Prop} {s₀ s s' s₁ : Shared} {h h' h₂ : Heap} {x : Str} {A : Around} {E : Value → Shared → Prop}

theorem call_sortedK {α : Type} {dat key : α → D} {lt : α → α → Bool} {κ : SortKind} {fD : D} {l : List α} (ko : KeyOk C key lt κ) (hfn : fD.isFn = true) (hc : ∀ x ∈ l, CallV C n fD [dat x] (key x)) (hask : Askd lt l) (h64 : l.length < 64)
    {v f : Value} (S : Sit C n.up A s) (hX : Xl X s.heap) (rv : Rd C s.heap X v (.list (l.map dat))) (rf : Rd C s.heap X f fD) :
    wpAny C.M A (call (.builtin "sorted") [v] [(Str.ofString "key", f)]) (fun v s' => Nx C s s' ∧ Rd C s'.heap X v (.list ((srt lt l).map dat))) E s := by
  have hB : BIG = 1048576 := rfl
  have hBs : BIG ≤ sizeLine := by decide
  refine ex3_4 (rf.fn hfn) fun q _ _ zq1 _ _ _ => ?_; subst zq1
  cases rv.i_list with
  | @mk a vs k xa ea za rl =>
  have lv : vs.length = l.length := by simpa using rl.length
  refine call_function_entry_kw kind_sorted plain_sorted entry_sorted (ksk_s1 _ _) ?_
  unfold Builtin.«sorted»
  refine wpAny_bind (m := checkCount "sorted" 1 1 _) (wpAny_pure ?_)
  refine wpAny_bind (collect_list (isLst ea) ?_ (by lia))
  have big0 : (s.heap.push (seqObj "list" #[] 0)).get? s.heap.objs.size = some (seqO "list" [] 0) := Heap.get?_push_size _ rfl
  generalize hg : (s.heap.push (seqObj "list" #[] 0)).update s.heap.objs.size (Obj.mapSeq (· ++ vs.toArray)) = g
  have sg := Heap.SameBut.update (s.heap.push (seqObj "list" #[] 0)) s.heap.objs.size (Obj.mapSeq (· ++ vs.toArray))
  rw [hg] at sg
  have extg : ∀ b o, s.heap.get? b = some o → g.get? b = some o := fun b o e => (sg.2 b (Nat.ne_of_lt (Heap.lt_size e))).trans (push_keeps _ _ _ e)
  have nx1 : Nx C s { s with heap := g } := Nx.keeps' S.ok extg
  refine wpAny_bind (wpAny_newList ?_ (by lia))
  have nx2 : Nx C { s with heap := g } { s with heap := g.push { cls := .type "list", data := .seq vs.toArray } } := Nx.keeps' (s := { s with heap := g }) nx1.ok (push_keeps _)
  have nx := nx1.trans nx2
  have eL : (g.push { cls := .type "list", data := .seq vs.toArray }).get? g.objs.size = some (seqO "list" vs 0) := Heap.get?_push_size _ rfl
  have dL : s.heap.get? g.objs.size = none := dead_back nx1.k nx1.ok.t (dead_size (s := { s with heap := g }))
  have fresh : ∀ b o, s.heap.get? b = some o → (X b ∨ b = g.objs.size) → X b := fun b o e z => z.elim id fun z => by subst z; exact no_some dL e
  have hX2 : Xl (fun b => X b ∨ b = g.objs.size) (g.push { cls := .type "list", data := .seq vs.toArray }) := fun b z => z.elim (fun z => let ⟨o, e⟩ := hX b z; ⟨o, push_keeps _ _ _ (extg _ _ e)⟩) fun z => ⟨_, z ▸ eL⟩
  refine wpAny_bind (wpAny_holding (wpAny_call_entry_kw PyProof.Rows.slot_list_sort ⟨_, eL, rfl⟩ PyProof.Rows.entry_list_sort ?body (ksk_l1 _ _)))
  case body =>
    show wpAny C.M A.in1.in1 (Builtin.«list.sort» ⟨[.ref g.objs.size], [(Str.ofString "key", .ref q)]⟩) _ _ _
    rw [ksk_t1]
    refine sort_tree (A := A.in1.in1) (n := n) (s := { s with heap := g.push { cls := .type "list", data := .seq vs.toArray } }) (X := fun b => X b ∨ b = g.objs.size) ko (S.next nx).in1 (by have := S.un; show A.units + 1 + 1 ≤ 9300; lia) hX2 (.inr rfl) (S.ok.k.dead S.ok.t dL) eL h64
      ((rl.anti fresh).keep nx.k (fun _ z => z.elim) S.ok.t) ((rf.anti fresh).keep nx.k (fun _ z => z.elim) S.ok.t) hc hask fun s' vs' k' kq o' e' r' z' => ⟨_, rfl, wpAny_pure ⟨_, rfl, ⟨nx.k.trans' kq (fun b o e z => by subst z; exact no_some dL e), o'⟩, ?_⟩⟩
    exact .list (fun z => by refine ex1_1 (hX _ z) fun o e => ?_; exact no_some dL e) e' z' (r'.anti fun b o e z => .inl z)

theorem Ev_sorted {α : Type} {dat key : α → D} {lt : α → α → Bool} {κ : SortKind} {fD : D} {l : List α} {np kp pos : Pos} {e kv : Expr} (ko : KeyOk C key lt κ) (he : Ev C n.up sc ρ e (.list (l.map dat))) (hf : Ev C n.up sc ρ kv fD) (hc : ∀ x ∈ l, CallV C n fD [dat x] (key x)) (hask : Askd lt l) (h64 : l.length < 64)
    (hfn : fD.isFn = true := by rfl) (hk : sc.scope.names.lookup ("sorted" : Str) = some .globalImplicit := by rfl)
    (h1 : ∀ env pos, backTo pos (starEach [e] env) = (false, eval e env) :: backTo pos (starEach [] env) := by intro _ _; rfl) (h1' : ∀ env, starEach [e] env = (false, eval e env) :: starEach [] env := by intro _; rfl)
    (h3 : ∀ env, eval (.Call (.Name "sorted" np) [e] [⟨some "key", kv, kp⟩] pos) env = (do callWith pos (← eval (.Name "sorted" np) env) [] (backTo pos (starEach [e] env)) (backToKw pos (keywordEach [⟨some "key", kv, kp⟩] env))) := by intro env; rfl) :
    Ev C n.up sc ρ (.Call (.Name "sorted" np) [e] [⟨some "key", kv, kp⟩] pos) (.list ((srt lt l).map dat)) := fun A env X M s S en m => by
  rw [h3 env]
  refine wpAny_bind (wpAny_bi S.ok en m hk rfl ?_ (by decide))
  refine callWith_kw (he := h1 env pos) (hplain := by rw [h1]; rfl) ?_
  refine args_cons (he := h1' env) (wp_false (he A env X M s S en m) fun v s1 zq5 => ex0_2 zq5 fun n1 r1 => args_nil ?_)
  refine kws_cons (wp_false (hf A env X M s1 (S.next n1) en (m.nx n1 S.ok)) fun f s2 zq6 => ex0_2 zq6 fun n2 r2 => kws_nil ?_)
  refine wp_false (call_sortedK (E := fun _ _ => False) ko hfn hc hask h64 ((S.next n1).next n2) ((m.nx n1 S.ok).nx n2 n1.ok).xl (r1.nx n2 n1.ok) r2) fun v s3 zq7 => ex0_2 zq7 fun n3 r3 => ⟨(n1.trans n2).trans n3, r3⟩

theorem H1_lsort {α : Type} {dat key : α → D} {lt : α → α → Bool} {κ : SortKind} {fD : D} {l : List α} {xp ap kp cp pos : Pos} {kv : Expr} {Q : Fl → Rho → Prop} (ko : KeyOk C key lt κ) (hx : ρ.get x = .lst (l.map dat)) (hf : Ev C n.up sc ρ kv fD) (hc : ∀ x ∈ l, CallV C n fD [dat x] (key x)) (hask : Askd lt l) (h64 : l.length < 64)
    (q : Q .next ((x, .lst ((srt lt l).map dat)) :: ρ)) (hfn : fD.isFn = true := by rfl)
    (hcall : ∀ env, eval (.Call (.Attribute (.Name x xp) "sort" ap) [] [⟨some "key", kv, kp⟩] cp) env = (do
      let ov ← eval (.Name x xp) env
      standAt ap.atName
      let fx ← holding [ov] (getMethod ov "sort" (plOf (.Name x xp) env))
      callWith cp fx.1 fx.2 (backTo cp (starEach [] env)) (backToKw cp (keywordEach [⟨some "key", kv, kp⟩] env))) := by intro env; rfl)
    (hd : (x == ("__debug__" : Str)) = false := by decide) (hn : (x == ("__classdict__" : Str)) = false := by decide) :
    H1 C n.up sc ρ (.Expr (.Call (.Attribute (.Name x xp) "sort" ap) [] [⟨some "key", kv, kp⟩] cp) pos) Q := fun A env X M s S en m tp => by
  have hint : interactive env = false := by simp [interactive, m.kind]
  refine wpAny_Expr_any (hi := hint) (hs := rfl) ?_
  rw [hcall env]
  obtain ⟨a, k, vs, lk, ea, za, ra, Ma, -⟩ := m.lst S.ok.t hx
  refine wpAny_bind (eval_name_eq m lk (wpAny_bind (wpAny_standAt (wpAny_bind (wpAny_holding (getMethod_builtin (isLst ea).typeIs F.plainAttrs_list PyProof.Rows.slot_list_sort PySem.F.type_list_sort (fun b e => by cases e; exact ⟨_, ea, rfl⟩) ?_))))) hd hn)
  show wpAny C.M A (callWith cp (.builtin "list.sort") [.ref a] [] (backToKw cp (keywordEach [⟨some "key", kv, kp⟩] env))) _ _ s
  refine callWith_builtin_kwB rfl rfl ?_
  refine evalArgs_kw2_nil (env := env) (pos := cp) rfl (kws_cons (wp_false (hf A env X M s S en m) fun f s1 zq8 => ex0_2 zq8 fun n1 r1 => kws_nil ?_))
  refine ex3_4 (r1.fn hfn) fun qf _ _ zq2 _ _ _ => ?_; subst zq2
  have m1 := m.nx n1 S.ok
  obtain ⟨a', k1, vs1, lk1, ea1, za1, ra1, Ma1, up⟩ := m1.lst n1.ok.t hx
  cases Look.inj (lk.keep n1.k S.ok.t) lk1
  have S1 := S.next n1
  show wpAny C.M A (call (.builtin "list.sort") [.ref a] [(Str.ofString "key", .ref qf)]) _ _ s1
  refine wpAny_call_entry_kw PyProof.Rows.slot_list_sort ⟨_, ea1, rfl⟩ PyProof.Rows.entry_list_sort ?_ (ksk_l1 _ _)
  show wpAny C.M A.in1 (Builtin.«list.sort» ⟨[.ref a], [(Str.ofString "key", .ref qf)]⟩) _ _ _
  rw [ksk_t1]
  have S1' : Sit C n A.in1 s1 := ⟨S1.hd, S1.hx, by have := S1.dp; show A.depth + 10 * n.k ≤ 900; dsimp at this; lia, by have := S1.un; show A.units + 1 + 100 * n.k ≤ 9000; dsimp at this; lia, S1.fr, S1.ok⟩
  refine sort_tree (A := A.in1) (n := n) (X := X) ko S1' (by have := S.un; show A.units + 1 ≤ 9300; lia) m1.xl (m.mx a Ma1) (m1.alive a Ma1).1 ea1 h64 ra1 r1 hc hask fun s2 vs' k' kq o2 e2 r2 z2 => ⟨_, rfl, ?_⟩
  refine ex2_3 (m1.mineK n1.ok.t x (by rw [hx]; simp)) fun v' oa lk3 sv up3 => ?_
  rw [hx] at sv
  refine ex3_6 sv fun a3 k3 vs3 zq3 zq4 ea3 za3 ra3 Ma3 => ?_; try clear sv; subst zq3; subst zq4
  cases Look.inj lk1 lk3
  have m2 := up3 a rfl s2.heap (.lst ((srt lt l).map dat)) kq o2.t ⟨a, k', vs', rfl, rfl, e2, z2, r2, Ma3⟩ rfl (by rw [hx]; rfl)
  exact ⟨.next, _, X, M, q, trivial, .of m2 ((Kq.of_kp n1.k).trans (kq.mono fun b e => e ▸ Ma3)) o2⟩
end
end Mine
set_option maxHeartbeats 200000
namespace Mine

noncomputable def stmtAt (i : Nat) : Stmt := PySem.Challenge.pw_jg0024_01.main.body.getD i (.Pass ⟨0, 0, 0, 0⟩)
noncomputable def defBody : Stmt → List Stmt
  | .FunctionDef _ _ b _ _ _ _ _ _ _ => b
  | _ => []
noncomputable def defArgs : Stmt → Arguments
  | .FunctionDef _ a _ _ _ _ _ _ _ _ => a
  | _ => ⟨[], [], none, [], [], none, []⟩
noncomputable def defScope : Stmt → Scope
  | .FunctionDef _ _ _ _ _ _ s _ _ _ => s
  | _ => default
noncomputable def bodyOf (i : Nat) : List Stmt := defBody (stmtAt i)
noncomputable def scopeOf (i : Nat) : Scope := defScope (stmtAt i)
noncomputable def argsOf (i : Nat) : Arguments := defArgs (stmtAt i)

noncomputable def scOf (i : Nat) (qual : String) (cp : Option (Addr × Addr)) : Sc := ⟨scopeOf i, Str.ofString qual, cp⟩

noncomputable def nm (k : Int) : Array UInt8 := #[(97 + k * 3 % 8).toNat.toUInt8]

section
variable {C : Cx} {n : Lv}
theorem law_name_walk (hn : n.h = false) {k : Int} (cp : Option (Addr × Addr)) : Hs C n (scOf 9 "_law_name.<locals>." cp) [("k", .val (.int k))] (bodyOf 9) (RetQ (.byt (nm k))) := by
  refine Hs_cons (H1_return (Ev_ty rfl (El_cons (Ev_list (El_cons (Ev_bin Ev_int (Ev_bin (Ev_bin (Ev_name rfl) Ev_int (Op_mul (.of_right (by decide)))) Ev_int (Op_mod (by decide))) Op_add) El_nil)) El_nil) (Call_bytes1 (by lia) (by lia))) (.inl rfl))
end
end Mine
set_option maxHeartbeats 1000000
namespace Mine

noncomputable def clsBody : Stmt → List Stmt
  | .ClassDef _ _ _ b _ _ _ _ _ _ _ => b
  | _ => []
noncomputable def mAt (k : Nat) : Stmt := (clsBody (stmtAt 2)).getD k (.Pass ⟨0, 0, 0, 0⟩)

section
variable {C : Cx} {n : Lv}

structure MFn (C : Cx) (f : Addr) (k : Nat) (name qual : Str) : Prop where
  code : ∃ c kV doc pm an ct, C.h₁.get? f = some { cls := .type "function", data := .func (fnX name qual (defArgs (mAt k)) (defBody (mAt k)) (defScope (mAt k)) [] .none kV doc pm an (.ref c) ct) } ∧ C.h₁.CodeRec (.ref c) qual ∧ c ∉ tabs

theorem MFn.fn {f : Addr} {k : Nat} {name qual : Str} (m : MFn C f k name qual) : ∃ o fd, C.h₁.get? f = some o ∧ o.data = .func fd ∧ o.cls = .type "function" := by
  refine ex6_2 m.code fun c kV doc pm an ct e _ => ?_
  exact ⟨_, _, e, rfl, rfl⟩
theorem CallMk.of {fi fa fg fr : Addr} {qual : Str} (W : WLF C fi fa fg fr) (m : MFn C fi 0 "__init__" qual) : CallMk C n.up.up := by
  refine ex6_3 m.code fun c kV doc pm an ct e cr nt => ?_
  refine ⟨W.keep, fun A X s Q E S hX q => ?_⟩
  exact call_mkwl (n := n) W S hX (S.ok.obj e (fun _ z => by cases z) (by simp) (by simp)) (CodeRec.kq cr S.ok.k nt) (fun u => by kernel_rfl) (by rfl) (by rfl) (by rfl) (by rfl) q
theorem CallAdd.of {fi fa fg fr : Addr} {qual : Str} (W : WLF C fi fa fg fr) (m : MFn C fa 1 "add" qual) : CallAdd C n.up fa := by
  refine ⟨m.fn, fun A X s a p items v i b Q E S hX hXp w hz hnew r q => ?_⟩
  refine ex6_3 m.code fun c kV doc pm an ct e cr nt => ?_
  exact call_add (n := n) W S hX hXp w hz hnew r (S.ok.obj e (fun _ z => by cases z) (by simp) (by simp)) (CodeRec.kq cr S.ok.k nt) (fun u v => by kernel_rfl) ⟨by rfl, by rfl, by rfl, by rfl, by rfl⟩ (by rfl) (by rfl) (by rfl) q
theorem CallGet.of {fi fa fg fr : Addr} {qual : Str} (W : WLF C fi fa fg fr) (m : MFn C fg 2 "get" qual) : CallGet C n.up fg := by
  refine ⟨m.fn, fun A X s a p it items Q E S hX hXp w hnew q => ?_⟩
  refine ex6_3 m.code fun c kV doc pm an ct e cr nt => ?_
  exact call_get (n := n) (cn := .none) W S hX hXp w hnew (S.ok.obj e (fun _ z => by cases z) (by simp) (by simp)) (CodeRec.kq cr S.ok.k nt) (fun u => by kernel_rfl) ⟨by rfl, by rfl, by rfl, by rfl, by rfl⟩ (by rfl) (by rfl) (by rfl) q
end
end Mine
namespace Mine

section
variable {M : Model} {A : Around} {R : GenEnd} {Y : Protocol} {n : Nat} {s₀ : Shared} {c : Code} {fs : List Frame} {s : Shared} {env : Env}
  {K : Flow → Sem Fin} {H : Value → Sem Fin} {gd : Bool → Bool} {lv : List Value → List Value}

noncomputable def loopFrame (env : Env) (K : Flow → Sem Fin) (H : Value → Sem Fin) (gd : Bool → Bool) (lv : List Value → List Value) (c : Code) (p : Pos) : Frame :=
  .ret (fun r => ((match r with | .ok f => (.pure f : Sem Flow) | .error e => .raise e).onRaise fun (x : Value) => do
        if (← field x 1) == Value.none then unsupported "frame.own-activation:exception-without-traceback"
        setFlight x env.frame).wrap K H gd lv) none (gd false) (lv []) c p []

theorem seg_For {t e : Expr} {body orelse : List Stmt} {pos : Pos} (hs : ∀ x, foldedSetIterable e env x = pure x)
    (h : wpAny M (A.over c fs) (eval e env) (fun x s₁ => wpAny M (A.over c fs) (pyIter x) (fun it s₂ => ∀ p, Seg M A R Y n s₀ (.forLoop t it body orelse env) (M.den (.forLoop t it body orelse env)) (loopFrame env K H gd lv c p :: fs) s₂) (fun _ _ => False) s₁) (fun _ _ => False) s) :
    Seg M A R Y n s₀ c ((exec (.For t e body orelse pos) env).wrap K H gd lv) fs s := by
  rw [exec_For]
  refine seg_bind_wrap (wpAny_standAt ?_)
  refine seg_bind_wrap (wpAny_mono h (fun x s₁ h₁ => ?_) fun _ _ z => z.elim)
  rw [hs x]
  refine seg_bind_wrap (wpAny_pure ?_)
  refine seg_bind_wrap (wpAny_standAt ?_)
  refine seg_bind_wrap (wpAny_holding (wpAny_mono h₁ (fun it s₂ h₂ => ?_) fun _ _ z => z.elim))
  exact seg_call h₂

theorem seg_loop_done (hk : Seg M A R Y n s₀ c (K .next) fs s) {p : Pos} {c' : Code} : Seg M A R Y n s₀ c' (leafOf (.ok .next)) (loopFrame env K H gd lv c p :: fs) s :=
  seg_leaf (.ok .next) hk
end

section
variable {prog : Program} {w : World} {A : Around} {R : GenEnd} {Y : Protocol} {n : Nat} {s₀ : Shared} {fs : List Frame} {s : Shared} {env : Env}
theorem seg_forLoop {t : Expr} {it : Value} {body : List Stmt}
    (h : wpAny (model prog w) (A.over (.forLoop t it body [] env) fs) (pyNext it) (fun r s₁ => match r with
      | none => Seg (model prog w) A R Y n s₀ (.block [] env) (leafOf (.ok .next)) fs s₁
      | some v => wpAny (model prog w) (A.over (.forLoop t it body [] env) fs) (letOwnedTupleGo t it v) (fun _ s₂ => wpAny (model prog w) (A.over (.forLoop t it body [] env) fs) (assign t env v) (fun _ s₃ =>
          Seg (model prog w) A R Y n s₀ (.forLoop t it body [] env) ((execs body env).wrap (fun f => match f with
            | .next | .cont => .pure (.again (.forLoop t it body [] env))
            | .brk => .pure (.done .next)
            | .ret v => .pure (.done (.ret v))) (fun e => (do noteFrame e env; theTreesLotGoes e : Sem Unit).wrap (fun _ => .raise e) .raise id id) id id) fs s₃) (fun _ _ => False) s₂) (fun _ _ => False) s₁) (fun _ _ => False) s) :
    Seg (model prog w) A R Y n s₀ (.forLoop t it body [] env) ((model prog w).den (.forLoop t it body [] env)) fs s := by
  show Seg _ A R Y n s₀ _ ((forTurn t it body [] env).onRaise (fun x => do noteFrame x env; theTreesLotGoes x)) fs s
  unfold forTurn
  rw [Sem.onRaise_eq_wrap]
  refine seg_bind_wrap (wpAny_standAt ?_)
  refine seg_bind_wrap (wpAny_onRaise (wpAny_mono h (fun r s₁ h₁ => ?_) fun _ _ z => z.elim))
  cases r with
  | none =>
    refine seg_again rfl ?_
    show Seg _ A R Y n s₀ _ (leafOf (.ok .next)) fs s₁
    exact h₁
  | some v =>
    refine seg_bind_wrap (wpAny_mono h₁ (fun _ s₂ h₂ => ?_) fun _ _ z => z.elim)
    refine seg_bind_wrap (wpAny_mono h₂ (fun _ s₃ h₃ => ?_) fun _ _ z => z.elim)
    rw [Sem.bind_eq_wrap', Sem.wrap_wrap]
    rw [Sem.wrap_congr (execs body env) _ _ (K' := fun f => match f with
            | .next | .cont => .pure (.again (.forLoop t it body [] env))
            | .brk => .pure (.done .next)
            | .ret v => .pure (.done (.ret v))) (H' := (fun e => (do noteFrame e env; theTreesLotGoes e : Sem Unit).wrap (fun _ => .raise e) .raise id id))
        (fun f => by cases f <;> rfl)
        (fun e => by first | exact Sem.bind_eq_wrap _ _ | (show (do noteFrame e env; theTreesLotGoes e : Sem Unit).bind (fun _ => .raise e) = _; rw [Sem.bind_eq_wrap]))]
    exact h₃

theorem pyNext_genQ {E : Value → Shared → Prop} {a : Addr} {g n : Nat} {gs : GenState} {P : Nat → Shared → Shared → Prop} {Y : Protocol} {Q : Option Value → Shared → Prop} (hh : A.handled = none)
    (hl : s.heap.NoLimit) (hroom : A.depth < recursionLimit)
    (hg : s.heap.IsGen a g) (hgs : s.gens[g]? = some gs)
    (hgo : gs.Goes (model prog w) A.in1 (fun n s₀ r s₁ => r = .ok (.ret .none) ∧ P n s₀ s₁) Y n (.send .none) (s.setGen g .running))
    (hY : ∀ v s₁ gs', gs'.bare = true → Y (n - 1) (s.setGen g .running) v s₁ (fun r' s'' => match n with
        | 0 => False
        | m + 1 => gs'.Goes (model prog w) A.in1 (fun n s₀ r s₁ => r = .ok (.ret .none) ∧ P n s₀ s₁) Y m r' s'') → Q (some v) (s₁.setGen g gs'))
    (hP : ∀ s₁, P n (s.setGen g .running) s₁ → ∀ h', (∀ b o, s₁.heap.get? b = some o → h'.get? b = some o) → Q none { s₁.setGen g .finished with heap := h' }) :
    wpAny (model prog w) A (pyNext (.ref a)) Q E s := by
  unfold pyNext
  refine wpAny_bind (wpAny_attempt (wpAny_callSpecial?_slot (name := Str.ofString "__next__") hg.typeIs slot_gen_next
    (wpAny_call_entry slot_gen_next hg.typeIs entry_gen_next ?_ (args_gen_next _))))
  show wpAny _ A.in1 (Builtin.Generator.genWake (.ref a) (.send .none)) _ _ s
  unfold Builtin.Generator.genWake
  refine wpAny_bind (wpAny_holding (wpAny_genNumber hg (wpAny_bind (wpAny_genState hgs ?_))))
  cases gs with
  | running => exact hgo.elim
  | finished => exact hgo.elim
  | _ =>
    refine wpAny_bind (wpAny_roomToWake hl hroom ?_)
    show wpAny _ A.in1 (.resume g (.send .none) [] _) _ _ s
    refine wpAny_resumeQ hgs hgo (fun x s₁ hx => ?_) (fun v s₁ gs' hb hv => ?_)
    · refine ex0_2 hx fun zq1 hp => ?_; try clear hx; subst zq1
      show wpAny _ A.in1 (newExc (.type "StopIteration") [] >>= _) _ _ _
      refine wpAny_bind ?_
      simp only [newExc, newTuple]
      refine wpAny_bind (wpAny_newObj_type ?_ (by size_fits))
      refine wpAny_bind (m := firstArgMember _ _) (wpAny_of_eq (a := Value.none) (by first | rfl | (simp only [firstArgMember]; rfl)) ?_)
      refine wpAny_newObj_type ?_ (by size_fits)
      simp only [raiseNew]
      refine wpAny_bind (wpAny_bind (wpAny_handled ?_))
      first | rw [show A.in1.handled = none from hh] | rw [hh]
      refine wpAny_throw ?_
      refine wpAny_bind (wpAny_isInstance (T := "StopIteration") (b := true) ⟨_, Heap.get?_push_size _ rfl, rfl⟩ isSubtype_stop ?_)
      exact wpAny_pure (hP s₁ hp _ fun b o hb => Heap.get?_push_of_some _ (Heap.get?_push_of_some _ hb))
    · exact wpAny_pure ⟨v, rfl, wpAny_pure (hY v s₁ gs' hb hv)⟩
end
end Mine
namespace Mine

noncomputable def Cx.at (C : Cx) (γ : Array GenState) (hγ : AllBare γ) : Cx := { C with G := fun g => g = γ, gb := fun g e => e ▸ hγ }

section
variable {C : Cx} {γ : Array GenState} {hγ : AllBare γ} {M X : Addr → Prop} {h h' : Heap}
theorem Kq.to (k : Kq C M h h') : Kq (C.at γ hγ) M h h' := ⟨k.same, k.kind, k.code⟩
theorem Kq.back (k : Kq (C.at γ hγ) M h h') : Kq C M h h' := ⟨k.same, k.kind, k.code⟩
theorem gto : Gen C (C.at γ hγ) h h X X := gen rfl rfl (fun a o n e _ _ => ⟨n, e⟩) fun _ _ r => r
theorem gback : Gen (C.at γ hγ) C h h X X := gen rfl rfl (fun a o n e _ _ => ⟨n, e⟩) fun _ _ r => r
theorem Rd.to {v : Value} {d : D} (r : Rd C h X v d) : Rd (C.at γ hγ) h X v d := gto.r1 r
theorem Rd.back {v : Value} {d : D} (r : Rd (C.at γ hγ) h X v d) : Rd C h X v d := gback.r1 r

theorem WlAt.cx {C C' : Cx} (g : Gen C C' h h X X) (hl : C.wlC = C'.wlC) (hw : C.w = C'.w) {a p : Addr} {items : List Itm} (w : WlAt C h X a p items) : WlAt C' h X a p items := by
  obtain ⟨dx, es, n, j, vs, n1, n2, e1, e2, e3, e4, z, r⟩ := w
  exact ⟨dx, es, n, j, vs, n1, n2, hl ▸ e1, e2, hw ▸ e3, e4, z, g.r5 r⟩
theorem WlAt.to {a p : Addr} {items : List Itm} (w : WlAt C h X a p items) : WlAt (C.at γ hγ) h X a p items := w.cx gto rfl rfl
theorem SlotOk.cx {C C' : Cx} (g : Gen C C' h h X X) (hl : C.wlC = C'.wlC) (hw : C.w = C'.w) {env : Env} {x : Str} {sl : Slot} {oa : Option Addr} (q : SlotOk C env X M h x sl oa) : SlotOk C' env X M h x sl oa := by
  cases sl with
  | unk => exact q
  | val d => exact ⟨q.1, q.2.imp fun _ q => ⟨q.1, g.r1 q.2⟩⟩
  | frz d => exact ⟨q.1, q.2.imp fun _ q => ⟨q.1, g.r1 q.2⟩⟩
  | ext d => exact ⟨q.1, q.2.imp fun _ q => ⟨q.1, g.r1 q.2⟩⟩
  | lst l => refine ex3_6 q fun a n vs q1 q2 q3 q4 q5 q6 => ?_; try clear q; exact ⟨a, n, vs, q1, q2, q3, q4, g.r2 q5, q6⟩
  | dct l => refine ex3_6 q fun a n es q1 q2 q3 q4 q5 q6 => ?_; try clear q; exact ⟨a, n, es, q1, q2, q3, q4, g.r3 q5, q6⟩
  | wl items => refine ex2_4 q fun a p q1 q2 q3 q4 => ?_; try clear q; exact ⟨a, p, q1, q2, q3.cx g hl hw, q4⟩
theorem SlotOk.to {env : Env} {x : Str} {sl : Slot} {oa : Option Addr} (q : SlotOk C env X M h x sl oa) : SlotOk (C.at γ hγ) env X M h x sl oa := q.cx gto rfl rfl
theorem SlotOk.back {env : Env} {x : Str} {sl : Slot} {oa : Option Addr} (q : SlotOk (C.at γ hγ) env X M h x sl oa) : SlotOk C env X M h x sl oa := q.cx gback rfl rfl
theorem Mod.to {env : Env} {ρ : Rho} (m : Mod C env ρ X M h) : Mod (C.at γ hγ) env ρ X M h :=
  ⟨m.glob, m.blt, m.kind, m.ns, m.lm, m.mx, m.live, m.alive, m.cinj, m.cells, m.cellM, m.hasc, m.cellX, let ⟨own, q1, q2⟩ := m.vars; ⟨own, fun x => (q1 x).to, q2⟩⟩
theorem Mod.back {env : Env} {ρ : Rho} (m : Mod (C.at γ hγ) env ρ X M h) : Mod C env ρ X M h :=
  ⟨m.glob, m.blt, m.kind, m.ns, m.lm, m.mx, m.live, m.alive, m.cinj, m.cells, m.cellM, m.hasc, m.cellX, let ⟨own, q1, q2⟩ := m.vars; ⟨own, fun x => (q1 x).back, q2⟩⟩
theorem Ok.to {s : Shared} (o : Ok C s) (e : s.gens = γ) : Ok (C.at γ hγ) s := ⟨o.k.to, o.t, e, o.o⟩
theorem Ok.gens {s : Shared} (o : Ok (C.at γ hγ) s) : s.gens = γ := o.g
theorem Ok.back {s s' : Shared} (o : Ok (C.at γ hγ) s) (hh : s'.heap = s.heap) (ho : s'.os = s.os) (g : C.G s'.gens) : Ok C s' := ⟨by rw [hh]; exact o.k.back, by rw [hh]; exact o.t, g, by rw [ho]; exact o.o⟩
theorem Sit.to {n : Lv} {A : Around} {s : Shared} (S : Sit C n A s) (e : s.gens = γ) : Sit (C.at γ hγ) n A s := ⟨S.hd, S.hx, S.dp, S.un, S.fr, S.ok.to e⟩
theorem FlR.back {f : Flow} {fl : Fl} (r : FlR (C.at γ hγ) h X f fl) : FlR C h X f fl := by
  cases f <;> cases fl <;> first | exact r | exact Rd.back r
theorem WLF.to {fi fa fg fr : Addr} (W : WLF C fi fa fg fr) : WLF (C.at γ hγ) fi fa fg fr :=
  ⟨W.ga, W.gt, W.init, W.add, W.get, W.rows, W.ti, W.ta, W.tg, W.tr, W.pq, W.sa, W.sg, W.sr, W.made, W.set, W.over, W.taker, W.hasd, W.keep⟩

theorem Mod.move {env : Env} {ρ : Rho} {K X' : Addr → Prop} {h₂ : Heap} (m : Mod C env ρ X M h) (T : TabOK C h) (k : Kq C K h h₂) (T2 : TabOK C h₂) (hK : ∀ a, K a → (X a ∨ h.get? a = none) ∧ ¬ M a) (hc : ∀ y c, env.cells.lookup y = some c → ¬ K c)
    (hX' : ∀ a, X' a → (X a ∨ h.get? a = none) ∧ ∃ o, h₂.get? a = some o) (hM : ∀ a, M a → X' a) : Mod C env ρ X' M h₂ := by
  have look : ∀ y u, Look h env y u → Look h₂ env y u := fun y u l => by
    rcases l with ⟨q1, f, q2, q3⟩ | ⟨q1, c, q2, q3⟩
    · exact .inl ⟨q1, f, Ns_kq k T (fun z => (hK _ z).2 m.lm) q2, q3⟩
    · exact .inr ⟨q1, c, q2, k.exact (hc _ _ q2) (T.notab q3 (by simp)) q3 (by simp)⟩
  exact {
    glob := m.glob
    blt := m.blt
    kind := m.kind
    ns := let ⟨f, q⟩ := m.ns; ⟨f, Ns_kq k T (fun z => (hK _ z).2 m.lm) q⟩
    lm := m.lm
    mx := hM
    live := fun a q => (hX' a q).2
    alive := fun a q => let ⟨q1, o, q2, q3⟩ := m.alive a q; let ⟨o', e, _, n⟩ := k.kind a o q2 q3; ⟨q1, o', e, n⟩
    cinj := m.cinj
    cells := fun y c q => let ⟨v, e⟩ := m.cells y c q; ⟨v, k.exact (hc _ _ q) (T.notab e (by simp)) e (by simp)⟩
    cellM := m.cellM
    hasc := m.hasc
    cellX := fun y c d hc hg z => (hX' c z).1.elim (m.cellX y c d hc hg) fun e' => by refine ex1_1 (m.cells y c hc) fun w e => ?_; exact no_some e' e
    vars := by
      refine ex1_2 m.vars fun own q1 q2 => ?_
      refine ⟨own, fun y => ?_, q2⟩
      by_cases hu : ρ.get y = .unk
      · have := q1 y; rw [hu] at this ⊢; exact this
      · refine ex1_2 ((q1 y).toV hu) fun u l' q => ?_
        refine SlotV.ok (look _ _ l') ?_
        have q' : SlotV C env (fun a => X a ∨ h.get? a = none) M h u (ρ.get y) (own y) := q.anti (fun a o e z => z.elim id fun z => by exact no_some z e) fun _ => id
        have q2 : SlotV C env (fun a => X a ∨ h.get? a = none) M h₂ u (ρ.get y) (own y) := q'.keep k (fun a z => (hK a z).1) T (fun a e z => by
          rw [e] at q; exact (hK a z).2 q.own_live.2.1) fun _ => id
        exact q2.anti (fun a o e z => (hX' a z).1) fun _ => id }
end
end Mine
namespace Mine

noncomputable def itD (x : Itm) : D := .tup [.int x.1, .byt x.2]
noncomputable def outD (x : Itm) : D := .tup [.int (-x.1), .byt x.2]
noncomputable def AlN (NP : Addr → Prop) (s : Shared) (b : Addr) : Prop := (∃ o, s.heap.get? b = some o) ∧ NP b

structure InBd (A : Around) (env : Env) (n : Lv) (B : Around) : Prop where
  hd : B.handled = none
  nh : n.h = false
  dp : B.depth + 10 * n.k ≤ 900
  un : B.units + 100 * n.k ≤ 9000
  fr : ∃ l, A.frames = some l ∧ B.frames = some (env :: l)

structure GB (C : Cx) (A : Around) (env : Env) (a : Addr) (NP Mg : Addr → Prop) (s : Shared) : Prop where
  mod : Mod C env [(Str.ofString "self", .val (.adr a))] (AlN NP s) Mg s.heap
  k : Kp C C.h₁ s.heap
  t : TabOK C s.heap
  b : AllBare s.gens
  o : s.os = C.os₁
  fr : FrsOk C A s.heap
  top : env.scope.kind ≠ .module ∧ ∃ L o, env.frame = some L ∧ C.h₁.get? L = none ∧ s.heap.get? L = some o ∧ o.cls = .type "frame" ∧ NF o
structure GI (C : Cx) (A : Around) (env : Env) (a : Addr) (NP Mg : Addr → Prop) (I : Addr) (us : List Itm) (s : Shared) : Prop extends GB C A env a NP Mg s where
  new : C.h₁.get? I = none
  it : ∃ l vs k i, s.heap.IsListIter I l i ∧ ¬ NP l ∧ s.heap.get? l = some (seqO "list" vs k) ∧ vs.length ≤ BIG ∧ RdL C s.heap NP (vs.drop i) (us.map itD)
  nI : NP I ∧ ¬ Mg I

section
variable {C : Cx} {A B : Around} {n : Lv} {sc : Sc} {env : Env} {a I : Addr} {NP Mg M X : Addr → Prop} {us items : List Itm} {s s' s₀ : Shared} {h h' : Heap}

theorem GB.ok (G : GB C A env a NP Mg s) : Ok (C.at s.gens G.b) s := ⟨G.k.to, G.t, rfl, G.o⟩
theorem GB.frs (G : GB C A env a NP Mg s) (hB : InBd A env n B) : FrsOk C B s.heap := by
  refine ex1_2 hB.fr fun l h1 h2 => ?_
  refine ex1_2 G.fr fun l' h1' q => ?_
  obtain rfl := is_some h1 h1'
  refine ⟨_, h2, fun e he => ?_⟩
  rcases List.mem_cons.mp he with rfl | he
  · exact G.top
  · exact q e he
theorem GB.sit (G : GB C A env a NP Mg s) (hB : InBd A env n B) : Sit (C.at s.gens G.b) n B s :=
  ⟨fun _ => hB.hd, (fun z => by rw [hB.nh] at z; cases z), hB.dp, hB.un, G.frs hB, G.ok⟩

theorem Mod.selfX {X' : Addr → Prop} (m : Mod C env [(Str.ofString "self", .val (.adr a))] X M h) (hl : ∀ b, X' b → ∃ o, h.get? b = some o) (hM : ∀ b, M b → X' b) : Mod C env [(Str.ofString "self", .val (.adr a))] X' M h := by
  refine ex1_2 m.vars fun own q1 q2 => ?_
  refine { m with mx := hM, live := hl, cellX := fun x c d hc hg => ?_, vars := ⟨own, fun x => ?_, q2⟩ }
  · rw [Rho.get_cons] at hg
    split at hg
    · cases hg
    · cases hg
  · have := q1 x
    rw [Rho.get_cons] at this ⊢
    split
    · rename_i e
      rw [if_pos e] at this
      refine ex0_2 this fun h1 zq1 => ?_; try clear this; refine ex1_2 zq1 fun v h2 h3 => ?_; try clear zq1
      cases h3.i_adr
      exact ⟨h1, _, h2, .adr a⟩
    · rename_i e
      rw [if_neg e] at this
      exact this

noncomputable def genZ (Mg : Addr → Prop) (I : Addr) (b : Addr) : Prop := Mg b ∨ b = I
structure Gst (C : Cx) (Mg : Addr → Prop) (I : Addr) (s₀ s₁ : Shared) : Prop where
  kq : Kq C (genZ Mg I) s₀.heap s₁.heap
  gens : s₁.gens = s₀.gens
  k : Kp C C.h₁ s₁.heap
  t : TabOK C s₁.heap
  o : s₁.os = C.os₁
  al : ∀ b, b ≠ I → (∃ o, s₀.heap.get? b = some o) → ∃ o, s₁.heap.get? b = some o
noncomputable def genY (C : Cx) (A : Around) (env : Env) (a : Addr) (NP Mg : Addr → Prop) (I : Addr) (items : List Itm) : Protocol := fun m s₀ v s₁ kap =>
  ∃ it us', (∃ pre, items = pre ++ it :: us') ∧ m = us'.length ∧ Rd C s₁.heap (AlN NP s₀) v (outD it) ∧ Gst C Mg I s₀ s₁ ∧ GI C A env a NP Mg I us' s₁ ∧ ∀ s'', GI C A env a NP Mg I us' s'' → kap (.send .none) s''
noncomputable def genR (C : Cx) (Mg : Addr → Prop) (I : Addr) : GenEnd := fun m s₀ r s₁ => r = .ok (.ret .none) ∧ m = 0 ∧ Gst C Mg I s₀ s₁

theorem GI.gst (G : GI C A env a NP Mg I us s) : Gst C Mg I s s := ⟨.refl, rfl, G.k, G.t, G.o, fun _ _ z => z⟩

noncomputable abbrev yBody (pr cmt : Str) (p1 p2 p3 p4 p5 p6 : Pos) (k1 : Nat) : List Stmt := [.Expr (.Yield (some (.Tuple [.UnaryOp .USub (.Name pr p1) p2, .Name cmt p3] k1 p4)) p5) p6]

theorem gen_loop {p1 p2 p3 p4 p5 p6 q1 q2 q3 : Pos} {k1 k2 : Nat} {fs : List Frame} (en : EnvIs C sc env) (hlp : sc.scope.names.lookup ("pr" : Str) = some .local) (hlc : sc.scope.names.lookup ("cmt" : Str) = some .local) (hco : sc.scope.isCoroutine = false)
    (hB : InBd A env n (A.in1.over (.forLoop (.Tuple [.Name "pr" q1, .Name "cmt" q2] k2 q3) (.ref I) (yBody "pr" "cmt" p1 p2 p3 p4 p5 p6 k1) [] env) fs)) (hfs : splitAtGen fs = none) (hfg : fs.any Frame.guarded = false)
    (hend : ∀ m s₀ s, genR C Mg I m s₀ (.ok (.ret .none)) s → Seg C.M A.in1 (genR C Mg I) (genY C A env a NP Mg I items) m s₀ (.block [] env) (leafOf (.ok .next)) fs s) :
    ∀ (us : List Itm) (s₀ s : Shared), (∃ pre, items = pre ++ us) → GI C A env a NP Mg I us s → Gst C Mg I s₀ s →
      Seg C.M A.in1 (genR C Mg I) (genY C A env a NP Mg I items) us.length s₀ (.forLoop (.Tuple [.Name "pr" q1, .Name "cmt" q2] k2 q3) (.ref I) (yBody "pr" "cmt" p1 p2 p3 p4 p5 p6 k1) [] env)
        (C.M.den (.forLoop (.Tuple [.Name "pr" q1, .Name "cmt" q2] k2 q3) (.ref I) (yBody "pr" "cmt" p1 p2 p3 p4 p5 p6 k1) [] env)) fs s
  | [], s₀, s, _, G, gs => by
    refine seg_forLoop ?_
    refine ex4_5 G.it fun l vs k i q hl el z r => ?_
    have hlen : vs.toArray[i]? = none := by
      have : (vs.drop i).length = 0 := r.length
      rw [List.length_drop] at this
      simp; omega
    refine wpAny_pyNext_list_end hB.hd q (isLst el) hlen fun h' hs => ?_
    have st := Stp.of1 (C := C.at s.gens G.b) (t := s.toks) G.ok (IsListIter.itobj (C := C.at s.gens G.b) G.new q) hs
    refine hend _ _ _ ⟨rfl, rfl, ?_⟩
    refine ⟨gs.kq.trans (st.kq.back.mono fun b e => .inr e), gs.gens, st.ok.k.back, st.ok.t, G.o, fun b hb z => ?_⟩
    refine ex1_1 (gs.al b hb z) fun o e => ?_
    exact ⟨o, hs b o hb e⟩
  | it :: us, s₀, s, ⟨pre, hpre⟩, G, gs => by
    refine seg_forLoop ?_
    refine ex4_5 G.it fun l vs k i q hl el z r => ?_
    generalize hd : vs.drop i = ws at r
    cases r with
    | @cons v ws _ _ rv rr =>
    have hx : vs[i]? = some v := by
      have : (vs.drop i)[0]? = some v := by rw [hd]; rfl
      simpa using this
    have hd' : vs.drop (i + 1) = ws := by
      have : (vs.drop i).drop 1 = ws := by rw [hd]; rfl
      rw [List.drop_drop] at this; exact this
    refine wpAny_pyNext_list_item q (isLst el) (by simpa using hx) fun h1 q1' hs1 => ?_
    refine letGo_tuple (C := C) (I := I) v { s with heap := h1 } _ _ _ ⟨_, l, i + 1, q1'.choose_spec.1, q1'⟩ ?_
    have st := Stp.of1 (C := C.at s.gens G.b) (t := s.toks) G.ok (IsListIter.itobj (C := C.at s.gens G.b) G.new q) fun b o ne e => (hs1.2 b ne).trans e
    have S := G.sit hB
    have nIM : ∀ b, b = I → ¬ Mg b := fun b e => e ▸ G.nI.2
    have aI : ∃ o, s.heap.get? I = some o := by refine ex1_2 q fun o e _ => ?_; try clear q; exact ⟨o, e⟩
    have al1 : ∀ b, (∃ o, s.heap.get? b = some o) → ∃ o, h1.get? b = some o := fun b zq4 => ex1_1 zq4 fun o e => by
      by_cases hb : b = I
      · subst hb; refine ex1_2 q1' fun o' e' _ => ?_; try clear q1'; exact ⟨o', e'⟩
      · exact ⟨o, (hs1.2 b hb).trans e⟩
    have m1 : Mod C env [(Str.ofString "self", .val (.adr a))] (AlN NP s) Mg h1 := G.mod.move G.t st.kq.back st.ok.t (fun b e => ⟨.inl (e ▸ ⟨aI, G.nI.1⟩), nIM b e⟩)
      (fun y c hc e => by
        refine ex1_1 (G.mod.cells y c hc) fun w e1 => ?_
        refine ex1_3 q fun o e2 e3 e4 => ?_; try clear q
        rw [e, e2] at e1; cases e1; cases e4) (fun b z => ⟨.inl z, al1 b z.1⟩) G.mod.mx
    have rv1 : Rd C h1 NP v (itD it) := rv.keep st.kq.back (fun b e => e ▸ G.nI.1) G.t
    have rr1 : RdL C h1 NP ws (us.map itD) := rr.keep st.kq.back (fun b e => e ▸ G.nI.1) G.t
    have fr1 : FrsOk C (A.in1.over (.forLoop (.Tuple [.Name "pr" q1, .Name "cmt" q2] k2 q3) (.ref I) (yBody "pr" "cmt" p1 p2 p3 p4 p5 p6 k1) [] env) fs) h1 := (G.frs hB).keep st.kq.back
    have S1 : Sit (C.at s.gens G.b) n _ { s with heap := h1 } := ⟨S.hd, (fun z => by rw [hB.nh] at z; cases z), S.dp, S.un, fr1, st.ok⟩
    have asg : Asg (C.at s.gens G.b) n sc [(Str.ofString "self", .val (.adr a))] (.Tuple [.Name "pr" q1, .Name "cmt" q2] k2 q3) (itD it) ([(Str.ofString "cmt", .val (.byt it.2)), (Str.ofString "pr", .val (.int it.1)), (Str.ofString "self", .val (.adr a))] : Rho) :=
      Asg_pair (Asg_name (by show isLoc (sc.scope.names.lookup _) = true; rw [hlp]; rfl) rfl) (Asg_name (by show isLoc (sc.scope.names.lookup _) = true; rw [hlc]; rfl) rfl)
    refine wp_false (asg _ env (AlN NP s) Mg { s with heap := h1 } v S1 en m1.to ((rv1.anti fun b o e z => z.2).to)) fun _ s2 zq5 => ex0_3 zq5 fun o2 m2 k2' => ?_
    have S2 := S1.step k2' o2 fun b z => (m1.alive b z).2
    refine seg_execs_cons ?_
    have ev : Ev (C.at s.gens G.b) n sc ([(Str.ofString "cmt", .val (.byt it.2)), (Str.ofString "pr", .val (.int it.1)), (Str.ofString "self", .val (.adr a))] : Rho) (.Tuple [.UnaryOp .USub (.Name "pr" p1) p2, .Name "cmt" p3] k1 p4) (outD it) :=
      Ev_tuple (El_cons (Ev_neg (Ev_name rfl)) (El_cons (Ev_name rfl) El_nil))
    refine seg_Expr_Yield hfs rfl hfg (wp_false (ev _ env (AlN NP s) Mg s2 S2 en m2) fun v3 s3 zq6 => ex0_2 zq6 fun n3 r3 => fun kap hk => ?_) (by rw [en.1]; exact hco) (by simp [interactive, m2.kind])
    have m3 := m2.nx n3 o2
    have k13 : Kq C Mg h1 s3.heap := k2'.back.trans (Kq.of_kp n3.k.back)
    have al3 : ∀ b, (∃ o, s.heap.get? b = some o) → ∃ o, s3.heap.get? b = some o := fun b z => by
      refine ex1_1 (al1 b z) fun o e => ?_
      exact k13.live (fun b o hm e => by refine ex0_2 (m1.alive b hm) fun _ zq2 => ?_; refine ex1_2 zq2 fun o' e' nf => ?_; try clear zq2; obtain rfl := is_some e e'; exact nf) n3.ok.t e
    have hMN : ∀ b, Mg b → NP b := fun b z => (G.mod.mx b z).2
    have nMI : ¬ Mg I := G.nI.2
    have m3' : Mod C env [(Str.ofString "self", .val (.adr a))] (AlN NP s3) Mg s3.heap := by
      have w : Mod C env [(Str.ofString "self", .val (.adr a))] (AlN NP s) Mg s3.heap := Wk_weak (ρ := ([(Str.ofString "cmt", .val (.byt it.2)), (Str.ofString "pr", .val (.int it.1)), (Str.ofString "self", .val (.adr a))] : Rho)) (ρ' := [(Str.ofString "self", .val (.adr a))]) ⟨rfl, trivial⟩ rfl env _ _ _ m3.back
      exact w.selfX (fun b z => z.1) fun b z => ⟨al3 b (G.mod.mx b z).1, hMN b z⟩
    have nlM : ¬ Mg l := fun z => hl (hMN l z)
    have nlI : l ≠ I := fun e => hl (e ▸ G.nI.1)
    have el1 : h1.get? l = some (seqO "list" vs k) := (hs1.2 l nlI).trans el
    have G3 : GI C A env a NP Mg I us s3 := by
      refine { mod := m3', k := n3.ok.k.back, t := n3.ok.t, b := by rw [n3.ok.gens]; exact G.b, o := n3.ok.o, fr := ?_, top := ?_, new := G.new, it := ?_, nI := G.nI }
      · exact (G.fr.keep (st.kq.back)).keep k13
      · refine ex0_2 G.top fun t1 zq3 => ?_; refine ex2_5 zq3 fun L ob t2 t3 t4 t5 t6 => ?_; try clear zq3
        refine ex1_3 (st.kq.kind L ob t4 t6) fun ob1 u1 u2 u3 => ?_
        refine ex1_3 (k13.kind L ob1 u1 u3) fun ob2 w1 w2 w3 => ?_
        exact ⟨t1, L, ob2, t2, t3, w1, w2.trans (u2.trans t5), w3⟩
      · refine ⟨l, vs, k, i + 1, IsListIter.kq G.new k13 nMI st.ok.t q1', hl, k13.exact nlM (st.ok.t.notab el1 (by simp)) el1 (by simp), z, ?_⟩
        rw [hd']
        exact rr1.keep k13 hMN st.ok.t
    have g3 : Gst C Mg I s₀ s3 := ⟨(gs.kq.trans (st.kq.back.mono fun b e => .inr e)).trans (k13.mono fun b z => .inl z), n3.ok.gens.trans gs.gens, n3.ok.k.back, n3.ok.t, n3.ok.o, fun b hb z => al3 b (gs.al b hb z)⟩
    refine ⟨it, us, ⟨pre, hpre⟩, rfl, ?_, g3, G3, fun s'' G' => hk .none s'' ?_⟩
    · refine r3.back.anti fun b o e z => ⟨?_, z.2⟩
      by_cases hb : b = I
      · exact hb ▸ aI
      · exact gs.al b hb z.1
    · exact seg_again rfl (gen_loop en hlp hlc hco hB hfs hfg hend us s'' s'' ⟨pre ++ [it], by rw [hpre]; simp⟩ G' G'.gst)
end
end Mine
namespace Mine

section
variable {C : Cx} {A B : Around} {n : Lv} {sc : Sc} {env : Env} {a p I : Addr} {NP Mg M X : Addr → Prop} {us items : List Itm} {s s' s₀ : Shared} {h h' : Heap}

theorem inB_func {body : List Stmt} {l : List Env} (hA : A.handled = none) (hn : n.h = false) (dp : A.depth + 1 + 10 * n.k ≤ 900) (un : A.units + 4 + 100 * n.k ≤ 9000) (hl : A.frames = some l) : InBd A env n (A.in1.over (.func body env) []) := by
  refine ⟨hA, hn, ?_, ?_, l, hl, ?_⟩
  · show A.depth + 0 + 1 + 10 * n.k ≤ 900; omega
  · show A.units + 1 + 0 + 3 + 100 * n.k ≤ 9000; omega
  · show pushEnvs [env] (pushEnvs [] A.frames) = _; rw [hl]; rfl
theorem inB_loop {body bd oe : List Stmt} {t : Expr} {it : Value} {l : List Env} {K H gd lv p} (hA : A.handled = none) (hn : n.h = false) (dp : A.depth + 1 + 10 * n.k ≤ 900) (un : A.units + 4 + 100 * n.k ≤ 9000) (hl : A.frames = some l) :
    InBd A env n (A.in1.over (.forLoop t it bd oe env) [loopFrame env K H gd lv (.func body env) p]) := by
  refine ⟨?_, hn, ?_, ?_, l, hl, ?_⟩
  · show (markOver none A.handled A.handled) = none
    rw [hA]; rfl
  · show A.depth + 1 + 0 + 10 * n.k ≤ 900; omega
  · show A.units + 1 + 3 + 0 + 100 * n.k ≤ 9000; omega
  · show pushEnvs [] (pushEnvs [env] A.frames) = _; rw [hl]; rfl

noncomputable abbrev rowsBody (p1 p2 p3 p4 p5 p6 q1 q2 q3 q4 q5 q6 : Pos) (k1 k2 : Nat) : List Stmt :=
  [.For (.Tuple [.Name "pr" q1, .Name "cmt" q2] k2 q3) (.Attribute (.Name "self" q4) "pq" q5) (yBody "pr" "cmt" p1 p2 p3 p4 p5 p6 k1) [] q6]

theorem RdW.toL {vs : List Value} {l : List Itm} (r : RdW C h X vs l) : RdL C h X vs (l.map itD) := by
  induction r with
  | nil => exact .nil
  | cons n e _ ih => exact .cons (.tup n e (by show 2 ≤ BIG; decide) (.cons (.int _ _) (.cons (.byt _ _) .nil))) ih

theorem gen_start {p1 p2 p3 p4 p5 p6 q1 q2 q3 q4 q5 q6 : Pos} {k1 k2 : Nat} {fi fa fg fr : Addr} {l : List Env} (en : EnvIs C sc env) (hlp : sc.scope.names.lookup ("pr" : Str) = some .local) (hlc : sc.scope.names.lookup ("cmt" : Str) = some .local) (hco : sc.scope.isCoroutine = false)
    (W : WLF C fi fa fg fr) (G : GB C A env a NP Mg s) (w : WlAt C s.heap NP a p items) (hp : ¬ NP p) (hI : I = s.heap.objs.size) (hNI : NP I) (hA : A.handled = none) (hn : n.h = false) (dp : A.depth + 1 + 10 * n.k ≤ 900) (un : A.units + 4 + 100 * n.k ≤ 9000) (hl : A.frames = some l) :
    Seg C.M A.in1 (genR C Mg I) (genY C A env a NP Mg I items) items.length s (.func (rowsBody p1 p2 p3 p4 p5 p6 q1 q2 q3 q4 q5 q6 k1 k2) env) (C.M.den (.func (rowsBody p1 p2 p3 p4 p5 p6 q1 q2 q3 q4 q5 q6 k1 k2) env)) [] s := by
  refine seg_func (seg_execs_cons (seg_For (fun _ => rfl) ?_))
  have hB := inB_func (body := rowsBody p1 p2 p3 p4 p5 p6 q1 q2 q3 q4 q5 q6 k1 k2) (env := env) hA hn dp un hl
  have S := G.sit hB
  refine ex1_2 (look_of G.mod (x := Str.ofString "self") (d := .adr a) (.inl rfl)) fun v0 lk r0 => ?_
  cases r0.i_adr
  refine attr_name (C := C) (eval_name_eq G.mod lk ?_ (by decide) (by decide))
  refine wl_pq (C := C.at s.gens G.b) W.to G.ok w.to ?_
  obtain ⟨dx, es, j, k, vs, n1, n2, e1, e2, e3, e4, z, r⟩ := w
  refine wpAny_pyIter_list (isLst e4) ?_
  intro pp
  generalize hs2 : ({ s with heap := s.heap.push { cls := .type "list_iterator", data := .fields #[.ref p, .int 0 0] }, toks := s.toks + 1 } : Shared) = s2
  have ext : ∀ b o, s.heap.get? b = some o → s2.heap.get? b = some o := by rw [← hs2]; exact push_keeps _
  have nx : Nx (C.at s.gens G.b) s s2 := by
    have := Nx.keeps (t := s.toks + 1) G.ok ext
    rw [← hs2] at this ⊢; exact this
  have q : s2.heap.IsListIter I p 0 := by rw [← hs2, hI]; exact ⟨_, Heap.get?_push_size _ rfl, rfl, rfl⟩
  have dI : s.heap.get? I = none := by rw [hI]; exact dead_size
  have nMI : ¬ Mg I := fun z => by refine ex0_2 (G.mod.alive I z) fun _ zq1 => ?_; refine ex1_2 zq1 fun o e _ => ?_; try clear zq1; exact no_some dI e
  have G2 : GI C A env a NP Mg I items s2 := by
    refine { mod := ?_, k := nx.ok.k.back, t := nx.ok.t, b := by rw [nx.ok.gens]; exact G.b, o := nx.ok.o, fr := G.fr.keep (M := fun _ => False) nx.k.back, top := ?_, new := G.k.dead G.t dI, it := ?_, nI := ⟨hNI, nMI⟩ }
    · exact ((G.mod.keep nx.k.back G.t nx.ok.t).selfX (X' := AlN NP s2) (fun b z => z.1) fun b z => ⟨(let ⟨o, e⟩ := (G.mod.mx b z).1; ⟨o, ext _ _ e⟩), (G.mod.mx b z).2⟩)
    · refine ex0_2 G.top fun t1 zq2 => ?_; refine ex2_5 zq2 fun L ob t2 t3 t4 t5 t6 => ?_; try clear zq2
      exact ⟨t1, L, ob, t2, t3, ext _ _ t4, t5, t6⟩
    · exact ⟨p, vs, k, 0, q, hp, ext _ _ e4, z, r.toL.keep nx.k.back (fun _ z => z.elim) G.t⟩
  have g2 : Gst C Mg I s s2 := ⟨Kq.of_kp nx.k.back, nx.ok.gens, nx.ok.k.back, nx.ok.t, nx.ok.o, fun b _ zq3 => ex1_1 zq3 fun o e => ⟨o, ext _ _ e⟩⟩
  rw [hI] at G2 g2 ⊢
  exact gen_loop (n := n) en hlp hlc hco (inB_loop hA hn dp un hl) rfl rfl (fun m s₀ s' hr => seg_loop_done (seg_end (.ok (.ret .none)) hr)) items s s2 ⟨[], rfl⟩ G2 g2
end
end Mine
set_option maxHeartbeats 2000000
namespace Mine

section
variable {C : Cx} {A B : Around} {n : Lv} {sc : Sc} {ρ ρ' : Rho} {env eg : Env} {a p I : Addr} {NP Mg M X K : Addr → Prop} {us items : List Itm} {s s' s₀ s₁ s₂ : Shared} {h h' : Heap} {x : Str} {E : Value → Shared → Prop}

noncomputable def NPof (X : Addr → Prop) (s : Shared) (b : Addr) : Prop := X b ∨ s.heap.get? b = none
noncomputable def scRows (qual : Str) : Sc := ⟨defScope (mAt 3), qual ++ ".<locals>.", none⟩

structure Rows0 (C : Cx) (A : Around) (qual : Str) (X : Addr → Prop) (s : Shared) (items : List Itm) (a p : Addr) (eg : Env) (ga g : Nat) (Mg : Addr → Prop) (s2 : Shared) : Prop where
  k : Kp C s.heap s2.heap
  ok : Ok C s2
  gb : GB C A eg a (NPof X s) Mg s2
  w : WlAt C s2.heap (NPof X s) a p items
  np : ¬ NPof X s p
  gen : s2.heap.IsGen ga g
  gs : s2.gens[g]? = some (.fresh (.func (defBody (mAt 3)) eg))
  en : EnvIs C (scRows qual) eg
  dead : ∀ b, b = ga ∨ Mg b → s.heap.get? b = none
  nga : ¬ Mg ga
  nocell : ∀ y c, eg.cells.lookup y = some c → False

theorem wlAt_of {v : Value} {items : List Itm} (r : Rd C h X v (.wl items)) : ∃ a p, v = .ref a ∧ ¬ X p ∧ WlAt C h X a p items ∧ ∃ o, h.get? p = some o := by
  cases r.i_wl with
  | mk n1 n2 n3 e1 e2 e3 e4 z rr => exact ⟨_, _, rfl, n3, ⟨_, _, _, _, _, n1, n2, e1, e2, e3, e4, z, rr⟩, _, e4⟩

theorem call_rows {fr : Addr} {qual : Str} {Q : Value → Shared → Prop} (mr : MFn C fr 3 "rows" qual) (hG : ∀ γ, AllBare γ → C.G γ) (S : Sit C n.up A s) (hX : Xl X s.heap) (w : WlAt C s.heap X a p items) (hp : ¬ X p) (lp : ∃ o, s.heap.get? p = some o)
    (q : ∀ eg ga g Mg s2, Rows0 C A qual X s items a p eg ga g Mg s2 → Q (.ref ga) s2) : wpAny C.M A (call (.ref fr) [.ref a] []) Q E s := by
  refine ex6_3 mr.code fun c kV doc pm an ct e cr nt => ?_
  have ef := S.ok.obj e (fun _ z => by cases z) (by simp) (by simp)
  refine wpAny_call (codeAny_call_generator (body := defBody (mAt 3)) (by have := S.dp; have : recursionLimit = 1000 := rfl; lia) ef rfl (by rfl) (by rfl) rfl (CodeRec.kq cr S.ok.k nt) ?_)
  refine wpAny_of_eq (a := [((Str.ofString "self"), .ref a)]) (by kernel_rfl) ?_
  refine wpAny_newEnv (ρ := []) (ds := [(Str.ofString "self", .adr a)]) S.ok hX (by rfl) .nil (by simp [clOk, List.all_eq_true, Rho.get, Slot.isUnk]) (.cons (.adr a) .nil) (by rfl) fun new s1 o1 m1 k1 dead zq3 => ex1_3 zq3 fun fo e2 c2 nf2 => ⟨o1.nolim, ?_⟩
  generalize henv : newEnv (defScope (mAt 3)) s.heap.objs.size mainGlobals (cellsFrom (s.heap.objs.size + 1) (defScope (mAt 3)).names []) (qual ++ ".<locals>.") (some fr) (.ref c) none builtinsNs = eg at m1
  generalize hgo : ({ cls := .type "generator", data := .fields #[.int s1.gens.size 0, .str (Str.ofString "rows") s1.toks, .str qual (s1.toks + 1)] } : Obj) = go
  have ext : ∀ b o, s1.heap.get? b = some o → (s1.heap.push go).get? b = some o := push_keeps _
  have eg1 : (s1.heap.push go).get? s1.heap.objs.size = some go := Heap.get?_push_size _ (by rw [← hgo]; rfl)
  have o2 : Ok C { s1 with gens := s1.gens.push (.fresh (.func (defBody (mAt 3)) eg)), toks := s1.toks + 1 + 1, heap := s1.heap.push go } :=
    ⟨o1.k.trans (Kq.keeps ext), o1.t.keeps ext, hG _ (AllBare.push (C.gb _ o1.g) rfl), o1.o⟩
  have k12 : Kp C s1.heap (s1.heap.push go) := Kq.keeps ext
  have dga : s.heap.get? s1.heap.objs.size = none := dead_back k1 o1.t dead_size
  have m1' : Mod C eg [(Str.ofString "self", .val (.adr a))] (fun b => X b ∨ ENew s new b) (ENew s new) s1.heap := m1
  have nga : ¬ ENew s new s1.heap.objs.size := fun z => by
    refine ex0_2 (m1.alive _ z) fun _ zq1 => ?_; refine ex1_2 zq1 fun o e _ => ?_; try clear zq1
    exact no_some dead_size e
  refine q eg s1.heap.objs.size s1.gens.size (ENew s new) _ ⟨k1.trans k12, o2, ?_, ?_, ?_, ?_, ?_, ?_, ?_, nga, fun y cc z => ?_⟩
  · refine ⟨?_, o2.k, o2.t, C.gb _ o2.g, o2.o, S.fr.keep (M := fun _ => False) (k1.trans k12), ?_⟩
    · refine (m1'.keep k12 o1.t o2.t).selfX (fun b z => z.1) fun b z => ⟨?_, .inr (dead b z)⟩
      refine ex0_2 (m1.alive b z) fun _ zq2 => ?_; refine ex1_2 zq2 fun o e _ => ?_; try clear zq2
      exact ⟨o, ext _ _ e⟩
    · refine ⟨by rw [← henv]; show (defScope (mAt 3)).kind ≠ _; decide, s.heap.objs.size, fo, by rw [← henv]; rfl, S.ok.k.dead S.ok.t dead_size, ext _ _ e2, c2, nf2⟩
  · exact (w.anti fun b o e z => z.elim id fun z => by rw [e] at z; cases z).keep (M := fun _ => False) (k1.trans k12) (fun _ z => z.elim) id S.ok.t
  · rintro (z | z)
    · exact hp z
    · refine ex1_1 lp fun o e => ?_; try clear lp; rw [e] at z; cases z
  · rw [← hgo] at eg1 ⊢
    exact ⟨_, _, _, eg1, rfl, rfl, rfl⟩
  · simp
  · rw [← henv]
    exact ⟨rfl, rfl, fun c' P z => by cases z⟩
  · rintro b (z | z)
    · rw [z]; exact dga
    · exact dead b z
  · rw [← henv] at z
    have e : (newEnv (defScope (mAt 3)) s.heap.objs.size mainGlobals (cellsFrom (s.heap.objs.size + 1) (defScope (mAt 3)).names []) (qual ++ ".<locals>.") (some fr) (.ref c) none builtinsNs).cells = [] := rfl
    rw [e] at z; cases z
end
end Mine
namespace Mine

section
variable {C : Cx} {A B : Around} {n : Lv} {sc : Sc} {ρ ρ' : Rho} {env eg : Env} {a p I : Addr} {NP Mg M X K : Addr → Prop} {us items : List Itm} {s s' s₀ s₁ s₂ : Shared} {h h' : Heap} {x : Str} {E : Value → Shared → Prop}

theorem GB.gensTo {γ : Array GenState} {t : Nat} (G : GB C A env a NP Mg s) (b : AllBare γ) : GB C A env a NP Mg { s with gens := γ, toks := t } := ⟨G.mod, G.k, G.t, b, G.o, G.fr, G.top⟩
theorem GI.gensTo {γ : Array GenState} {t : Nat} (G : GI C A env a NP Mg I us s) (b : AllBare γ) : GI C A env a NP Mg I us { s with gens := γ, toks := t } := { G.toGB.gensTo b with new := G.new, it := G.it, nI := G.nI }

theorem bare_set {γ : Array GenState} {g : Nat} {y : GenState} (b : AllBare γ) (hy : y.bare = true) : AllBare (γ.setIfInBounds g y) := fun z hz => by
  obtain ⟨i, hi, rfl⟩ := Array.mem_iff_getElem.mp hz
  rw [Array.getElem_setIfInBounds (by simpa using hi)]
  split
  · exact hy
  · exact b _ (Array.getElem_mem (by simpa using hi))

theorem GI.keep (G : GI C A env a NP Mg I us s) (k : Kq C K s.heap s'.heap) (o : Ok C s') (hK : ∀ b, K b → NP b ∧ ¬ Mg b ∧ b ≠ I ∧ ∃ ob, s.heap.get? b = some ob ∧ NF ob) (hc : ∀ y c, env.cells.lookup y = some c → ¬ K c) : GI C A env a NP Mg I us s' := by
  refine ex4_5 G.it fun l vs j i q hl el z r => ?_
  have lv : ∀ b, (∃ ob, s.heap.get? b = some ob) → ∃ ob, s'.heap.get? b = some ob := fun b zq11 => ex1_1 zq11 fun ob e => k.live (fun b ob hb e => by refine ex1_2 ((hK b hb).2.2.2) fun ob' e' nf => ?_; obtain rfl := is_some e e'; exact nf) o.t e
  refine { mod := ?_, k := o.k, t := o.t, b := C.gb _ o.g, o := o.o, fr := G.fr.keep k, top := ?_, new := G.new, it := ?_, nI := G.nI }
  · refine G.mod.move G.t k o.t (fun b hb => ⟨.inl ⟨let ⟨ob, e, _⟩ := (hK b hb).2.2.2; ⟨ob, e⟩, (hK b hb).1⟩, (hK b hb).2.1⟩) hc (fun b hb => ⟨?_, hb.1⟩) fun b hb => ⟨lv b (G.mod.mx b hb).1, (G.mod.mx b hb).2⟩
    cases e : s.heap.get? b with
    | none => exact .inr rfl
    | some ob => exact .inl ⟨⟨ob, e⟩, hb.2⟩
  · refine ex0_2 G.top fun t1 zq2 => ?_; refine ex2_5 zq2 fun L ob t2 t3 t4 t5 t6 => ?_; try clear zq2
    refine ex1_3 (k.kind L ob t4 t6) fun ob1 u1 u2 u3 => ?_
    exact ⟨t1, L, ob1, t2, t3, u1, u2.trans t5, u3⟩
  · exact ⟨l, vs, j, i, IsListIter.kq G.new k (fun z => (hK I z).2.2.1 rfl) G.t q, hl, k.exact (fun z => hl (hK l z).1) (G.t.notab el (by simp)) el (by simp), z, r.keep k (fun b hb => (hK b hb).1) G.t⟩

theorem IsGen.kq {ga g : Nat} (q : h.IsGen ga g) (k : Kq C K h h') (T : TabOK C h) (nK : ¬ K ga) : h'.IsGen ga g := by
  refine ex3_4 q fun o nm qn e c d sl => ?_; try clear q
  exact ⟨o, nm, qn, k.exact nK (T.notab e (by rw [c]; simp)) e (by rw [c]; simp), c, d, sl⟩

noncomputable def Ready (C : Cx) (A : Around) (eg : Env) (a p : Addr) (NP Mg : Addr → Prop) (I : Addr) (items us : List Itm) (gs : GenState) (s : Shared) : Prop :=
  (us = items ∧ gs = .fresh (.func (defBody (mAt 3)) eg) ∧ GB C A eg a NP Mg s ∧ WlAt C s.heap NP a p items ∧ I = s.heap.objs.size) ∨
  (GI C A eg a NP Mg I us s ∧ ∀ s'', GI C A eg a NP Mg I us s'' → gs.Goes C.M A.in1 (genR C Mg I) (genY C A eg a NP Mg I items) us.length (.send .none) s'')

theorem letGo_gen {es : List Expr} {k : Nat} {pp : Pos} {ga g : Nat} {v : Value} {Q : Unit → Shared → Prop} (q : s.heap.IsGen ga g) (hQ : Q () s) : wpAny C.M A (letOwnedTupleGo (.Tuple es k pp) (.ref ga) v) Q E s := by
  cases v with
  | ref b =>
    refine ex3_4 q fun o nm qn e c d sl => ?_; try clear q
    obtain ⟨oc, od, odt, osl⟩ := o
    dsimp at c d; subst c d
    show wpAny C.M A (load ga >>= _) Q E s
    refine wpAny_bind (wpAny_load e ?_)
    dsimp only
    rw [if_neg (by intro z; rw [Bool.and_eq_true] at z; exact absurd z.1 (by decide))]
    exact wpAny_pure hQ
  | _ => exact wpAny_pure hQ

theorem suffix_eq {α : Type} {l pre₁ pre₂ : List α} {x y : α} {u v : List α} (h1 : l = pre₁ ++ x :: u) (h2 : l = pre₂ ++ y :: v) (hl : u.length = v.length) : x = y ∧ u = v := by
  have e := h1.symm.trans h2
  have hp : pre₁.length = pre₂.length := by
    have := congrArg List.length e
    simp only [List.length_append, List.length_cons] at this
    lia
  have := (List.append_inj e hp).2
  injection this with a b
  exact ⟨a, b⟩

theorem Post.back {γ : Array GenState} {hγ : AllBare γ} {X' M' : Addr → Prop} (p : Post (C.at γ hγ) env X M s ρ X' M' s') (hG : C.G s'.gens) : Post C env X M s ρ X' M' s' :=
  ⟨p.mod.back, p.kq.back, p.ok.back rfl rfl hG, p.xx, p.mm, p.xm⟩
theorem out_rd {v : Value} {it : Itm} {X' X'' : Addr → Prop} (r : Rd C h X' v (outD it)) (hx : ∀ b o, h.get? b = some o → o.cls = .type "tuple" → X'' b → X' b) : Rd C h X'' v (outD it) := by
  cases r.i_tup with
  | mk n e z rl =>
    refine ex2_3 rl.two fun y w zq3 ra rb => ?_; subst zq3
    cases ra.i_int; cases rb.i_byt
    exact .tup (fun q => n (hx _ _ e rfl q)) e z (.cons (.int _ _) (.cons (.byt _ _) .nil))

noncomputable abbrev FrI (C : Cx) (A : Around) (env eg : Env) (X M : Addr → Prop) (s : Shared) (ρ : Rho) (J : List Itm → Prop) (ga : Addr) (g : Nat) (Mg : Addr → Prop) (a p Ia : Addr) (items : List Itm) (k : Nat) (s' : Shared) : Prop :=
  ∃ us X' M', J us ∧ us.length = k ∧ Post C env X M s ρ X' M' s' ∧ (∀ b, (b = ga ∨ Mg b) → X' b ∧ ¬ M' b) ∧ (∀ o, s'.heap.get? Ia = some o → X' Ia) ∧ ¬ M' Ia ∧ s'.heap.IsGen ga g ∧ (∃ pre, items = pre ++ us) ∧
    ∃ gs, s'.gens[g]? = some gs ∧ Ready C A eg a p (NPof X s) Mg Ia items us gs s'

theorem H1_forrows {fi fa fg fr : Addr} {qual : Str} {es : List Expr} {k : Nat} {tp xp ap cp pos : Pos} {bd : List Stmt} {Q : Fl → Rho → Prop} (W : WLF C fi fa fg fr) (mr : MFn C fr 3 "rows" qual) (hG : ∀ γ, AllBare γ → C.G γ) (hx : ρ.get x = .val (.wl items)) (hn : n.h = false)
    (J : List Itm → Prop) (turn : ∀ γ hγ it rest, J (it :: rest) → ∃ ρ₁, Asg (C.at γ hγ) n.up sc ρ (.Tuple es k tp) (outD it) ρ₁ ∧ Hs (C.at γ hγ) n.up sc ρ₁ bd (fun fl ρ' => match fl with
      | .next => J rest ∧ Wk (C.at γ hγ) ρ' ρ
      | .cont => J rest ∧ Wk (C.at γ hγ) ρ' ρ
      | .brk => Q .next ρ'
      | .ret d => Q (.ret d) ρ')) (fin : J [] → Q .next ρ) (hi : J items)
    (hcall : ∀ env, eval (.Call (.Attribute (.Name x xp) "rows" ap) [] [] cp) env = (do
      let ov ← eval (.Name x xp) env
      standAt ap.atName
      let fx ← holding [ov] (getMethod ov "rows" (plOf (.Name x xp) env))
      callWith cp fx.1 fx.2 (backTo cp (starEach [] env)) (backToKw cp (keywordEach [] env))) := by intro env; rfl)
    (hd : (x == ("__debug__" : Str)) = false := by decide) (hnm : (x == ("__classdict__" : Str)) = false := by decide) : H1 C n.up sc ρ (.For (.Tuple es k tp) (.Call (.Attribute (.Name x xp) "rows" ap) [] [] cp) bd [] pos) Q := fun A env X M s S en m tp' => by
  refine wpAny_For (hs := fun _ => rfl) ?_
  rw [hcall env]
  refine ex1_2 (look_of m (.inl hx)) fun u lk r => ?_
  refine ex2_4 (wlAt_of r) fun a p zq4 hXp w lp => ?_; subst zq4
  refine wpAny_bind (eval_name_eq m lk (wpAny_bind (wpAny_standAt (wpAny_bind (wpAny_holding (wl_meth W S.ok w W.rows W.tr W.sr ?_))))) hd hnm)
  refine ex2_3 mr.fn fun fo fd ef hfd hfc => ?_
  have nfo : NF fo := fun vs z => by rw [hfd] at z; cases z
  show wpAny C.M A (callWith cp (.ref fr) [.ref a] [] []) _ _ s
  refine Calls.callWith_function (o := fo) (fd := fd) (evalArgs_nil3 ⟨⟨S.ok.obj ef nfo (by rw [hfc]; simp) (by rw [hfc]; simp), hfd⟩, ?_⟩)
  refine call_rows (A := A) mr hG S m.xl w hXp lp fun eg ga g Mg s2 R0 => ?_
  refine wpAny_pyIter_gen R0.gen ?_
  generalize hIa : s2.heap.objs.size = Ia
  have dIa2 : s2.heap.get? Ia = none := by rw [← hIa]; exact dead_size
  have dIa : s.heap.get? Ia = none := dead_back R0.k R0.ok.t dIa2
  have lga : ∃ o, s2.heap.get? ga = some o := by refine ex3_2 R0.gen fun o _ _ e _ => ?_; exact ⟨o, e⟩
  have gaI : ga ≠ Ia := fun z => by refine ex1_1 lga fun o e => ?_; try clear lga; rw [z, dIa2] at e; cases e
  have NPof_x : ∀ b, X b ∨ s.heap.get? b = none → NPof X s b := fun b z => z
  have mlive : ∀ b, M b → ∃ o, s.heap.get? b = some o := fun b z => let ⟨_, o, e, _⟩ := m.alive b z; ⟨o, e⟩
  have zdead : ∀ b, genZ Mg Ia b → s.heap.get? b = none := fun b z => z.elim (fun z => R0.dead b (.inr z)) fun z => z ▸ dIa
  refine codeAny_forLoop_any (FrI C A env eg X M s ρ J ga g Mg a p Ia items) ?_ items.length ?_
  · intro kk s3 zi1; refine ex3_9 zi1 fun us X' M' hJ hk p3 f1 fI nI hgen zq5 zq6 => ?_; try clear zi1; refine ex1_1 zq5 fun pre hpre => ?_; try clear zq5; refine ex1_2 zq6 fun gs hgs hrd => ?_; try clear zq6
    have S3 := S.step p3.kq p3.ok fun b z => (m.alive b z).2
    refine ex1_2 (id S3.fr) fun l hl _ => ?_
    have b3 : AllBare (s3.setGen g .running).gens := bare_set (C.gb _ p3.ok.g) rfl
    have hsz : g < s3.gens.size := by
      rcases Nat.lt_or_ge g s3.gens.size with q | q
      · exact q
      · exact no_some (Array.getElem?_eq_none q) hgs
    have goes : gs.Goes C.M A.in1 (genR C Mg Ia) (genY C A eg a (NPof X s) Mg Ia items) us.length (.send .none) (s3.setGen g .running) := by
      rcases hrd with ⟨rfl, rfl, G, w', hI⟩ | ⟨G, hgo⟩
      · refine ⟨rfl, ?_⟩
        exact gen_start (n := n) R0.en (by rfl) (by rfl) (by rfl) W (G.gensTo (γ := (s3.setGen g .running).gens) (t := s3.toks) b3) w' R0.np hI (.inr dIa) (S3.hd hn) hn (by have := S3.dp; dsimp at this; lia) (by have := S3.un; dsimp at this; lia) hl
      · exact hgo _ (G.gensTo (γ := (s3.setGen g .running).gens) (t := s3.toks) b3)
    have npX : ∀ b, X' b → NPof X s b := fun b z => p3.xm b z
    have mM : ∀ b, M' b → NPof X s b := fun b z => (p3.mm b z).imp (m.mx b) id
    refine pyNext_genQ (P := fun m s₀ s₁ => m = 0 ∧ Gst C Mg Ia s₀ s₁) (Y := genY C A eg a (NPof X s) Mg Ia items) (n := us.length) (S3.hd hn) S3.ok.nolim (by have := S3.dp; have : recursionLimit = 1000 := rfl; lia) hgen hgs goes (fun v s₁ gs' hb hY => ?_) (fun s₁ hP h' ext => ?_)
    · refine ex2_6 hY fun it us' zq7 hm rv gst G₁ hkap => ?_; try clear hY; refine ex1_1 zq7 fun pre' hpre' => ?_; try clear zq7
      cases us with
      | nil => exact (hkap s₁ G₁).elim
      | cons d rest =>
      refine ex0_2 (suffix_eq hpre' hpre (by simpa using hm.symm)) fun zq8 zq9 => ?_; subst zq8; subst zq9
      have kq1 : Kq C (genZ Mg Ia) s3.heap s₁.heap := gst.kq
      have hγ : AllBare (s₁.setGen g gs').gens := bare_set (by rw [gst.gens]; exact b3) hb
      have aI : ∃ o, s₁.heap.get? Ia = some o ∧ o.cls = .type "list_iterator" := by refine ex4_2 G₁.it fun l' vs j i q _ => ?_; refine ex1_3 q fun o e c _ => ?_; try clear q; exact ⟨o, e, c⟩
      have nzM : ∀ b, genZ Mg Ia b → ¬ M' b := fun b z => z.elim (fun z => (f1 b (.inr z)).2) fun z => z ▸ nI
      have XI : X' Ia ∨ s3.heap.get? Ia = none := by
        cases e : s3.heap.get? Ia with
        | none => exact .inr rfl
        | some o => exact .inl (fI o e)
      have al1 : ∀ b, X' b → ∃ o, s₁.heap.get? b = some o := fun b z => by
        by_cases hbI : b = Ia
        · refine ex1_2 aI fun o e _ => ?_; try clear aI; exact ⟨o, hbI ▸ e⟩
        · exact gst.al b hbI (p3.mod.live b z)
      have m4 : Mod C env ρ (fun b => X' b ∨ b = Ia) M' s₁.heap := p3.mod.move p3.ok.t kq1 gst.t (fun b z => ⟨z.elim (fun z => .inl (f1 b (.inr z)).1) fun z => z ▸ XI, nzM b z⟩)
        (fun y c hc z => by refine ex1_1 (m.cells y c hc) fun w' e => ?_; exact no_some (zdead c z) e)
        (fun b z => z.elim (fun z => ⟨.inl z, al1 b z⟩) fun z => z ▸ ⟨XI, let ⟨o, e, _⟩ := aI; ⟨o, e⟩⟩) fun b z => .inl (p3.mod.mx b z)
      have o4 : Ok C (s₁.setGen g gs') := ⟨gst.k, gst.t, hG _ hγ, gst.o⟩
      have p4 : Post C env X M s ρ (fun b => X' b ∨ b = Ia) M' (s₁.setGen g gs') :=
        ⟨m4, p3.kq.trans' kq1 (fun b o e z => by exact no_some (zdead b z) e), o4, fun b z w => .inl (p3.xx b z w), p3.mm, fun b z => z.elim (p3.xm b) fun z => z ▸ .inr dIa⟩
      have rv4 : Rd C s₁.heap (fun b => X' b ∨ b = Ia) v (outD it) := out_rd rv fun b o e c z => by
        rcases z with z | z
        · exact ⟨p3.mod.live b z, npX b z⟩
        · subst z
          refine ex1_2 aI fun o' e' c' => ?_; try clear aI
          obtain rfl := is_some e e'; rw [c] at c'; simp at c'
      have S4 : Sit C n.up A (s₁.setGen g gs') := S.step p4.kq p4.ok fun b z => (m.alive b z).2
      have S4' : Sit (C.at (s₁.setGen g gs').gens hγ) n.up A (s₁.setGen g gs') := S4.to rfl
      refine ex1_2 (turn (s₁.setGen g gs').gens hγ it us' hJ) fun ρ1 ha hb' => ?_
      have gen1 : s₁.heap.IsGen ga g := IsGen.kq hgen kq1 p3.ok.t fun z => z.elim R0.nga gaI
      refine letGo_gen gen1 ?_
      refine wp_false (ha A env _ M' (s₁.setGen g gs') v S4' en m4.to rv4.to) fun _ s5 zq12 => ex0_3 zq12 fun o5 m5 k5 => ?_
      have S5 := S4'.step k5 o5 fun b z => (m4.alive b z).2
      refine wp_false (hb' A env _ M' s5 S5 en m5 tp') fun f s6 ⟨fl, ρ2, X2, M2, q2, r2, p56⟩ => ?_
      have p45 : Post (C.at (s₁.setGen g gs').gens hγ) env (fun b => X' b ∨ b = Ia) M' (s₁.setGen g gs') ρ1 (fun b => X' b ∨ b = Ia) M' s5 := .of m5 k5 o5
      have p46 := Post.trans (s := s₁.setGen g gs') m4.to p45 p56
      have g6 : s6.gens = (s₁.setGen g gs').gens := p56.ok.gens
      have hG6 : C.G s6.gens := by rw [g6]; exact hG _ hγ
      have p46' : Post C env (fun b => X' b ∨ b = Ia) M' (s₁.setGen g gs') ρ2 X2 M2 s6 := p46.back hG6
      have p6 := p4.trans m p46'
      have k46 : Kq C M' s₁.heap s6.heap := p46'.kq
      have go : (J us' ∧ Wk (C.at (s₁.setGen g gs').gens hγ) ρ2 ρ) → ∃ mm, mm < kk ∧ ∃ us X' M', J us ∧ us.length = mm ∧ Post C env X M s ρ X' M' s6 ∧ (∀ b, (b = ga ∨ Mg b) → X' b ∧ ¬ M' b) ∧ (∀ o, s6.heap.get? Ia = some o → X' Ia) ∧ ¬ M' Ia ∧ s6.heap.IsGen ga g ∧ (∃ pre, items = pre ++ us) ∧
          ∃ gs, s6.gens[g]? = some gs ∧ Ready C A eg a p (NPof X s) Mg Ia items us gs s6 := fun zq13 => ex0_2 zq13 fun hJ' wk => by
        have nM2 : ∀ b, (X' b ∨ b = Ia) → ¬ M' b → ¬ M2 b := fun b z w hM => (p46'.mm b hM).elim w fun e => by
          refine ex1_1 (m4.live b z) fun o e' => ?_
          have e2 : s₁.heap.get? b = none := e
          rw [e'] at e2; cases e2
        refine ⟨us'.length, by rw [← hk]; simp, us', X2, M2, hJ', rfl, { p6 with mod := (wk env X2 M2 s6.heap p56.mod).back }, fun b z => ⟨p46'.xx b (.inl (f1 b z).1) (f1 b z).2, nM2 b (.inl (f1 b z).1) (f1 b z).2⟩, fun _ _ => p46'.xx Ia (.inr rfl) nI, nM2 Ia (.inr rfl) nI,
          IsGen.kq gen1 k46 gst.t (f1 ga (.inl rfl)).2, ⟨pre ++ [it], by rw [hpre]; simp⟩, gs', ?_, .inr ⟨?_, hkap⟩⟩
        · rw [g6]
          have h1 : s₁.gens = (s3.setGen g .running).gens := gst.gens
          show (s₁.gens.setIfInBounds g gs')[g]? = some gs'
          rw [h1, Array.getElem?_setIfInBounds_self_of_lt]
          show g < (s3.gens.setIfInBounds g .running).size
          simpa using hsz
        · refine GI.keep G₁ k46 p6.ok (fun b z => ⟨mM b z, fun y => (f1 b (.inr y)).2 z, fun y => nI (y ▸ z), ?_⟩) fun y c z => (R0.nocell y c z).elim
          refine ex0_2 (m4.alive b z) fun _ zq10 => ?_; refine ex1_2 zq10 fun o e nf => ?_; try clear zq10
          exact ⟨o, e, nf⟩
      cases r2.i
      · exact go q2
      · exact ⟨.next, ρ2, X2, M2, q2, trivial, p6⟩
      · exact go q2
      · exact ⟨.ret _, ρ2, X2, M2, q2, FlR.back (f := .ret _) (fl := .ret _) r2, p6⟩
    · refine ex0_2 hP fun hm gst => ?_; try clear hP
      cases us with
      | cons d rest => simp at hm
      | nil =>
      have kq1 : Kq C (genZ Mg Ia) s3.heap h' := gst.kq.trans (Kq.keeps ext)
      have t1 : TabOK C h' := gst.t.keeps ext
      have hγ : AllBare (s₁.setGen g .finished).gens := bare_set (by rw [gst.gens]; exact b3) rfl
      have o4 : Ok C { s₁.setGen g .finished with heap := h' } := ⟨gst.k.trans (Kq.keeps ext), t1, hG _ hγ, gst.o⟩
      have XI : X' Ia ∨ s3.heap.get? Ia = none := by
        cases e : s3.heap.get? Ia with
        | none => exact .inr rfl
        | some o => exact .inl (fI o e)
      refine wpAny_execs_nil ⟨.next, ρ, fun b => X' b ∧ ¬ (b = ga ∨ Mg b) ∧ b ≠ Ia, M', fin hJ, trivial, ?_⟩
      refine ⟨p3.mod.move p3.ok.t kq1 t1 (fun b z => ⟨z.elim (fun z => .inl (f1 b (.inr z)).1) fun z => z ▸ XI, z.elim (fun z => (f1 b (.inr z)).2) fun z => z ▸ nI⟩)
        (fun y c hc z => by refine ex1_1 (m.cells y c hc) fun w' e => ?_; exact no_some (zdead c z) e)
        (fun b z => ⟨.inl z.1, let ⟨o, e⟩ := gst.al b z.2.2 (p3.mod.live b z.1); ⟨o, ext _ _ e⟩⟩) fun b z => ⟨p3.mod.mx b z, fun y => (f1 b y).2 z, fun y => nI (y ▸ z)⟩,
        p3.kq.trans' kq1 (fun b o e z => by exact no_some (zdead b z) e), o4, fun b z w => ⟨p3.xx b z w, fun y => ?_, fun y => ?_⟩, p3.mm, fun b z => p3.xm b z.1⟩
      · refine ex1_1 (m.live b z) fun o e => ?_; exact no_some (R0.dead b y) e
      · refine ex1_1 (m.live b z) fun o e => ?_; rw [y, dIa] at e; cases e
  · have hf : ∀ b, (b = ga ∨ Mg b) → s.heap.get? b = none ∧ ∃ o, s2.heap.get? b = some o := fun b z => ⟨R0.dead b z, z.elim (fun z => z ▸ lga) fun z => let ⟨_, o, e, _⟩ := R0.gb.mod.alive b z; ⟨o, e⟩⟩
    refine ⟨items, fun b => X b ∨ (b = ga ∨ Mg b), M, hi, rfl, ⟨m.hide S.ok.t R0.k R0.ok.t hf, .of_kp R0.k, R0.ok, fun b z _ => .inl z, fun b z => .inl z, fun b z => z.imp id (R0.dead b)⟩, fun b z => ⟨.inr z, fun y => ?_⟩, fun o e => ?_, fun y => ?_, R0.gen, ⟨[], rfl⟩, _, R0.gs, .inl ⟨rfl, rfl, R0.gb, R0.w, hIa.symm⟩⟩
    · refine ex1_1 (mlive b y) fun o e => ?_; exact no_some (R0.dead b z) e
    · exact no_some dIa2 e
    · refine ex1_1 (mlive Ia y) fun o e => ?_; exact no_some dIa e
end
end Mine
set_option maxHeartbeats 200000
namespace Mine

theorem lcas_bind1 {qual : Str} {T : Addr} {kV doc pm ct c : Value} {an : Option Addr} {a b d e u : Value} {t : Tok} :
    ∃ k, bindArgs (fnX "_find_lcas" qual (argsOf 3) (bodyOf 3) (scopeOf 3) [] (.ref T) kV doc pm an c ct) ⟨[a, b, d, e], [Str.ofString "shallows"].zip [u]⟩ = seqItems? (.ref T) >>= k ∧
      k (some [.int 0 t, .none].toArray) = pure [(Str.ofString "lookup_parents", a), (Str.ofString "c1", b), (Str.ofString "c2s", d), (Str.ofString "lookup_stamp", e), (Str.ofString "min_stamp", .int 0 t), (Str.ofString "shallows", u)] := by
  exact ⟨_, rfl, rfl⟩
theorem lcas_bind2 {qual : Str} {T : Addr} {kV doc pm ct c : Value} {an : Option Addr} {a b d e m u : Value} {t : Tok} :
    ∃ k, bindArgs (fnX "_find_lcas" qual (argsOf 3) (bodyOf 3) (scopeOf 3) [] (.ref T) kV doc pm an c ct) ⟨[a, b, d, e], [Str.ofString "min_stamp", Str.ofString "shallows"].zip [m, u]⟩ = seqItems? (.ref T) >>= k ∧
      k (some [.int 0 t, .none].toArray) = pure [(Str.ofString "lookup_parents", a), (Str.ofString "c1", b), (Str.ofString "c2s", d), (Str.ofString "lookup_stamp", e), (Str.ofString "min_stamp", m), (Str.ofString "shallows", u)] := by
  exact ⟨_, rfl, rfl⟩

section
variable {C : Cx} {n : Lv} {f T : Addr} {nn : Nat} {qual : Str} {cp : Option (Addr × Addr)} {t : Tok} {a b d e m u r : D}
theorem lcas_call1 (g : GFn C f "_find_lcas" qual (argsOf 3) (bodyOf 3) (scopeOf 3) (.ref T) cp) (hT : C.h₁.get? T = some (seqO "tuple" [.int 0 t, .none] nn))
    (hbody : Hs C n ⟨scopeOf 3, qual ++ ".<locals>.", cp⟩ (bindsRho [] [(Str.ofString "lookup_parents", a), (Str.ofString "c1", b), (Str.ofString "c2s", d), (Str.ofString "lookup_stamp", e), (Str.ofString "min_stamp", .int 0), (Str.ofString "shallows", u)]) (bodyOf 3) (RetQ r)) : CallN C n.up (.ref f) ["shallows"] [a, b, d, e] [u] r := by
  refine CallN_fn (fun vs us => [(Str.ofString "lookup_parents", vs.getD 0 .none), (Str.ofString "c1", vs.getD 1 .none), (Str.ofString "c2s", vs.getD 2 .none), (Str.ofString "lookup_stamp", vs.getD 3 .none), (Str.ofString "min_stamp", .int 0 t), (Str.ofString "shallows", us.getD 0 .none)]) g hT (fun {kV doc pm ct an c vs us} hv hu => ?_) (fun h X vs us r q => ?_) (by rfl) hbody
  · refine ex4_1 (len4 hv) fun a b c d zq1 => ?_; subst zq1
    refine ex1_1 (len1 hu) fun u zq2 => ?_; subst zq2
    exact lcas_bind1
  · cases r.i_cons with | mk ra r1 => cases r1.i_cons with | mk rb r2 => cases r2.i_cons with | mk rd r3 => cases r3.i_cons with | mk re r4 => cases q.i_cons with | mk ru q1 => exact .cons ra (.cons rb (.cons rd (.cons re (.cons (.int 0 t) (.cons ru .nil)))))
theorem lcas_call2 (g : GFn C f "_find_lcas" qual (argsOf 3) (bodyOf 3) (scopeOf 3) (.ref T) cp) (hT : C.h₁.get? T = some (seqO "tuple" [.int 0 t, .none] nn))
    (hbody : Hs C n ⟨scopeOf 3, qual ++ ".<locals>.", cp⟩ (bindsRho [] [(Str.ofString "lookup_parents", a), (Str.ofString "c1", b), (Str.ofString "c2s", d), (Str.ofString "lookup_stamp", e), (Str.ofString "min_stamp", m), (Str.ofString "shallows", u)]) (bodyOf 3) (RetQ r)) : CallN C n.up (.ref f) ["min_stamp", "shallows"] [a, b, d, e] [m, u] r := by
  refine CallN_fn (fun vs us => [(Str.ofString "lookup_parents", vs.getD 0 .none), (Str.ofString "c1", vs.getD 1 .none), (Str.ofString "c2s", vs.getD 2 .none), (Str.ofString "lookup_stamp", vs.getD 3 .none), (Str.ofString "min_stamp", us.getD 0 .none), (Str.ofString "shallows", us.getD 1 .none)]) g hT (fun {kV doc pm ct an c vs us} hv hu => ?_) (fun h X vs us r q => ?_) (by rfl) hbody
  · refine ex4_1 (len4 hv) fun a b c d zq3 => ?_; subst zq3
    refine ex2_1 (len2 hu) fun m u zq4 => ?_; subst zq4
    exact lcas_bind2
  · cases r.i_cons with | mk ra r1 => cases r1.i_cons with | mk rb r2 => cases r2.i_cons with | mk rd r3 => cases r3.i_cons with | mk re r4 => cases q.i_cons with | mk rm q1 => cases q1.i_cons with | mk ru q2 => exact .cons ra (.cons rb (.cons rd (.cons re (.cons rm (.cons ru .nil)))))
end
end Mine
namespace Mine

section
variable {C : Cx} {n : Lv} {cp : Option (Addr × Addr)} {a b u : D}
theorem fmb_nil : Hs C n (scOf 4 "find_merge_base.<locals>." cp) (bindsRho [] [(Str.ofString "lookup_parents", a), (Str.ofString "lookup_stamp", b), (Str.ofString "shallows", u), (Str.ofString "commit_ids", .list [])]) (bodyOf 4) (RetQ (.list [])) := by
  refine Hs_cons (H1_ifT (Et_not (b := false) (Et_plain (Ev_name rfl) Truth_list)) (Hs_cons (H1_return (Ev_list El_nil) (.inl rfl))))

theorem fmb_one (hn : n.h = false) {c : Array UInt8} : Hs C n.up (scOf 4 "find_merge_base.<locals>." cp) (bindsRho [] [(Str.ofString "lookup_parents", a), (Str.ofString "lookup_stamp", b), (Str.ofString "shallows", u), (Str.ofString "commit_ids", .list [.byt c])]) (bodyOf 4) (RetQ (.list [.byt c])) := by
  refine Hs_cons (H1_ifF (Et_not (b := true) (Et_plain (Ev_name rfl) Truth_list)) (Hs_nil ?_))
  refine Hs_cons (H1_assign (Ev_sub_list (Ev_name rfl) Ev_int (by decide) rfl) (Asg_name) ?_)
  refine Hs_cons (H1_ifT (Et_not (b := false) (Et_cmp (Ev_bi rfl (El_cons (Ev_name rfl) El_nil) Call_len) Ev_int Op_gt)) (Hs_cons (H1_return (Ev_list (El_cons (Ev_name rfl) El_nil)) (.inl rfl))))

theorem fmb_in (hn : n.h = false) {c d : Array UInt8} {l : List (Array UInt8)} (f : D → Bool) (hf : ∀ y ∈ (d :: l).map D.byt, Eqx C y (.byt c) (f y)) (hin : ((d :: l).map D.byt).any f = true) : Hs C n.up (scOf 4 "find_merge_base.<locals>." cp) (bindsRho [] [(Str.ofString "lookup_parents", a), (Str.ofString "lookup_stamp", b), (Str.ofString "shallows", u), (Str.ofString "commit_ids", .list (.byt c :: (d :: l).map D.byt))]) (bodyOf 4) (RetQ (.list [.byt c])) := by
  refine Hs_cons (H1_ifF (Et_not (b := true) (Et_plain (Ev_name rfl) Truth_list)) (Hs_nil ?_))
  refine Hs_cons (H1_assign (Ev_sub_list (Ev_name rfl) Ev_int (by decide) rfl) (Asg_name) ?_)
  refine Hs_cons (H1_ifF (Et_not (b := true) (Et_cmp (Ev_bi rfl (El_cons (Ev_name rfl) El_nil) Call_len) Ev_int (by have := Op_gt (C := C) (n := n.up) (a := ((D.byt c :: (d :: l).map D.byt).length : Int)) (b := 1); rwa [decide_eq_true (by simp; lia)] at this))) (Hs_nil ?_))
  refine Hs_cons (H1_assign (Ev_ty rfl (El_cons (Ev_from (j := 1) (Ev_name rfl)) El_nil) Call_list) (Asg_name) ?_)
  refine Hs_cons (H1_ifT (Et_cmp (Ev_name rfl) (Ev_name rfl) (by have := Op_in (n := n.up) hf; rwa [hin] at this)) (Hs_cons (H1_return (Ev_list (El_cons (Ev_name rfl) El_nil)) (.inl rfl))))

theorem fmb_lcas (hn : n.h = false) {g T : Addr} {qual : Str} {cp3 : Option (Addr × Addr)} {r : D} {c d : Array UInt8} {l : List (Array UInt8)} (f : D → Bool) (hf : ∀ y ∈ (d :: l).map D.byt, Eqx C y (.byt c) (f y)) (hin : ((d :: l).map D.byt).any f = false)
    (gf : GFn C g "_find_lcas" qual (argsOf 3) (bodyOf 3) (scopeOf 3) (.ref T) cp3) (hc : CallN C n.up (.ref g) ["shallows"] [a, .byt c, .list ((d :: l).map D.byt), b] [u] r) :
    Hs C n.up (scOf 4 "find_merge_base.<locals>." cp) (bindsRho [] [(Str.ofString "lookup_parents", a), (Str.ofString "lookup_stamp", b), (Str.ofString "shallows", u), (Str.ofString "commit_ids", .list (.byt c :: (d :: l).map D.byt))]) (bodyOf 4) (RetQ r) := by
  refine Hs_cons (H1_ifF (Et_not (b := true) (Et_plain (Ev_name rfl) Truth_list)) (Hs_nil ?_))
  refine Hs_cons (H1_assign (Ev_sub_list (Ev_name rfl) Ev_int (by decide) rfl) (Asg_name) ?_)
  refine Hs_cons (H1_ifF (Et_not (b := true) (Et_cmp (Ev_bi rfl (El_cons (Ev_name rfl) El_nil) Call_len) Ev_int (by have := Op_gt (C := C) (n := n.up) (a := ((D.byt c :: (d :: l).map D.byt).length : Int)) (b := 1); rwa [decide_eq_true (by simp; lia)] at this))) (Hs_nil ?_))
  refine Hs_cons (H1_assign (Ev_ty rfl (El_cons (Ev_from (j := 1) (Ev_name rfl)) El_nil) Call_list) (Asg_name) ?_)
  refine Hs_cons (H1_ifF (Et_cmp (Ev_name rfl) (Ev_name rfl) (by have := Op_in (n := n.up) hf; rwa [hin] at this)) (Hs_nil ?_))
  refine Hs_cons (H1_assign (Ev_calln (name := "_find_lcas") (kn := [Str.ofString "shallows"]) (hkn := fun _ _ => rfl) (hall := fun _ _ => rfl) gf (El_cons (Ev_name rfl) (El_cons (Ev_name rfl) (El_cons (Ev_name rfl) (El_cons (Ev_name rfl) El_nil)))) (Kl_cons (Ev_name rfl) Kl_nil) hc) (Asg_name) ?_)
  refine Hs_cons (H1_return (Ev_name rfl) (.inl rfl))
end
end Mine
namespace Mine

noncomputable abbrev B8 := Array UInt8
noncomputable def hcStmt : Stmt := (bodyOf 3).getD 6 (.Pass ⟨0, 0, 0, 0⟩)
noncomputable def cstD (cst : List (B8 × Int)) : List (B8 × D) := cst.map fun kv => (kv.1, .int kv.2)
theorem cstD_lookup (k : B8) : ∀ cst : List (B8 × Int), (cstD cst).lookup k = (cst.lookup k).map .int
  | [] => rfl
  | (k', i) :: r => by
    show List.lookup k ((k', D.int i) :: cstD r) = _
    rw [List.lookup_cons, List.lookup_cons]
    split
    · rfl
    · exact cstD_lookup k r
noncomputable def hotB (cst : List (B8 × Int)) (it : Itm) : Bool := match cst.lookup it.2 with
  | some f => !decide (Builtin.bitAnd f 4 = 4)
  | none => false

section
variable {C : Cx} {n : Lv} {qual : Str} {fi fa fg fr : Addr}
theorem hc_call {qr : Str} (W : WLF C fi fa fg fr) (mr : MFn C fr 3 "rows" qr) (hG : ∀ γ, AllBare γ → C.G γ) (hn : n.h = false) {items : List Itm} {cst : List (B8 × Int)} :
    CallV C n.up.up (.fdef qual (defArgs hcStmt) (defBody hcStmt) (defScope hcStmt) [(Str.ofString "_DNC", .int 4)]) [.wl items, .dict (cstD cst)] (.bool (items.any (hotB cst))) := by
  refine CallV_fdef (names := [Str.ofString "wlst", Str.ofString "cstates"]) (fun {name cl doc pm ct c vs} hl => ?_) rfl (by rfl) (by rfl) (by rfl) (by rfl) (by rfl) ?_
  · refine ex2_1 (len2 hl) fun a b zq1 => ?_; subst zq1; exact rfl
  refine Hs_cons (H1_forrows (n := n) W mr hG (items := items) rfl hn (fun us => items.any (hotB cst) = us.any (hotB cst)) (fun γ hγ it rest hJ => ?_) (fun hJ => ?_) rfl)
  · refine ⟨_, Asg_pair Asg_name Asg_name, ?_⟩
    cases hl : cst.lookup it.2 with
    | none =>
      refine Hs_cons (H1_ifF (Et_cmp (Ev_name rfl) (Ev_name rfl) (by have := Op_indict (C := C.at γ hγ) (n := n.up) (kvs := cstD cst) (k := it.2); rwa [cstD_lookup, hl] at this)) (Hs_nil ?_))
      refine Hs_nil ⟨?_, Wk_weak ⟨rfl, rfl, rfl, trivial⟩ rfl⟩
      rw [hJ, List.any_cons]
      unfold hotB; rw [hl]; rfl
    | some f =>
      refine Hs_cons (H1_ifT (Et_cmp (Ev_name rfl) (Ev_name rfl) (by have := Op_indict (C := C.at γ hγ) (n := n.up) (kvs := cstD cst) (k := it.2); rwa [cstD_lookup, hl] at this)) ?_)
      refine Hs_cons (H1_if (b := !decide (Builtin.bitAnd f 4 = 4)) (Et_not (Et_cmp (Ev_bin (Ev_sub_dict (Ev_name rfl) (Ev_name rfl) (by rw [cstD_lookup, hl]; rfl)) (Ev_namee rfl) Op_band) (Ev_namee rfl) Op_ieq)) (fun hb => ?_) (fun hb => ?_))
      · refine Hs_cons (H1_return Ev_bool (.inl ?_))
        have : items.any (hotB cst) = true := by
          rw [hJ, List.any_cons]
          have : hotB cst it = true := by unfold hotB; rw [hl]; exact hb
          rw [this]; rfl
        rw [this]
      · refine Hs_nil (Hs_nil (Hs_nil ⟨?_, Wk_weak ⟨rfl, rfl, rfl, trivial⟩ rfl⟩))
        rw [hJ, List.any_cons]
        have : hotB cst it = false := by unfold hotB; rw [hl]; exact hb
        rw [this]; rfl
  · refine Hs_cons (H1_return Ev_bool (.inl ?_))
    rw [hJ]; rfl
end
end Mine
namespace Mine

section
variable {C : Cx} {n : Lv} {sc : Sc} {ρ ρ' : Rho}
theorem Op_isnot {d : D} (h : d ≠ .none) : Op2 C n (compareOp .IsNot) d .none (.bool true) := fun A X s v1 v2 S x r1 r2 => by
  cases r2.i_none
  refine isnot_none_ne (fun e => ?_) ⟨.refl S.ok, .bool _⟩
  exact h (r1.none_of e)

theorem Ev_sub_tup {v i pos l k d} (h1 : Ev C n sc ρ v (.tup l)) (h2 : Ev C n sc ρ i (.int k)) (h0 : 0 ≤ k) (hx : l[k.toNat]? = some d)
    (hs : ∀ o i', subscripted i false o i' = operate [o, i'] (getItem o i') := by intro _ _; rfl) : Ev C n sc ρ (.Subscript v i pos) d := fun A env X M s S e m =>
  Subscript_ (wp_false (h1 A env X M s S e m) fun o s1 zq1 => ex0_2 zq1 fun n1 r1 => wp_false (h2 A env X M s1 (S.next n1) e (m.nx n1 S.ok)) fun iv s2 zq2 => ex0_2 zq2 fun n2 r2 => by
    have r1 := r1.nx n2 n1.ok
    cases r2.i_int
    cases r1.i_tup with
    | @mk a vs _ xa ea za rl =>
      refine ex1_2 (RdL.get' rl hx) fun v hv rv => ?_
      have lt : k.toNat < vs.length := (List.getElem?_eq_some_iff.mp hv).1
      have hB : BIG = 1048576 := rfl
      refine wpAny_sub (T := "tuple") ⟨_, ea, rfl⟩ PyProof.Rows.slot_tuple_getitem.lookup (PyProof.Rows.getItem_tuple (items := vs.toArray) (j := k.toNat) (x := v) ⟨_, ea, rfl, _, rfl⟩ (by lia) (by lia) ?_ (by simpa using hv) ⟨n1.trans n2, rv⟩) (hs _ _)
      unfold seqIndex?
      rw [List.size_toArray]
      simp only [show ¬ k < 0 by lia, if_false]
      have h1 : (0 ≤ k) = True := by simp [h0]
      have h2 : k < (vs.length : Int) := by lia
      simp [h0, h2])
end
end Mine
set_option maxHeartbeats 1000000
namespace Mine

noncomputable def dputI (cst : List (B8 × Int)) (k : B8) (f : Int) : List (B8 × Int) :=
  if cst.any (fun kv => decide (kv.1 = k)) then cst.map (fun kv => if kv.1 = k then (kv.1, f) else kv) else cst ++ [(k, f)]
theorem cstD_dput (cst : List (B8 × Int)) (k : B8) (f : Int) : cstD (dputI cst k f) = dput (cstD cst) k (.int f) := by
  unfold dputI dput cstD
  have e : (cst.map fun kv => (kv.1, D.int kv.2)).any (fun kv => decide (kv.1 = k)) = cst.any fun kv => decide (kv.1 = k) := by rw [List.any_map]; rfl
  rw [e]
  split
  · rw [List.map_map, List.map_map]
    refine List.map_congr_left fun kv _ => ?_
    simp only [Function.comp]
    split <;> simp_all
  · rw [List.map_append]; rfl
theorem dputI_len (cst : List (B8 × Int)) (k : B8) (f : Int) : (dputI cst k f).length ≤ cst.length + 1 := by
  unfold dputI; split <;> simp
noncomputable def flg (cst : List (B8 × Int)) (k : B8) : Int := (cst.lookup k).getD 0
theorem cstD_get (cst : List (B8 × Int)) (k : B8) : ((cstD cst).lookup k).getD (.int 0) = .int (flg cst k) := by
  rw [cstD_lookup]; unfold flg; cases cst.lookup k <;> rfl
theorem cstD_some {cst : List (B8 × Int)} {k : B8} (h : (cst.lookup k).isSome = true) : (cstD cst).lookup k = some (.int (flg cst k)) := by
  rw [cstD_lookup]; unfold flg
  cases e : cst.lookup k with
  | none => rw [e] at h; cases h
  | some f => rfl

structure LS where
  cands : List Itm
  cst : List (B8 × Int)
  hp : List Itm
noncomputable def hot (S : LS) : Bool := S.hp.any (hotB S.cst)
noncomputable def hr (Tm : B8 → Option Int) (c : B8) : Int := (Tm c).getD 0
noncomputable def c2step (Tm : B8 → Option Int) (s : List (B8 × Int) × List Itm) (c : B8) : List (B8 × Int) × List Itm := (dputI s.1 c (Builtin.bitOr (flg s.1 c) 2), pushL s.2 (-(hr Tm c), c))
noncomputable def pstep (Tm : B8 → Option Int) (ms cf : Int) (s : List (B8 × Int) × List Itm) (p : B8) : List (B8 × Int) × List Itm :=
  if Builtin.bitAnd (flg s.1 p) cf = cf then s else match Tm p with
    | none => s
    | some t => if t < ms then s else (dputI s.1 p (Builtin.bitOr (flg s.1 p) cf), pushL s.2 (-t, p))
noncomputable def cf0 (S : LS) (it : Itm) : Int := Builtin.bitAnd (flg S.cst it.2) (Builtin.bitOr (Builtin.bitOr 1 2) 4)
noncomputable def hitS (S : LS) (it : Itm) : Bool := decide (cf0 S it = Builtin.bitOr 1 2)
noncomputable def cand1 (S : LS) (it : Itm) : List Itm × List (B8 × Int) :=
  if hitS S it = true then (if Builtin.bitAnd (flg S.cst it.2) 8 = 8 then (S.cands, S.cst) else (S.cands ++ [(-it.1, it.2)], dputI S.cst it.2 (Builtin.bitOr (flg S.cst it.2) 8))) else (S.cands, S.cst)
noncomputable def cf1 (S : LS) (it : Itm) : Int := if hitS S it = true then Builtin.bitOr (cf0 S it) 4 else cf0 S it
noncomputable def popS (Pt : B8 → Option (List B8)) (Tm : B8 → Option Int) (ms : Int) (S : LS) : LS := match S.hp with
  | [] => S
  | it :: l => let r := ((Pt it.2).getD []).foldl (pstep Tm ms (cf1 S it)) ((cand1 S it).2, popL (it :: l)); ⟨(cand1 S it).1, r.1, r.2⟩
noncomputable def keepR (cst : List (B8 × Int)) (res : List Itm) (x : Itm) : List Itm :=
  if !decide (Builtin.bitAnd (flg cst x.2) 4 = 4) && !res.any (fun y => decide (y.1 = x.1) && decide (y.2 = x.2)) then res ++ [x] else res
noncomputable def resF (S : LS) : List Itm := S.cands.foldl (keepR S.cst) []
noncomputable def ltT (x y : Itm) : Bool := decide (x.1 < y.1)
noncomputable def start (Tm : B8 → Option Int) (c1 : B8) (c2s : List B8) : LS :=
  let r := c2s.foldl (c2step Tm) (dputI [] c1 1, pushL [] (-(hr Tm c1), c1)); ⟨[], r.1, r.2⟩

structure Lks (C : Cx) (n : Lv) (fP fT : D) (Pt : B8 → Option (List B8)) (Tm : B8 → Option Int) : Prop where
  pf : fP.isFn = true
  tf : fT.isFn = true
  pOk : ∀ c l, Pt c = some l → CallV C n fP [.byt c] (.list (l.map .byt))
  pNo : ∀ c, Pt c = none → CallX C n fP [.byt c]
  tOk : ∀ c t, Tm c = some t → CallV C n fT [.byt c] (.int t)
  tNo : ∀ c, Tm c = none → CallX C n fT [.byt c]

structure LcOk (Pt : B8 → Option (List B8)) (Tm : B8 → Option Int) (ms : Int) (Dm : B8 → Prop) (Inv : LS → Prop) (μ : LS → Nat) (c1 : B8) (c2s : List B8) (rl : List B8) : Prop where
  init : Inv (start Tm c1 c2s)
  step : ∀ S, Inv S → hot S = true → Inv (popS Pt Tm ms S) ∧ μ (popS Pt Tm ms S) < μ S
  bound : ∀ S, Inv S → S.hp.length ≤ 1000 ∧ S.cst.length ≤ 1000 ∧ S.cands.length ≤ 1000
  keys : ∀ S, Inv S → (∀ it ∈ S.hp, (S.cst.lookup it.2).isSome = true ∧ Dm it.2) ∧ ∀ x ∈ S.cands, (S.cst.lookup x.2).isSome = true
  par : ∀ c l, Dm c → Pt c = some l → l.length ≤ 1000 ∧ ∀ p ∈ l, Dm p
  d1 : Dm c1
  d2 : ∀ c ∈ c2s, Dm c
  len2 : c2s.length ≤ 1000
  lenr : rl.length ≤ 1000
  fin : ∀ S, Inv S → hot S = false → Askd ltT (resF S) ∧ (resF S).length < 64 ∧ (srt ltT (resF S)).map (·.2) = rl

noncomputable def stO (k : Nat) : Stmt := (bodyOf 3).getD k (.Pass ⟨0, 0, 0, 0⟩)
noncomputable def wBody : Stmt → List Stmt
  | .While _ b _ _ => b
  | .For _ _ b _ _ => b
  | .If _ b _ _ => b
  | _ => []
noncomputable def wB : List Stmt := wBody (stO 11)

section
variable {C : Cx} {n : Lv} {cp : Option (Addr × Addr)} {fP fT fd : D} {Pt : B8 → Option (List B8)} {Tm : B8 → Option Int} {c1 : B8} {c2s : List B8} {ms : Int} {u : D} {fi fa fg fr : Addr}
noncomputable abbrev scL (cp : Option (Addr × Addr)) : Sc := scOf 3 "_find_lcas.<locals>." cp
noncomputable abbrev rho0 (fP fT : D) (c1 : B8) (c2s : List B8) (ms : Int) (u fd : D) : Rho :=
  [("_has_candidates", .val fd), ("_LCA", .val (.int 8)), ("_DNC", .frz (.int 4)), ("_ANC_OF_2", .val (.int 2)), ("_ANC_OF_1", .val (.int 1)), ("shallows", .val u), ("min_stamp", .val (.int ms)), ("lookup_stamp", .val fT), ("c2s", .val (.list (c2s.map .byt))), ("c1", .val (.byt c1)), ("lookup_parents", .val fP)]
noncomputable abbrev rhoL (fP fT : D) (c1 : B8) (c2s : List B8) (ms : Int) (u fd : D) (S : LS) : Rho :=
  ("cands", .lst (S.cands.map itD)) :: ("cstates", .dct (cstD S.cst)) :: ("wlst", .wl S.hp) :: rho0 fP fT c1 c2s ms u fd

theorem shal_test {ρ : Rho} {h : Bool} {k : Nat} {sc : Sc} {p1 p2 p3 p4 p5 p6 : Pos} {j : Nat} (hu : u = .set 1) (hρ : ρ.get (Str.ofString "shallows") = .val u) : Et C ⟨k, h⟩ sc ρ (.BoolOp .Or [.Compare (.Name "shallows" p1) [.Is] [.Constant .none j p2] p3, .UnaryOp .Not (.Name "shallows" p4) p5] p6) false := by
  subst hu
  exact Et_bool (Ea_or (b := false) (Et_cmp (Ev_name hρ) Ev_none (Op_isnone (by simp))) fun _ => Ea_or (b := false) (Et_not (b := true) (Et_plain (Ev_name hρ) Truth_set)) fun _ => Ea_or_nil)
end
end Mine
namespace Mine

section
variable {C : Cx} {n : Lv} {cp : Option (Addr × Addr)} {fP fT fd : D} {Pt : B8 → Option (List B8)} {Tm : B8 → Option Int} {c1 : B8} {c2s : List B8} {ms : Int} {u : D} {fi fa fg fr : Addr}

theorem try_add {sc : Sc} {ρ : Rho} {y : Str} {c : B8} {l : List Itm} {Q : Fl → Rho → Prop} {p2 p3 p4 p5 p6 p7 p8 p9 p10 p11 p12 p13 p14 p15 p16 p17 p18 p19 p20 p21 p22 p23 p24 p25 p26 p27 p28 : Pos} {k1 k2 k3 k4 : Nat}
    (W : WLF C fi fa fg fr) (ca : CallAdd C ⟨n.k, false⟩ fa) (ca' : CallAdd C ⟨n.k, true⟩ fa) (L : Lks C ⟨n.k, false⟩ fP fT Pt Tm) (hw : ρ.get (Str.ofString "wlst") = .wl l) (ht : ρ.get (Str.ofString "lookup_stamp") = .val fT) (hy : ρ.get y = .val (.byt c)) (hs : ρ.get (Str.ofString "shallows") = .val u) (hu : Tm c = none → u = .set 1)
    (z : l.length + 1 ≤ BIG) (q : Q .next ((Str.ofString "wlst", .wl (pushL l (-(hr Tm c), c))) :: ρ)) (hk : sc.scope.names.lookup ("KeyError" : Str) = some .globalImplicit) (hd : (y == ("__debug__" : Str)) = false) (hn : (y == ("__classdict__" : Str)) = false) 
    (h1 : ∀ env, eval (.Call (.Attribute (.Name "wlst" p2) "add" p3) [.Tuple [.Call (.Name "lookup_stamp" p4) [.Name y p5] [] p6, .Name y p7] k1 p8] [] p9) env = (do
      let ov ← eval (.Name "wlst" p2) env
      standAt p3.atName
      let fx ← holding [ov] (getMethod ov "add" (plOf (.Name "wlst" p2) env))
      callWith p9 fx.1 fx.2 (backTo p9 (starEach [.Tuple [.Call (.Name "lookup_stamp" p4) [.Name y p5] [] p6, .Name y p7] k1 p8] env)) (backToKw p9 (keywordEach [] env))))
    (h2 : ∀ env, eval (.Call (.Attribute (.Name "wlst" p19) "add" p18) [.Tuple [.Constant (.int 0) k3 p20, .Name y p21] k4 p22] [] p23) env = (do
      let ov ← eval (.Name "wlst" p19) env
      standAt p18.atName
      let fx ← holding [ov] (getMethod ov "add" (plOf (.Name "wlst" p19) env))
      callWith p23 fx.1 fx.2 (backTo p23 (starEach [.Tuple [.Constant (.int 0) k3 p20, .Name y p21] k4 p22] env)) (backToKw p23 (keywordEach [] env)))) :
    H1 C ⟨n.k, false⟩ sc ρ (.Try [.Expr (.Call (.Attribute (.Name "wlst" p2) "add" p3) [.Tuple [.Call (.Name "lookup_stamp" p4) [.Name y p5] [] p6, .Name y p7] k1 p8] [] p9) p10]
      [.ExceptHandler (some (.Name "KeyError" p11)) none [.If (.BoolOp .Or [.Compare (.Name "shallows" p12) [.Is] [.Constant .none k2 p13] p14, .UnaryOp .Not (.Name "shallows" p15) p16] p26) [.Raise none none p27] [] p17,
        .Expr (.Call (.Attribute (.Name "wlst" p19) "add" p18) [.Tuple [.Constant (.int 0) k3 p20, .Name y p21] k4 p22] [] p23) p24] p25] [] [] p28) Q := by
  cases e : Tm c with
  | some t =>
    have : hr Tm c = t := by unfold hr; rw [e]; rfl
    rw [this] at q
    exact H1_try_ok (Hs_cons (H1_wladd W ca hw (Ev_tuple (El_cons (Ev_callv (Ev_name ht) L.tf (El_cons (Ev_name hy hd hn) El_nil) (L.tOk c t e)) (El_cons (Ev_name hy hd hn) El_nil))) z (Hs_nil q) h1))
  | none =>
    have : hr Tm c = 0 := by unfold hr; rw [e]; rfl
    rw [this] at q
    refine H1_try_exc (HsX_wladd W ca.fn hw (EvX_tuple (ElX_head (EvX_callv (Ev_name ht) L.tf (El_cons (Ev_name hy hd hn) El_nil) (L.tNo c e)))) h1) ?_ hk
    refine Hs_cons (H1_ifF (shal_test (hu e) hs) (Hs_nil ?_))
    exact Hs_cons (H1_wladd W ca' hw (Ev_tuple (El_cons Ev_int (El_cons (Ev_name hy hd hn) El_nil))) z (Hs_nil q) h2)

theorem lcas_start {c P : Addr} {Dm : B8 → Prop} {Q : Fl → Rho → Prop} (hcp : cp = some (c, P)) (hq : C.tq P 30 = Str.ofString "_find_lcas.<locals>." ++ Str.ofString "_has_candidates") (W : WLF C fi fa fg fr) (mk : CallMk C ⟨n.k, false⟩) (hg : C.mg "WorkList" = some (.ref C.wlC)) (ca : CallAdd C ⟨n.k, false⟩ fa) (ca' : CallAdd C ⟨n.k, true⟩ fa) (L : Lks C ⟨n.k, false⟩ fP fT Pt Tm)
    (hn : n.h = false) (hu : ∀ c, Dm c → (Pt c = none ∨ Tm c = none) → u = .set 1) (d1 : Dm c1) (d2 : ∀ c ∈ c2s, Dm c) (len2 : c2s.length ≤ 1000)
    (rest : Hs C ⟨n.k, false⟩ (scL cp) (rhoL fP fT c1 c2s ms u (.fdef (Str.ofString "_find_lcas.<locals>." ++ Str.ofString "_has_candidates") (defArgs hcStmt) (defBody hcStmt) (defScope hcStmt) [(Str.ofString "_DNC", .int 4)]) (start Tm c1 c2s)) ((bodyOf 3).drop 11) Q) :
    Hs C ⟨n.k, false⟩ (scL cp) (bindsRho [] [(Str.ofString "lookup_parents", fP), (Str.ofString "c1", .byt c1), (Str.ofString "c2s", .list (c2s.map .byt)), (Str.ofString "lookup_stamp", fT), (Str.ofString "min_stamp", .int ms), (Str.ofString "shallows", u)]) (bodyOf 3) Q := by
  refine Hs_cons (H1_newlist El_nil ?_)
  refine Hs_cons (H1_newdict ?_)
  refine Hs_cons (H1_assign Ev_int Asg_name ?_)
  refine Hs_cons (H1_assign Ev_int Asg_name ?_)
  refine Hs_cons (H1_assign Ev_int Asg_name ?_)
  refine Hs_cons (H1_assign Ev_int Asg_name ?_)
  refine Ht.under (Sub_frz (Str.ofString "_DNC") rfl rfl) ?_
  refine Hs_cons (H1_def hcp hq (by rfl) ?_)
  refine Hs_cons (H1_mkwl mk hg ?_)
  refine Hs_cons (H1_setitem (k := c1) rfl (Ev_name rfl) (Ev_name rfl) (by decide) ?_)
  refine Hs_cons (try_add W ca ca' L rfl rfl rfl rfl (fun e => hu c1 d1 (.inr e)) (by decide) ?_ rfl (by decide) (by decide) (fun _ => rfl) (fun _ => rfl))
  refine Hs_cons (H1_form (σ := List (B8 × Int) × List Itm) (g := .byt) (l := c2s) (fun l s => (∀ c ∈ l, Dm c) ∧ l.foldl (c2step Tm) s = c2s.foldl (c2step Tm) (dputI [] c1 1, pushL [] (-(hr Tm c1), c1)) ∧ s.1.length + l.length ≤ 1001 ∧ s.2.length + l.length ≤ 1001)
    (fun s => ("cands", .lst []) :: ("cstates", .dct (cstD s.1)) :: ("wlst", .wl s.2) :: rho0 fP fT c1 c2s ms u _) (Eit_list (Ev_name rfl) (fun _ => letGo_name)) (fun e l s hI => ?_) (fun s hI => ?_) rfl (dputI [] c1 1, pushL [] (-(hr Tm c1), c1)) ⟨d2, rfl, by
      have h1 := dputI_len [] c1 1
      have h2 := (pushL_perm [] (-(hr Tm c1), c1)).length_eq
      simp at h1 h2 ⊢; lia⟩ (Sub_weak ⟨rfl, rfl, rfl, rfl, rfl, rfl, rfl, rfl, rfl, rfl, rfl, rfl, rfl, rfl, trivial⟩ rfl))
  · refine ex0_4 hI fun hD hf z1 z2 => ?_; try clear hI
    have hB : BIG = 1048576 := rfl
    have zc : (cstD s.1).length = s.1.length := by simp [cstD]
    simp only [List.length_cons] at z1 z2
    refine ⟨_, Asg_name, ?_⟩
    refine Hs_cons (H1_assign (Ev.under (Sub_dct (Str.ofString "cstates") rfl) (Ev_dget (Ev_name rfl) (Ev_name rfl) Ev_int (cstD_get _ _)) rfl) Asg_name ?_)
    refine Hs_cons (H1_setitem (k := e) rfl (Ev_bin (Ev_name rfl) (Ev_name rfl) Op_bor) (Ev_name rfl) (by lia) ?_)
    refine Hs_cons (try_add W ca ca' L rfl rfl rfl rfl (fun q => hu e (hD e (.head _)) (.inr q)) (by lia) ?_ rfl (by decide) (by decide) (fun _ => rfl) (fun _ => rfl))
    refine Hs_nil ⟨c2step Tm s e, ⟨fun c hc => hD c (.tail _ hc), hf, ?_, ?_⟩, Sub_weak ⟨rfl, congrArg Slot.dct (cstD_dput _ _ _).symm, rfl, rfl, rfl, rfl, rfl, rfl, rfl, rfl, rfl, rfl, rfl, rfl, trivial⟩ rfl⟩
    · have := dputI_len s.1 e (Builtin.bitOr (flg s.1 e) 2)
      show (dputI s.1 e _).length + l.length ≤ 1001
      lia
    · have := (pushL_perm s.2 (-(hr Tm e), e)).length_eq
      show (pushL s.2 (-(hr Tm e), e)).length + l.length ≤ 1001
      simp at this; lia
  · refine ex0_4 hI fun hD hf z1 z2 => ?_; try clear hI
    have : start Tm c1 c2s = ⟨[], s.1, s.2⟩ := by
      unfold start; rw [← hf]; rfl
    rw [this] at rest
    exact rest
end
end Mine
namespace Mine

section
variable {C : Cx} {n : Lv} {cp : Option (Addr × Addr)} {fP fT fd : D} {Pt : B8 → Option (List B8)} {Tm : B8 → Option Int} {c1 : B8} {c2s : List B8} {ms : Int} {u : D} {fi fa fg fr : Addr} {Dm : B8 → Prop}

theorem cont_test {ρ : Rho} {m : Lv} {sc : Sc} {p1 p2 p3 p4 p6 : Pos} {j : Nat} (hu : u = .set 1) (hρ : ρ.get (Str.ofString "shallows") = .val u) : Et C m sc ρ (.BoolOp .And [.Compare (.Name "shallows" p1) [.IsNot] [.Constant .none j p2] p3, .Name "shallows" p4] p6) true := by
  subst hu
  exact Et_bool (Ea_and (b := true) (Et_cmp (Ev_name hρ) Ev_none (Op_isnot (by simp))) fun _ => Ea_and (b := true) (Et_plain (Ev_name hρ) Truth_set) fun _ => Ea_and_nil)

theorem pstep_len (Tm : B8 → Option Int) (ms cf : Int) (s : List (B8 × Int) × List Itm) (p : B8) : (pstep Tm ms cf s p).1.length ≤ s.1.length + 1 ∧ (pstep Tm ms cf s p).2.length ≤ s.2.length + 1 := by
  unfold pstep
  split
  · exact ⟨by lia, by lia⟩
  · split
    · exact ⟨by lia, by lia⟩
    · split
      · exact ⟨by lia, by lia⟩
      · have h1 := dputI_len s.1 p (Builtin.bitOr (flg s.1 p) cf)
        rename_i t _ _
        have h2 := (pushL_perm s.2 (-t, p)).length_eq
        simp at h2
        exact ⟨h1, by dsimp only; lia⟩

theorem par_if {cands : List Itm} {cst : List (B8 × Int)} {hp : List Itm} {ps : List B8} {cf : Int} (W : WLF C fi fa fg fr) (ca : CallAdd C ⟨n.k, false⟩ fa) (L : Lks C ⟨n.k, false⟩ fP fT Pt Tm) (hu : ∀ c, Dm c → (Pt c = none ∨ Tm c = none) → u = .set 1) (hD : ∀ c ∈ ps, Dm c)
    (z1 : cst.length + ps.length ≤ 5000) (z2 : hp.length + ps.length ≤ 5000) :
    Hs C ⟨n.k, false⟩ (scL cp) (("parents", .val (.list (ps.map .byt))) :: ("cflags", .val (.int cf)) :: rhoL fP fT c1 c2s ms u fd ⟨cands, cst, hp⟩) (wB.drop 6)
      (fun fl ρ' => fl = .next ∧ Sub C (scL cp) ρ' (rhoL fP fT c1 c2s ms u fd ⟨cands, (ps.foldl (pstep Tm ms cf) (cst, hp)).1, (ps.foldl (pstep Tm ms cf) (cst, hp)).2⟩)) := by
  refine Hs_cons (H1_if (Et_plain (Ev_name rfl) Truth_list) (fun _ => ?_) (fun hb => ?_))
  · refine Hs_cons (H1_form (σ := List (B8 × Int) × List Itm) (g := .byt) (l := ps) (fun l s => (∀ c ∈ l, Dm c) ∧ l.foldl (pstep Tm ms cf) s = ps.foldl (pstep Tm ms cf) (cst, hp) ∧ s.1.length + l.length ≤ 5000 ∧ s.2.length + l.length ≤ 5000)
      (fun s => ("parents", .val (.list (ps.map .byt))) :: ("cflags", .val (.int cf)) :: rhoL fP fT c1 c2s ms u fd ⟨cands, s.1, s.2⟩) (Eit_list (Ev_name rfl) (fun _ => letGo_name)) (fun e l s hI => ?_) (fun s hI => ?_) rfl (cst, hp) ⟨hD, rfl, z1, z2⟩ Sub.refl)
    · refine ex0_4 hI fun hD hf z1 z2 => ?_; try clear hI
      have hB : BIG = 1048576 := rfl
      have zc : (cstD s.1).length = s.1.length := by simp [cstD]
      simp only [List.length_cons] at z1 z2
      have hD' : ∀ c ∈ l, Dm c := fun c hc => hD c (.tail _ hc)
      refine ⟨_, Asg_name, ?_⟩
      refine Hs_cons (H1_assign (Ev.under (Sub_dct (Str.ofString "cstates") rfl) (Ev_dget (Ev_name rfl) (Ev_name rfl) Ev_int (cstD_get _ _)) rfl) Asg_name ?_)
      refine Hs_cons (H1_if (Et_cmp (Ev_bin (Ev_name rfl) (Ev_name rfl) Op_band) (Ev_name rfl) Op_ieq) (fun hb => ?_) (fun hb => Hs_nil ?_))
      · have hb := of_decide_eq_true hb
        have e0 : pstep Tm ms cf s e = s := by unfold pstep; rw [if_pos hb]
        rw [List.foldl_cons, e0] at hf
        exact Hs_cons (H1_continue ⟨s, ⟨hD', hf, by lia, by lia⟩, Sub_weak ⟨rfl, rfl, rfl, rfl, rfl, rfl, rfl, rfl, rfl, rfl, rfl, rfl, rfl, rfl, rfl, rfl, trivial⟩ rfl⟩)
      · have hb := of_decide_eq_false hb
        cases ht : Tm e with
        | none =>
          have e0 : pstep Tm ms cf s e = s := by unfold pstep; rw [if_neg hb, ht]
          rw [List.foldl_cons, e0] at hf
          refine Hs_cons (H1_try_exc (HsX_assign (EvX_callv (Ev_name rfl) L.tf (El_cons (Ev_name rfl) El_nil) (L.tNo e ht))) ?_)
          refine Hs_cons (H1_ifT (cont_test (hu e (hD e (.head _)) (.inr ht)) rfl) (Hs_cons (H1_continue ⟨s, ⟨hD', hf, by lia, by lia⟩, Sub_weak ⟨rfl, rfl, rfl, rfl, rfl, rfl, rfl, rfl, rfl, rfl, rfl, rfl, rfl, rfl, rfl, rfl, trivial⟩ rfl⟩)))
        | some t =>
          refine Hs_cons (H1_try_ok (Hs_cons (H1_assign (Ev_callv (Ev_name rfl) L.tf (El_cons (Ev_name rfl) El_nil) (L.tOk e t ht)) Asg_name (Hs_nil ?_))))
          refine Hs_cons (H1_if (Et_cmp (Ev_name rfl) (Ev_name rfl) Op_lt) (fun hb2 => ?_) (fun hb2 => Hs_nil ?_))
          · have hb2 := of_decide_eq_true hb2
            have e0 : pstep Tm ms cf s e = s := by unfold pstep; rw [if_neg hb, ht]; simp [hb2]
            rw [List.foldl_cons, e0] at hf
            exact Hs_cons (H1_continue ⟨s, ⟨hD', hf, by lia, by lia⟩, Sub_weak ⟨rfl, rfl, rfl, rfl, rfl, rfl, rfl, rfl, rfl, rfl, rfl, rfl, rfl, rfl, rfl, rfl, trivial⟩ rfl⟩)
          · have hb2 := of_decide_eq_false hb2
            have e0 : pstep Tm ms cf s e = (dputI s.1 e (Builtin.bitOr (flg s.1 e) cf), pushL s.2 (-t, e)) := by unfold pstep; rw [if_neg hb, ht]; simp [hb2]
            have hl := pstep_len Tm ms cf s e
            rw [e0] at hl
            rw [List.foldl_cons, e0] at hf
            refine Hs_cons (H1_setitem (k := e) rfl (Ev_bin (Ev_name rfl) (Ev_name rfl) Op_bor) (Ev_name rfl) (by show (cstD s.1).length + 1 ≤ BIG; lia) ?_)
            refine Hs_cons (H1_wladd W ca rfl (Ev_tuple (El_cons (Ev_name rfl) (El_cons (Ev_name rfl) El_nil))) (by show s.2.length + 1 ≤ BIG; lia) ?_)
            refine Hs_nil ⟨(dputI s.1 e (Builtin.bitOr (flg s.1 e) cf), pushL s.2 (-t, e)), ⟨hD', hf, by dsimp only at hl ⊢; lia, by dsimp only at hl ⊢; lia⟩, Sub_weak ⟨rfl, rfl, rfl, congrArg Slot.dct (cstD_dput _ _ _).symm, rfl, rfl, rfl, rfl, rfl, rfl, rfl, rfl, rfl, rfl, rfl, rfl, trivial⟩ rfl⟩
    · refine ex0_4 hI fun hD hf z1 z2 => ?_; try clear hI
      rw [← hf]
      exact Hs_nil (Hs_nil ⟨rfl, Sub_weak ⟨rfl, rfl, rfl, rfl, rfl, rfl, rfl, rfl, rfl, rfl, rfl, rfl, rfl, rfl, trivial⟩ rfl⟩)
  · cases ps with
    | cons e l => cases hb
    | nil => exact Hs_nil (Hs_nil ⟨rfl, Sub_weak ⟨rfl, rfl, rfl, rfl, rfl, rfl, rfl, rfl, rfl, rfl, rfl, rfl, rfl, rfl, trivial⟩ rfl⟩)

theorem par_try {cands : List Itm} {cst : List (B8 × Int)} {hp : List Itm} {c : B8} {cf : Int} (W : WLF C fi fa fg fr) (ca : CallAdd C ⟨n.k, false⟩ fa) (L : Lks C ⟨n.k, false⟩ fP fT Pt Tm) (hu : ∀ c, Dm c → (Pt c = none ∨ Tm c = none) → u = .set 1) (hc : Dm c) (hD : ∀ l, Pt c = some l → l.length ≤ 1000 ∧ ∀ p ∈ l, Dm p)
    (z1 : cst.length ≤ 3000) (z2 : hp.length ≤ 3000) :
    Hs C ⟨n.k, false⟩ (scL cp) (("cmt", .val (.byt c)) :: ("cflags", .val (.int cf)) :: rhoL fP fT c1 c2s ms u fd ⟨cands, cst, hp⟩) (wB.drop 5)
      (fun fl ρ' => (fl = .next ∨ fl = .cont) ∧ Sub C (scL cp) ρ' (rhoL fP fT c1 c2s ms u fd ⟨cands, (((Pt c).getD []).foldl (pstep Tm ms cf) (cst, hp)).1, (((Pt c).getD []).foldl (pstep Tm ms cf) (cst, hp)).2⟩)) := by
  cases ht : Pt c with
  | none =>
    refine Hs_cons (H1_try_exc (HsX_assign (EvX_callv (Ev_name rfl) L.pf (El_cons (Ev_name rfl) El_nil) (L.pNo c ht))) ?_)
    refine Hs_cons (H1_ifT (cont_test (hu c hc (.inl ht)) rfl) (Hs_cons (H1_continue ⟨.inr rfl, Sub_weak ⟨rfl, rfl, rfl, rfl, rfl, rfl, rfl, rfl, rfl, rfl, rfl, rfl, rfl, rfl, trivial⟩ rfl⟩)))
  | some ps =>
    refine ex0_2 (hD ps ht) fun h1 h2 => ?_
    refine Hs_cons (H1_try_ok (Hs_cons (H1_assign (Ev_callv (Ev_name rfl) L.pf (El_cons (Ev_name rfl) El_nil) (L.pOk c ps ht)) Asg_name (Hs_nil ?_))))
    refine Ht.under (ρ' := ("parents", .val (.list (ps.map .byt))) :: ("cflags", .val (.int cf)) :: rhoL fP fT c1 c2s ms u fd ⟨cands, cst, hp⟩) (Sub_weak ⟨rfl, rfl, rfl, rfl, rfl, rfl, rfl, rfl, rfl, rfl, rfl, rfl, rfl, rfl, rfl, rfl, trivial⟩ rfl) (Ht.mono (par_if (cf := cf) (cands := cands) (cst := cst) (hp := hp) W ca L hu h2 (by lia) (by lia)) fun fl ρ' q => ⟨.inl q.1, q.2⟩)
end
end Mine
namespace Mine

section
variable {C : Cx} {n : Lv} {cp : Option (Addr × Addr)} {fP fT fd : D} {Pt : B8 → Option (List B8)} {Tm : B8 → Option Int} {c1 : B8} {c2s rl : List B8} {ms : Int} {u : D} {fi fa fg fr : Addr} {Dm : B8 → Prop} {Inv : LS → Prop} {μ : LS → Nat}

theorem lcas_while {Q : Fl → Rho → Prop} (W : WLF C fi fa fg fr) (ca : CallAdd C ⟨n.k, false⟩ fa) (cg : CallGet C ⟨n.k, false⟩ fg) (L : Lks C ⟨n.k, false⟩ fP fT Pt Tm) (hu : ∀ c, Dm c → (Pt c = none ∨ Tm c = none) → u = .set 1) (LO : LcOk Pt Tm ms Dm Inv μ c1 c2s rl)
    (hfd : fd.isFn = true) (hhc : ∀ items cst, CallV C ⟨n.k, false⟩ fd [.wl items, .dict (cstD cst)] (.bool (items.any (hotB cst)))) (rest : ∀ S, Inv S → hot S = false → Hs C ⟨n.k, false⟩ (scL cp) (rhoL fP fT c1 c2s ms u fd S) ((bodyOf 3).drop 12) Q) :
    Hs C ⟨n.k, false⟩ (scL cp) (rhoL fP fT c1 c2s ms u fd (start Tm c1 c2s)) ((bodyOf 3).drop 11) Q := by
  refine Hs_cons (H1_while (σ := LS) Inv (rhoL fP fT c1 c2s ms u fd) μ (fun S hI => ⟨hot S, ?_, fun hb => ?_, fun hb => rest S hI hb⟩) (start Tm c1 c2s) LO.init Sub.refl)
  · refine Et.under ((Sub_wl (Str.ofString "wlst") rfl).trans (Sub_dct (Str.ofString "cstates") rfl)) (Et_plain (Ev_callv (Ev_name rfl) hfd (El_cons (Ev_name rfl) (El_cons (Ev_name rfl) El_nil)) (hhc S.hp S.cst)) Truth_bool)
  · obtain ⟨cands, cst, hp⟩ := S
    cases hp with
    | nil => cases hb
    | cons it l =>
    refine ex0_3 (LO.bound _ hI) fun b1 b2 b3 => ?_
    refine ex0_2 (LO.keys _ hI) fun k1 _ => ?_
    refine ex0_2 (k1 it (.head _)) fun hk hD => ?_
    refine ex0_2 (LO.step _ hI hb) fun st1 st2 => ?_
    have hB : BIG = 1048576 := rfl
    dsimp only at b1 b2 b3 hk
    have zc : (cstD cst).length = cst.length := by simp [cstD]
    have pz : (popL (it :: l)).length = l.length := popL_perm.length_eq
    simp only [List.length_cons] at b1
    have fin : ∀ (cands' : List Itm) (cst' : List (B8 × Int)) (cf : Int), popS Pt Tm ms ⟨cands, cst, it :: l⟩ = ⟨cands', (((Pt it.2).getD []).foldl (pstep Tm ms cf) (cst', popL (it :: l))).1, (((Pt it.2).getD []).foldl (pstep Tm ms cf) (cst', popL (it :: l))).2⟩ → cst'.length ≤ 3000 →
        Hs C ⟨n.k, false⟩ (scL cp) (("cmt", .val (.byt it.2)) :: ("cflags", .val (.int cf)) :: rhoL fP fT c1 c2s ms u fd ⟨cands', cst', popL (it :: l)⟩) (wB.drop 5) (LoopQ C (scL cp) (rhoL fP fT c1 c2s ms u fd) (fun j => Inv j ∧ μ j < μ ⟨cands, cst, it :: l⟩) (fun fl ρ' => match fl with | .next => Hs C ⟨n.k, false⟩ (scL cp) ρ' ((bodyOf 3).drop 12) Q | fl => Q fl ρ')) := fun cands' cst' cf e z => by
      refine Ht.mono (par_try (cf := cf) (cands := cands') W ca L hu hD (fun l h => LO.par it.2 l hD h) z (by lia)) fun fl ρ' q => ?_
      refine ex0_2 q fun q1 q2 => ?_; try clear q
      rw [← e] at q2
      rcases q1 with rfl | rfl
      · exact ⟨_, ⟨st1, st2⟩, q2⟩
      · exact ⟨_, ⟨st1, st2⟩, q2⟩
    refine Hs_cons (H1_wlget W cg rfl ?_)
    refine Hs_cons (H1_ifF (Et_cmp (Ev_name rfl) Ev_none (Op_isnone (by simp))) (Hs_nil ?_))
    refine Hs_cons (H1_assign (Ev_name rfl) (Asg_pair Asg_name Asg_name) ?_)
    refine Hs_cons (H1_assign (Ev.under (Sub_dct (Str.ofString "cstates") rfl) (Ev_bin (Ev_sub_dict (Ev_name rfl) (Ev_name rfl) (cstD_some hk)) (Ev_bin (Ev_bin (Ev_name rfl) (Ev_name rfl) Op_bor) (Ev_namef rfl) Op_bor) Op_band) rfl) Asg_name ?_)
    refine Hs_cons (H1_if (b := hitS ⟨cands, cst, it :: l⟩ it) (Et_cmp (Ev_name rfl) (Ev_bin (Ev_name rfl) (Ev_name rfl) Op_bor) Op_ieq) (fun hh => ?_) (fun hh => Hs_nil ?_))
    · refine Hs_cons (H1_if (b := !decide (Builtin.bitAnd (flg cst it.2) 8 = 8)) (Et.under (Sub_dct (Str.ofString "cstates") rfl) (Et_not (Et_cmp (Ev_bin (Ev_sub_dict (Ev_name rfl) (Ev_name rfl) (cstD_some hk)) (Ev_name rfl) Op_band) (Ev_name rfl) Op_ieq))) (fun h8 => ?_) (fun h8 => Hs_nil ?_))
      · have h8' : ¬ Builtin.bitAnd (flg cst it.2) 8 = 8 := by simpa using h8
        refine Hs_cons (H1_setitem (k := it.2) rfl (Ev.under (Sub_dct (Str.ofString "cstates") rfl) (Ev_bin (Ev_sub_dict (Ev_name rfl) (Ev_name rfl) (cstD_some hk)) (Ev_name rfl) Op_bor) rfl) (Ev_name rfl) (by show (cstD cst).length + 1 ≤ BIG; lia) ?_)
        refine Hs_cons (H1_append rfl (Ev_tuple (El_cons (Ev_name rfl) (El_cons (Ev_name rfl) El_nil))) (by show (cands.map itD).length + 1 ≤ BIG; rw [List.length_map]; lia) (Hs_nil ?_))
        refine Hs_cons (H1_assign (Ev_bin (Ev_name rfl) (Ev_namef rfl) Op_bor) Asg_name (Hs_nil ?_))
        refine Ht.under (ρ' := ("cmt", .val (.byt it.2)) :: ("cflags", .val (.int (Builtin.bitOr (cf0 ⟨cands, cst, it :: l⟩ it) 4))) :: rhoL fP fT c1 c2s ms u fd ⟨cands ++ [(-it.1, it.2)], dputI cst it.2 (Builtin.bitOr (flg cst it.2) 8), popL (it :: l)⟩) (Sub_weak ⟨rfl, rfl, congrArg Slot.lst (by simp [itD]), congrArg Slot.dct (cstD_dput _ _ _).symm, rfl, rfl, rfl, rfl, rfl, rfl, rfl, rfl, rfl, rfl, rfl, rfl, trivial⟩ rfl) (fin _ _ _ ?_ ?_)
        · unfold popS
          dsimp only
          have e1 : cf1 ⟨cands, cst, it :: l⟩ it = Builtin.bitOr (cf0 ⟨cands, cst, it :: l⟩ it) 4 := by unfold cf1; rw [if_pos hh]
          have e2 : cand1 ⟨cands, cst, it :: l⟩ it = (cands ++ [(-it.1, it.2)], dputI cst it.2 (Builtin.bitOr (flg cst it.2) 8)) := by unfold cand1; rw [if_pos hh]; dsimp only; rw [if_neg h8']
          rw [e1, e2]
        · have := dputI_len cst it.2 (Builtin.bitOr (flg cst it.2) 8); lia
      · have h8' : Builtin.bitAnd (flg cst it.2) 8 = 8 := by simpa using h8
        refine Hs_cons (H1_assign (Ev_bin (Ev_name rfl) (Ev_namef rfl) Op_bor) Asg_name (Hs_nil ?_))
        refine Ht.under (ρ' := ("cmt", .val (.byt it.2)) :: ("cflags", .val (.int (Builtin.bitOr (cf0 ⟨cands, cst, it :: l⟩ it) 4))) :: rhoL fP fT c1 c2s ms u fd ⟨cands, cst, popL (it :: l)⟩) (Sub_weak ⟨rfl, rfl, rfl, rfl, rfl, rfl, rfl, rfl, rfl, rfl, rfl, rfl, rfl, rfl, rfl, rfl, trivial⟩ rfl) (fin _ _ _ ?_ (by lia))
        unfold popS
        dsimp only
        have e1 : cf1 ⟨cands, cst, it :: l⟩ it = Builtin.bitOr (cf0 ⟨cands, cst, it :: l⟩ it) 4 := by unfold cf1; rw [if_pos hh]
        have e2 : cand1 ⟨cands, cst, it :: l⟩ it = (cands, cst) := by unfold cand1; rw [if_pos hh]; dsimp only; rw [if_pos h8']
        rw [e1, e2]
    · refine Ht.under (ρ' := ("cmt", .val (.byt it.2)) :: ("cflags", .val (.int (cf0 ⟨cands, cst, it :: l⟩ it))) :: rhoL fP fT c1 c2s ms u fd ⟨cands, cst, popL (it :: l)⟩) (Sub_weak ⟨rfl, rfl, rfl, rfl, rfl, rfl, rfl, rfl, rfl, rfl, rfl, rfl, rfl, rfl, rfl, rfl, trivial⟩ rfl) (fin _ _ _ ?_ (by lia))
      have hh' : ¬ hitS ⟨cands, cst, it :: l⟩ it = true := by rw [hh]; simp
      unfold popS
      dsimp only
      have e1 : cf1 ⟨cands, cst, it :: l⟩ it = cf0 ⟨cands, cst, it :: l⟩ it := by unfold cf1; rw [if_neg hh']
      have e2 : cand1 ⟨cands, cst, it :: l⟩ it = (cands, cst) := by unfold cand1; rw [if_neg hh']
      rw [e1, e2]
end
end Mine
namespace Mine

noncomputable def inF (x : Itm) : D → Bool
  | .tup [.int i, .byt b] => decide (i = x.1) && decide (b = x.2)
  | _ => false
theorem inF_any (x : Itm) (res : List Itm) : (res.map itD).any (inF x) = res.any (fun y => decide (y.1 = x.1) && decide (y.2 = x.2)) := by rw [List.any_map]; rfl

theorem keepR_len (cst : List (B8 × Int)) (res : List Itm) (x : Itm) : (keepR cst res x).length ≤ res.length + 1 := by
  unfold keepR; split <;> simp

theorem swaps_true {env : Env} {x : Str} {p : Pos} {line : Nat} {elt : Expr} {gens : List Comprehension} {scope : Scope} {pos : Pos} (h1 : env.scope.kind = .function) (h2 : env.kindOf x = some .local)
    (h3 : (p.line == (Expr.ListComp elt gens scope pos).pos.line && !(scope.names.any fun (n, k) => n == x && (k == .local || k == .cell))) = true) :
    swapsWith (.ListComp elt gens scope pos) (some (.Name x p)) line env = pure true := by
  have hb : env.blockKind = .function := by unfold Env.blockKind; rw [h1]; rfl
  show pure (env.blockKind == .function && env.kindOf x == some .local && p.line == _ && _) = pure true
  rw [hb, h2, Bool.and_assoc]
  rw [Bool.and_eq_true] at h3
  simp [h3.1, h3.2]

section
variable {C : Cx} {k : Nat} {cp : Option (Addr × Addr)} {fP fT fd : D} {Pt : B8 → Option (List B8)} {Tm : B8 → Option Int} {c1 : B8} {c2s rl : List B8} {ms : Int} {u : D} {fi fa fg fr : Addr} {Dm : B8 → Prop} {Inv : LS → Prop} {μ : LS → Nat}

theorem lcas_end {c P : Addr} {S : LS} (hcp : cp = some (c, P)) (hq : C.tq P 89 = Str.ofString "_find_lcas.<locals>." ++ Str.ofString "<lambda>") (LO : LcOk Pt Tm ms Dm Inv μ c1 c2s rl) (hI : Inv S) (hb : hot S = false) :
    Hs C ⟨k + 2, false⟩ (scL cp) (rhoL fP fT c1 c2s ms u fd S) ((bodyOf 3).drop 12) (RetQ (.list (rl.map .byt))) := by
  refine ex0_3 (LO.bound _ hI) fun b1 b2 b3 => ?_
  refine ex0_2 (LO.keys _ hI) fun _ k2 => ?_
  refine ex0_3 (LO.fin S hI hb) fun f1 f2 f3 => ?_
  have hB : BIG = 1048576 := rfl
  refine Hs_cons (H1_newlist El_nil ?_)
  refine Ht.under (Sub_lst (Str.ofString "cands") rfl) ?_
  refine Hs_cons (H1_form (σ := List Itm) (g := itD) (l := S.cands) (fun l res => (∀ x ∈ l, (S.cst.lookup x.2).isSome = true) ∧ l.foldl (keepR S.cst) res = resF S ∧ res.length + l.length ≤ 1000)
    (fun res => ("results", .lst (res.map itD)) :: ("cands", .val (.list (S.cands.map itD))) :: ("cstates", .dct (cstD S.cst)) :: rho0 fP fT c1 c2s ms u fd) (Eit_list (Ev_name rfl) (fun _ => letGo_tuple)) (fun x l res hJ => ?_) (fun res hJ => ?_) rfl [] ⟨k2, rfl, by simpa using b3⟩
      (Sub_weak ⟨rfl, rfl, rfl, rfl, rfl, rfl, rfl, rfl, rfl, rfl, rfl, rfl, rfl, rfl, trivial⟩ rfl))
  · refine ex0_3 hJ fun hk hf z => ?_; try clear hJ
    simp only [List.length_cons] at z
    have hx := hk x (.head _)
    have hk' : ∀ y ∈ l, (S.cst.lookup y.2).isSome = true := fun y hy => hk y (.tail _ hy)
    rw [List.foldl_cons] at hf
    have kl := keepR_len S.cst res x
    refine ⟨_, Asg_pair Asg_name Asg_name, ?_⟩
    refine Hs_cons (H1_if (b := !decide (Builtin.bitAnd (flg S.cst x.2) 4 = 4) && (!(res.map itD).any (inF x) && true)) (Et_bool (Ea_and (Et.under (Sub_dct (Str.ofString "cstates") rfl) (Et_not (Et_cmp (Ev_bin (Ev_sub_dict (Ev_name rfl) (Ev_name rfl) (cstD_some hx)) (Ev_namef rfl) Op_band) (Ev_namef rfl) Op_ieq))) fun _ =>
      Ea_and (Et.under (Sub_lst (Str.ofString "results") rfl) (Et_cmp (Ev_tuple (El_cons (Ev_name rfl) (El_cons (Ev_name rfl) El_nil))) (Ev_name rfl) (Op_notin (f := inF x) (fun y hy => ?_)))) fun _ => Ea_and_nil)) (fun h => ?_) (fun h => Hs_nil (Hs_nil ?_)))
    · refine ex1_2 (List.mem_map.mp hy) fun w _ zq1 => ?_; subst zq1
      exact Eqx_item
    · rw [inF_any, Bool.and_true] at h
      have e : keepR S.cst res x = res ++ [x] := by unfold keepR; rw [if_pos h]
      rw [e] at hf kl
      refine Hs_cons (H1_append rfl (Ev_tuple (El_cons (Ev_name rfl) (El_cons (Ev_name rfl) El_nil))) (by show (res.map itD).length + 1 ≤ BIG; rw [List.length_map]; lia) (Hs_nil (Hs_nil ?_)))
      exact ⟨res ++ [x], ⟨hk', hf, by lia⟩, Sub_weak ⟨congrArg Slot.lst (by simp [itD]), rfl, rfl, rfl, rfl, rfl, rfl, rfl, rfl, rfl, rfl, rfl, rfl, rfl, trivial⟩ rfl⟩
    · rw [inF_any, Bool.and_true] at h
      have e : keepR S.cst res x = res := by unfold keepR; rw [if_neg (by rw [h]; simp)]
      rw [e] at hf
      exact ⟨res, ⟨hk', hf, by lia⟩, Sub_weak ⟨rfl, rfl, rfl, rfl, rfl, rfl, rfl, rfl, rfl, rfl, rfl, rfl, rfl, rfl, trivial⟩ rfl⟩
  · refine ex0_3 hJ fun _ hf _ => ?_; try clear hJ
    have hf : res = resF S := hf
    subst hf
    refine Hs_cons (H1_lsort (n := ⟨k + 1, false⟩) (α := Itm) (dat := itD) (lt := ltT) (KeyOk.int (α := Itm) (fun x => x.1) : KeyOk C (fun x : Itm => D.int x.1) ltT oneType') rfl (Ev_lam hcp hq (by rfl)) (fun x _ => ?_) f1 f2 ?_)
    · exact CallV_lam (n := ⟨k, false⟩) (names := [Str.ofString "x"]) (fun {name cl pm ct c vs} hl => by
        refine ex1_1 (len1 hl) fun a zq2 => ?_; subst zq2; exact rfl) rfl (by rfl) (by rfl) (by rfl) (by rfl) (by rfl) (Ev_sub_tup (Ev_name rfl) Ev_int (by decide) rfl)
    refine Ht.under (Sub_lst (Str.ofString "results") rfl) ?_
    have len : (srt ltT (resF S)).length ≤ 1000 := by
      have h := congrArg List.length f3
      rw [List.length_map] at h
      rw [h]; exact LO.lenr
    refine Hs_cons (H1_asgcomp (ds := (srt ltT (resF S)).map itD) (fun _ => true) (fun d => match d with | .tup [_, b] => b | _ => .none) (Eit_list (Ev_name rfl) (fun _ => letGo_tuple)) (by rfl) (by rfl) (fun d hd => ?_) (by rw [List.length_map]; lia) rfl ?_ (hsw := ?_))
    · refine ex1_2 (List.mem_map.mp hd) fun x _ zq3 => ?_; subst zq3
      exact ⟨_, Asg_pair Asg_name Asg_name, Wk_weak trivial rfl, Tst_nil, fun _ => Ev_name rfl⟩
    · refine Hs_cons (H1_return (Ev_name rfl) (.inl ?_))
      rw [List.filter_eq_self.mpr (fun _ _ => rfl), List.map_map, ← f3, List.map_map]
      rfl
    · intro env h1 h2
      exact swaps_true h1 h2 rfl
end
end Mine
set_option maxHeartbeats 200000
namespace Mine

section
variable {C : Cx} {n n' : Lv} {sc : Sc} {ρ ρ' : Rho}
theorem Op_le {a b : Int} : Op2 C n (compareOp .LtE) (.int a) (.int b) (.bool (decide (a ≤ b))) := fun A X s v1 v2 S _ r1 r2 => by
  cases r1.i_int; cases r2.i_int; exact PyProof.Rows.le_int ⟨.refl S.ok, .bool _⟩
theorem Ner_bool {a b : Bool} : Ner C (.bool a) (.bool b) (!decide (a = b)) := fun A s X v1 v2 _ r1 r2 => by
  cases r1.i_bool; cases r2.i_bool
  have : (!decide (a = b)) = !(a == b) := by cases a <;> cases b <;> rfl
  rw [this]
  exact SeqAt.RcNeAt.bool_bool a b
theorem Ev_or2 {e₁ e₂ : Expr} {pos : Pos} {a b : Bool} (h1 : Ev C n sc ρ e₁ (.bool a)) (h2 : a = false → Ev C n sc ρ e₂ (.bool b)) : Ev C n sc ρ (.BoolOp .Or [e₁, e₂] pos) (.bool (a || b)) := fun A env X M s S e m => by
  refine BoolOp_or (wp_false (h1 A env X M s S e m) fun v s1 zq1 => ex0_2 zq1 fun n1 r1 => ?_)
  cases r1.i_bool
  refine wpAny_truthy_bool ?_
  cases a with
  | true => exact ⟨n1, .bool _⟩
  | false => exact BoolOp_one (wp_false (h2 rfl A env X M s1 (S.next n1) e (m.nx n1 S.ok)) fun v s2 zq2 => ex0_2 zq2 fun n2 r2 => ⟨n1.trans n2, r2⟩)
theorem Ev_and2 {e₁ e₂ : Expr} {pos : Pos} {a b : Bool} (h1 : Ev C n sc ρ e₁ (.bool a)) (h2 : a = true → Ev C n sc ρ e₂ (.bool b)) : Ev C n sc ρ (.BoolOp .And [e₁, e₂] pos) (.bool (a && b)) := fun A env X M s S e m => by
  refine BoolOp_and (wp_false (h1 A env X M s S e m) fun v s1 zq3 => ex0_2 zq3 fun n1 r1 => ?_)
  cases r1.i_bool
  refine wpAny_truthy_bool ?_
  cases a with
  | false => exact ⟨n1, .bool _⟩
  | true => exact BoolOp_one (wp_false (h2 rfl A env X M s1 (S.next n1) e (m.nx n1 S.ok)) fun v s2 zq4 => ex0_2 zq4 fun n2 r2 => ⟨n1.trans n2, r2⟩)

end
end Mine
set_option maxHeartbeats 1000000
namespace Mine

set_option genInjectivity false in
set_option genSizeOf false in
structure Wd (C : Cx) where
  fi : Addr
  fa : Addr
  fg : Addr
  fr : Addr
  qi : Str
  qa : Str
  qg : Str
  qr : Str
  W : WLF C fi fa fg fr
  mi : MFn C fi 0 "__init__" qi
  ma : MFn C fa 1 "add" qa
  mg : MFn C fg 2 "get" qg
  mr : MFn C fr 3 "rows" qr
  wl : C.mg "WorkList" = some (.ref C.wlC)
  hG : ∀ γ, AllBare γ → C.G γ
  a3 : Addr
  a4 : Addr
  a5 : Addr
  a6 : Addr
  a7 : Addr
  a9 : Addr
  a10 : Addr
  a11 : Addr
  a12 : Addr
  T3 : Addr
  n3 : Nat
  t3 : Tok
  c3 : Addr
  P3 : Addr
  c12 : Addr
  P12 : Addr
  g3 : GFn C a3 "_find_lcas" "_find_lcas" (argsOf 3) (bodyOf 3) (scopeOf 3) (.ref T3) (some (c3, P3))
  hT3 : C.h₁.get? T3 = some (seqO "tuple" [.int 0 t3, .none] n3)
  g4 : GFn C a4 "find_merge_base" "find_merge_base" (argsOf 4) (bodyOf 4) (scopeOf 4) .none none
  g5 : GFn C a5 "find_octopus_base" "find_octopus_base" (argsOf 5) (bodyOf 5) (scopeOf 5) .none none
  g6 : GFn C a6 "can_fast_forward" "can_fast_forward" (argsOf 6) (bodyOf 6) (scopeOf 6) .none none
  g7 : GFn C a7 "independent" "independent" (argsOf 7) (bodyOf 7) (scopeOf 7) .none none
  g9 : GFn C a9 "_law_name" "_law_name" (argsOf 9) (bodyOf 9) (scopeOf 9) .none none
  g10 : GFn C a10 "_law_history" "_law_history" (argsOf 10) (bodyOf 10) (scopeOf 10) .none none
  g11 : GFn C a11 "_law_line" "_law_line" (argsOf 11) (bodyOf 11) (scopeOf 11) .none none
  g12 : GFn C a12 "_law_best" "_law_best" (argsOf 12) (bodyOf 12) (scopeOf 12) .none (some (c12, P12))
  tq30 : C.tq P3 30 = Str.ofString "_find_lcas.<locals>." ++ Str.ofString "_has_candidates"
  tq89 : C.tq P3 89 = Str.ofString "_find_lcas.<locals>." ++ Str.ofString "<lambda>"
  tq174 : C.tq P12 174 = Str.ofString "_law_best.<locals>." ++ Str.ofString "<lambda>"
  c13 : Addr
  P13 : Addr
  tq190 : C.tq P13 190 = Str.ofString "law.<locals>." ++ Str.ofString "<lambda>"
  tq191 : C.tq P13 191 = Str.ofString "law.<locals>." ++ Str.ofString "<lambda>"
  kd13 : kdsCode C.K (.ref c13) = true

section
variable {C : Cx} {k : Nat} {fP fT : D} {Pt : B8 → Option (List B8)} {Tm : B8 → Option Int} {c1 : B8} {c2s rl : List B8} {ms : Int} {u : D} {Dm : B8 → Prop} {Inv : LS → Prop} {μ : LS → Nat}

noncomputable def Lk (C : Cx) (fP fT : D) (Pt : B8 → Option (List B8)) (Tm : B8 → Option Int) : Prop := ∀ k, Lks C ⟨k + 1, false⟩ fP fT Pt Tm

theorem lcas_body (w : Wd C) (L : Lk C fP fT Pt Tm) (hu : ∀ c, Dm c → (Pt c = none ∨ Tm c = none) → u = .set 1) (LO : LcOk Pt Tm ms Dm Inv μ c1 c2s rl) :
    Hs C ⟨k + 2, false⟩ (scL (some (w.c3, w.P3))) (bindsRho [] [(Str.ofString "lookup_parents", fP), (Str.ofString "c1", .byt c1), (Str.ofString "c2s", .list (c2s.map .byt)), (Str.ofString "lookup_stamp", fT), (Str.ofString "min_stamp", .int ms), (Str.ofString "shallows", u)]) (bodyOf 3) (RetQ (.list (rl.map .byt))) := by
  refine lcas_start (n := ⟨k + 2, false⟩) (Dm := Dm) rfl w.tq30 w.W (CallMk.of (n := ⟨k, false⟩) w.W w.mi) w.wl (CallAdd.of (n := ⟨k + 1, false⟩) w.W w.ma) (CallAdd.of (n := ⟨k + 1, true⟩) w.W w.ma) (L (k + 1)) rfl hu LO.d1 LO.d2 LO.len2 ?_
  refine lcas_while (n := ⟨k + 2, false⟩) w.W (CallAdd.of (n := ⟨k + 1, false⟩) w.W w.ma) (CallGet.of (n := ⟨k + 1, false⟩) w.W w.mg) (L (k + 1)) hu LO rfl (fun items cst => hc_call (n := ⟨k, false⟩) w.W w.mr w.hG rfl) fun S hI hb => ?_
  exact lcas_end rfl w.tq89 LO hI hb

theorem lcas_n1 (w : Wd C) (L : Lk C fP fT Pt Tm) (hu : ∀ c, Dm c → (Pt c = none ∨ Tm c = none) → u = .set 1) (LO : LcOk Pt Tm 0 Dm Inv μ c1 c2s rl) : CallN C ⟨k + 3, false⟩ (.ref w.a3) ["shallows"] [fP, .byt c1, .list (c2s.map .byt), fT] [u] (.list (rl.map .byt)) :=
  lcas_call1 (n := ⟨k + 2, false⟩) w.g3 w.hT3 (lcas_body w L hu LO)
theorem lcas_n2 (w : Wd C) (L : Lk C fP fT Pt Tm) (hu : ∀ c, Dm c → (Pt c = none ∨ Tm c = none) → u = .set 1) (LO : LcOk Pt Tm ms Dm Inv μ c1 c2s rl) : CallN C ⟨k + 3, false⟩ (.ref w.a3) ["min_stamp", "shallows"] [fP, .byt c1, .list (c2s.map .byt), fT] [.int ms, u] (.list (rl.map .byt)) :=
  lcas_call2 (n := ⟨k + 2, false⟩) w.g3 w.hT3 (lcas_body w L hu LO)
end
end Mine
namespace Mine

structure Hg (Pt : B8 → Option (List B8)) (Tm : B8 → Option Int) (Dm : B8 → Prop) (u : D) (lcL : B8 → List B8 → List B8) (lcM : B8 → B8 → List B8) : Prop where
  hu : ∀ c, Dm c → (Pt c = none ∨ Tm c = none) → u = .set 1
  ok : ∀ c1 c2s, Dm c1 → (∀ c ∈ c2s, Dm c) → c2s ≠ [] → c2s.length ≤ 10 → ∃ Inv μ, LcOk Pt Tm 0 Dm Inv μ c1 c2s (lcL c1 c2s)
  okM : ∀ c1 c2 t, Dm c1 → Dm c2 → Tm c1 = some t → c1 ≠ c2 → ∃ Inv μ, LcOk Pt Tm t Dm Inv μ c1 [c2] (lcM c1 c2)
  inD : ∀ c1 c2s, Dm c1 → (∀ c ∈ c2s, Dm c) → ∀ c ∈ lcL c1 c2s, Dm c
  len : ∀ c1 c2s, Dm c1 → (∀ c ∈ c2s, Dm c) → (lcL c1 c2s).length ≤ 10

noncomputable def mbL (lcL : B8 → List B8 → List B8) : List B8 → List B8
  | [] => []
  | [c] => [c]
  | c :: d :: l => if c ∈ d :: l then [c] else lcL c (d :: l)
noncomputable def ocStep (lcL : B8 → List B8 → List B8) (lcas : List B8) (cmt : B8) : List B8 := lcas.flatMap fun ca => lcL cmt [ca]
noncomputable def ocL (lcL : B8 → List B8 → List B8) : List B8 → List B8
  | [] => []
  | [c] => [c]
  | [c, d] => mbL lcL [c, d]
  | c :: d :: e :: l => (d :: e :: l).foldl (ocStep lcL) [c]
noncomputable def cfB (Tm : B8 → Option Int) (lcM : B8 → B8 → List B8) (c1 c2 : B8) : Bool := if c1 = c2 then true else match Tm c1 with
  | none => false
  | some _ => decide (lcM c1 c2 = [c1])
noncomputable def badAt (lcL : B8 → List B8 → List B8) (ids : List B8) (i : Nat) (c : B8) : Bool := (List.range ids.length).any fun j => !decide (i = j) && (match ids[j]? with | some o => decide (mbL lcL [c, o] = [c]) | none => false)
noncomputable def indR (lcL : B8 → List B8 → List B8) (ids : List B8) : Nat → List B8 → List B8
  | _, [] => []
  | i, c :: r => (if badAt lcL ids i c = true then [] else [c]) ++ indR lcL ids (i + 1) r
noncomputable def indL (lcL : B8 → List B8 → List B8) : List B8 → List B8
  | [] => []
  | [c] => [c]
  | c :: d :: l => indR lcL (c :: d :: l) 0 (c :: d :: l)

noncomputable def eqF (c : B8) : D → Bool
  | .byt b => decide (b = c)
  | _ => false

section
variable {C : Cx} {k : Nat} {fP fT : D} {Pt : B8 → Option (List B8)} {Tm : B8 → Option Int} {u : D} {Dm : B8 → Prop} {lcL : B8 → List B8 → List B8} {lcM : B8 → B8 → List B8}

theorem eqF_x {c : B8} {l : List B8} : ∀ y ∈ l.map D.byt, Eqx C y (.byt c) (eqF c y) := fun y hy => by
  refine ex1_2 (List.mem_map.mp hy) fun b _ zq1 => ?_; subst zq1
  exact Eqv_byt.x
theorem eqF_any {c : B8} {l : List B8} : (l.map D.byt).any (eqF c) = decide (c ∈ l) := by
  rw [List.any_map, Bool.eq_iff_iff, List.any_eq_true, decide_eq_true_iff]
  constructor
  · intro zi1; refine ex1_2 zi1 fun b hb e => ?_; try clear zi1
    have : b = c := of_decide_eq_true e
    exact this ▸ hb
  · intro h; exact ⟨c, h, decide_eq_true rfl⟩

theorem call_fmb (w : Wd C) (L : Lk C fP fT Pt Tm) (H : Hg Pt Tm Dm u lcL lcM) {ids : List B8} (hD : ∀ c ∈ ids, Dm c) (hl : ids.length ≤ 10) : CallB C ⟨k + 5, false⟩ (.ref w.a4) [fP, fT, u, .list (ids.map .byt)] (.list ((mbL lcL ids).map .byt)) := by
  refine CallB_fn (n := ⟨k + 4, false⟩) (names := [Str.ofString "lookup_parents", Str.ofString "lookup_stamp", Str.ofString "shallows", Str.ofString "commit_ids"]) w.g4 (fun {kV doc pm ct an c vs} hv => ?_) rfl (by rfl) ?_
  · refine ex4_1 (len4 hv) fun a b c d zq2 => ?_; subst zq2; exact rfl
  match ids, hD, hl with
  | [], _, _ => exact fmb_nil
  | [c], _, _ => exact fmb_one (n := ⟨k + 3, false⟩) rfl
  | c :: d :: l, hD, hl =>
    by_cases hc : c ∈ d :: l
    · have : mbL lcL (c :: d :: l) = [c] := by show (if _ then _ else _) = _; rw [if_pos hc]
      rw [this]
      exact fmb_in (n := ⟨k + 3, false⟩) rfl (eqF c) eqF_x (by rw [eqF_any, decide_eq_true hc])
    · have : mbL lcL (c :: d :: l) = lcL c (d :: l) := by show (if _ then _ else _) = _; rw [if_neg hc]
      rw [this]
      refine ex2_1 (H.ok c (d :: l) (hD c (.head _)) (fun x hx => hD x (.tail _ hx)) (by simp) (by simp at hl ⊢; lia)) fun Inv μ LO => ?_
      exact fmb_lcas (n := ⟨k + 3, false⟩) rfl (eqF c) eqF_x (by rw [eqF_any, decide_eq_false hc]) w.g3 (lcas_n1 (k := k + 1) w L H.hu LO)

theorem oc_len (H : Hg Pt Tm Dm u lcL lcM) {cmt : B8} (hc : Dm cmt) : ∀ {l : List B8}, (∀ c ∈ l, Dm c) → (l.flatMap fun ca => lcL cmt [ca]).length ≤ 10 * l.length ∧ ∀ c ∈ l.flatMap fun ca => lcL cmt [ca], Dm c
  | [], _ => ⟨Nat.le_refl _, fun c h => by simp at h⟩
  | a :: l, h => by
    refine ex0_2 (oc_len H hc (l := l) fun c q => h c (.tail _ q)) fun h1 h2 => ?_
    have ha : ∀ c ∈ [a], Dm c := fun c q => by simp at q; subst q; exact h _ (.head _)
    have := H.len cmt [a] hc ha
    rw [List.flatMap_cons]
    refine ⟨by rw [List.length_append, List.length_cons]; lia, fun c q => ?_⟩
    rcases List.mem_append.mp q with q | q
    · exact H.inD cmt [a] hc ha c q
    · exact h2 c q
end
end Mine
namespace Mine

section
variable {C : Cx} {k : Nat} {fP fT : D} {Pt : B8 → Option (List B8)} {Tm : B8 → Option Int} {u : D} {Dm : B8 → Prop} {lcL : B8 → List B8 → List B8} {lcM : B8 → B8 → List B8}

noncomputable abbrev rhoO (fP fT u : D) (ids : List B8) (others : List B8) : Rho := [("others", .val (.list (others.map .byt))), ("commit_ids", .val (.list (ids.map .byt))), ("shallows", .val u), ("lookup_stamp", .val fT), ("lookup_parents", .val fP)]

theorem call_oct (w : Wd C) (L : Lk C fP fT Pt Tm) (H : Hg Pt Tm Dm u lcL lcM) {ids : List B8} (hD : ∀ c ∈ ids, Dm c) (hl : ids.length ≤ 4) : CallB C ⟨k + 6, false⟩ (.ref w.a5) [fP, fT, u, .list (ids.map .byt)] (.list ((ocL lcL ids).map .byt)) := by
  refine CallB_fn (n := ⟨k + 5, false⟩) (names := [Str.ofString "lookup_parents", Str.ofString "lookup_stamp", Str.ofString "shallows", Str.ofString "commit_ids"]) w.g5 (fun {kV doc pm ct an c vs} hv => ?_) rfl (by rfl) ?_
  · refine ex4_1 (len4 hv) fun a b c d zq1 => ?_; subst zq1; exact rfl
  have small : ∀ (e : B8) (l : List B8), ids = e :: l → l.length ≤ 1 → ocL lcL ids = mbL lcL ids → Hs C ⟨k + 5, false⟩ ⟨scopeOf 5, Str.ofString "find_octopus_base" ++ ".<locals>.", none⟩ (bindsRho [] ([Str.ofString "lookup_parents", Str.ofString "lookup_stamp", Str.ofString "shallows", Str.ofString "commit_ids"].zip [fP, fT, u, .list (ids.map .byt)])) (bodyOf 5) (RetQ (.list ((ocL lcL ids).map .byt))) := by
    intro e l he hle hm
    subst he
    refine Hs_cons (H1_ifF (Et_not (b := true) (Et_plain (Ev_name rfl) Truth_list)) (Hs_nil ?_))
    refine Hs_cons (H1_ifT (Et_cmp (Ev_bi rfl (El_cons (Ev_name rfl) El_nil) Call_len) Ev_int (by have := Op_le (C := C) (n := ⟨k + 5, false⟩) (a := (((e :: l).map D.byt).length : Int)) (b := 2); rwa [decide_eq_true (by simp; lia)] at this)) ?_)
    refine Hs_cons (H1_return (Ev_call (name := "find_merge_base") w.g4 (El_cons (Ev_name rfl) (El_cons (Ev_name rfl) (El_cons (Ev_name rfl) (El_cons (Ev_name rfl) El_nil)))) (call_fmb (k := k) w L H hD (by simp; lia))) (.inl (by rw [hm])))
  match ids, hD, hl, small with
  | [], _, _, _ => exact Hs_cons (H1_ifT (Et_not (b := false) (Et_plain (Ev_name rfl) Truth_list)) (Hs_cons (H1_return (Ev_list El_nil) (.inl rfl))))
  | [c], _, _, small => exact small _ _ rfl (by simp) rfl
  | [c, d], _, _, small => exact small _ _ rfl (by simp) rfl
  | c :: d :: e :: l, hD, hl, _ =>
    simp only [List.length_cons] at hl
    refine Hs_cons (H1_ifF (Et_not (b := true) (Et_plain (Ev_name rfl) Truth_list)) (Hs_nil ?_))
    refine Hs_cons (H1_ifF (Et_cmp (Ev_bi rfl (El_cons (Ev_name rfl) El_nil) Call_len) Ev_int (by have := Op_le (C := C) (n := ⟨k + 5, false⟩) (a := (((c :: d :: e :: l).map D.byt).length : Int)) (b := 2); rwa [decide_eq_false (by simp; lia)] at this)) (Hs_nil ?_))
    refine Hs_cons (H1_newlist (El_cons (Ev_sub_list (Ev_name rfl) Ev_int (by decide) rfl) El_nil) ?_)
    refine Ht.under (Sub_lst (Str.ofString "lcas") rfl) ?_
    refine Hs_cons (H1_assign (Ev_from (j := 1) (Ev_name rfl)) Asg_name ?_)
    have hD' : ∀ x ∈ d :: e :: l, Dm x := fun x hx => hD x (.tail _ hx)
    refine Hs_cons (H1_form (σ := List B8) (g := .byt) (l := (d :: e :: l)) (fun r s => (∀ x ∈ r, Dm x) ∧ r.foldl (ocStep lcL) s = (d :: e :: l).foldl (ocStep lcL) [c] ∧ (∀ x ∈ s, Dm x) ∧ s.length * 10 ^ r.length ≤ 10000)
      (fun s => ("lcas", .val (.list (s.map .byt))) :: rhoO fP fT u (c :: d :: e :: l) (d :: e :: l)) (Eit_list (Ev_name rfl) (fun _ => letGo_name)) (fun y r s hI => ?_) (fun s hI => ?_) rfl [c] ⟨hD', rfl, fun x hx => by simp at hx; subst hx; exact hD _ (.head _), ?_⟩
        (Sub_weak ⟨rfl, rfl, rfl, rfl, rfl, rfl, trivial⟩ rfl))
    · refine ex0_4 hI fun hDr hf hDs hz => ?_; try clear hI
      have hB : BIG = 1048576 := rfl
      have hy : Dm y := hDr y (.head _)
      refine ex0_2 (oc_len H hy (l := s) hDs) fun l1 l2 => ?_
      have hp : 1 ≤ 10 ^ r.length := Nat.pos_of_ne_zero (by simp)
      have zs : s.length ≤ 1000 := by
        rw [List.length_cons, Nat.pow_succ] at hz
        have : s.length * 10 ≤ s.length * (10 ^ r.length * 10) := Nat.mul_le_mul_left _ (by lia)
        lia
      refine ⟨_, Asg_name, ?_⟩
      refine Hs_cons (H1_newlist El_nil ?_)
      refine Hs_cons (H1_form (σ := List B8) (g := .byt) (l := s) (fun r acc => (∀ x ∈ r, Dm x) ∧ acc ++ (r.flatMap fun ca => lcL y [ca]) = s.flatMap (fun ca => lcL y [ca]))
        (fun acc => ("next_lcas", .lst (acc.map .byt)) :: ("cmt", .val (.byt y)) :: ("lcas", .val (.list (s.map .byt))) :: rhoO fP fT u (c :: d :: e :: l) (d :: e :: l)) (Eit_list (Ev_name rfl) (fun _ => letGo_name)) (fun z q acc hI => ?_) (fun acc hI => ?_) rfl [] ⟨hDs, rfl⟩ Sub.refl)
      · refine ex0_2 hI fun hDq hacc => ?_; try clear hI
        have hz' : ∀ x ∈ [z], Dm x := fun x hx => by simp at hx; subst hx; exact hDq _ (.head _)
        refine ex2_1 (H.ok y [z] hy hz' (by simp) (by simp)) fun Inv μ LO => ?_
        have hl2 : (acc ++ lcL y [z]).length ≤ 10000 := by
          have := congrArg List.length hacc
          rw [List.flatMap_cons, List.length_append, List.length_append] at this
          rw [List.length_append]; lia
        refine ⟨_, Asg_name, ?_⟩
        refine Hs_cons (H1_assign (Ev_calln (name := "_find_lcas") (kn := [Str.ofString "shallows"]) (hkn := fun _ _ => rfl) (hall := fun _ _ => rfl) w.g3 (El_cons (Ev_name rfl) (El_cons (Ev_name rfl) (El_cons (Ev_list (El_cons (Ev_name rfl) El_nil)) (El_cons (Ev_name rfl) El_nil)))) (Kl_cons (Ev_name rfl) Kl_nil) (lcas_n1 (k := k + 2) (c2s := [z]) w L H.hu LO)) Asg_name ?_)
        refine Hs_cons (H1_extend rfl (Ev_name rfl) (by simp only [List.length_map]; rw [List.length_append] at hl2; lia) ?_)
        refine Hs_nil ⟨acc ++ lcL y [z], ⟨fun x hx => hDq x (.tail _ hx), by rw [List.flatMap_cons] at hacc; rw [List.append_assoc]; exact hacc⟩, Sub_weak ⟨congrArg Slot.lst (by simp), rfl, rfl, rfl, rfl, rfl, rfl, rfl, trivial⟩ rfl⟩
      · refine ex0_2 hI fun _ hacc => ?_; try clear hI
        rw [List.flatMap_nil, List.append_nil] at hacc
        subst hacc
        refine Ht.under (Sub_lst (Str.ofString "next_lcas") rfl) ?_
        refine Hs_cons (H1_assign (Ev_whole (Ev_name rfl)) Asg_name ?_)
        refine Hs_nil ⟨s.flatMap (fun ca => lcL y [ca]), ⟨fun x hx => hDr x (.tail _ hx), hf, l2, ?_⟩, Sub_weak ⟨rfl, rfl, rfl, rfl, rfl, rfl, trivial⟩ rfl⟩
        rw [List.length_cons, Nat.pow_succ] at hz
        have : (s.flatMap fun ca => lcL y [ca]).length * 10 ^ r.length ≤ 10 * s.length * 10 ^ r.length := Nat.mul_le_mul_right _ l1
        have e : 10 * s.length * 10 ^ r.length = s.length * (10 ^ r.length * 10) := by
          rw [Nat.mul_comm 10 s.length, Nat.mul_assoc, Nat.mul_comm 10]
        lia
    · refine ex0_4 hI fun _ hf _ _ => ?_; try clear hI
      refine Hs_cons (H1_return (Ev_name rfl) (.inl ?_))
      rw [List.foldl_nil] at hf
      rw [hf]; rfl
    · have : l.length ≤ 1 := by lia
      have h1 : 10 ^ (d :: e :: l).length ≤ 10 ^ 3 := Nat.pow_le_pow_right (by decide) (by simp; lia)
      simp only [List.length_cons, List.length_nil] at h1 ⊢
      lia

theorem call_cff (w : Wd C) (L : Lk C fP fT Pt Tm) (H : Hg Pt Tm Dm u lcL lcM) {c1 c2 : B8} (h1 : Dm c1) (h2 : Dm c2) : CallB C ⟨k + 5, false⟩ (.ref w.a6) [fP, fT, u, .byt c1, .byt c2] (.bool (cfB Tm lcM c1 c2)) := by
  refine CallB_fn (n := ⟨k + 4, false⟩) (names := [Str.ofString "lookup_parents", Str.ofString "lookup_stamp", Str.ofString "shallows", Str.ofString "c1", Str.ofString "c2"]) w.g6 (fun {kV doc pm ct an c vs} hv => ?_) rfl (by rfl) ?_
  · refine ex5_1 (len5 hv) fun a b c d e zq2 => ?_; subst zq2; exact rfl
  refine Hs_cons (H1_if (b := decide (c1 = c2)) (Et_cmp (Ev_name rfl) (Ev_name rfl) (Op_eq Eqr_byt)) (fun hb => ?_) (fun hb => Hs_nil ?_))
  · have hb := of_decide_eq_true hb
    refine Hs_cons (H1_return Ev_bool (.inl ?_))
    unfold cfB; rw [if_pos hb]
  · have hb := of_decide_eq_false hb
    cases ht : Tm c1 with
    | none =>
      refine Hs_cons (H1_try_exc (HsX_assign (EvX_callv (Ev_name rfl) (L (k + 3)).tf (El_cons (Ev_name rfl) El_nil) ((L (k + 3)).tNo c1 ht))) ?_)
      have hu := H.hu c1 h1 (.inr ht)
      refine Hs_cons (H1_ifT (by subst hu; exact Et_plain (Ev_name rfl) Truth_set) (Hs_cons (H1_return Ev_bool (.inl ?_))))
      unfold cfB; rw [if_neg hb, ht]
    | some t =>
      refine ex2_1 (H.okM c1 c2 t h1 h2 ht hb) fun Inv μ LO => ?_
      refine Hs_cons (H1_try_ok (Hs_cons (H1_assign (Ev_callv (Ev_name rfl) (L (k + 3)).tf (El_cons (Ev_name rfl) El_nil) ((L (k + 3)).tOk c1 t ht)) Asg_name (Hs_nil ?_))))
      refine Hs_cons (H1_assign (Ev_calln (name := "_find_lcas") (kn := [Str.ofString "min_stamp", Str.ofString "shallows"]) (hkn := fun _ _ => rfl) (hall := fun _ _ => rfl) w.g3 (El_cons (Ev_name rfl) (El_cons (Ev_name rfl) (El_cons (Ev_list (El_cons (Ev_name rfl) El_nil)) (El_cons (Ev_name rfl) El_nil)))) (Kl_cons (Ev_name rfl) (Kl_cons (Ev_name rfl) Kl_nil)) (lcas_n2 (k := k + 1) (c2s := [c2]) w L H.hu LO)) Asg_name ?_)
      refine Hs_cons (H1_return (Ev_cmp (Ev_name rfl) (Ev_list (El_cons (Ev_name rfl) El_nil)) (Op_eq (Eqr_bytl (l2 := [c1])))) (.inl ?_))
      unfold cfB; rw [if_neg hb, ht]
end
end Mine
namespace Mine

theorem enm_cons {x : D} {l : List D} {j : Nat} {r : List B8} (h : x :: l = enm j (r.map .byt)) : ∃ c r', r = c :: r' ∧ x = .tup [.int j, .byt c] ∧ l = enm (j + 1) (r'.map .byt) := by
  cases r with
  | nil => cases h
  | cons c r' => cases h; exact ⟨c, r', rfl, rfl, rfl⟩
theorem enm_nil {j : Nat} {r : List B8} (h : [] = enm j (r.map .byt)) : r = [] := by
  cases r with
  | nil => rfl
  | cons c r' => cases h

section
variable {C : Cx} {k : Nat} {fP fT : D} {Pt : B8 → Option (List B8)} {Tm : B8 → Option Int} {u : D} {Dm : B8 → Prop} {lcL : B8 → List B8 → List B8} {lcM : B8 → B8 → List B8}

noncomputable abbrev rhoI (fP fT u : D) (ids : List B8) : Rho := [("commit_ids", .val (.list (ids.map .byt))), ("shallows", .val u), ("lookup_stamp", .val fT), ("lookup_parents", .val fP)]

noncomputable def badTo (lcL : B8 → List B8 → List B8) (ids : List B8) (i : Nat) (c : B8) (j : Nat) : Bool := (List.range j).any fun j => !decide (i = j) && (match ids[j]? with | some o => decide (mbL lcL [c, o] = [c]) | none => false)
theorem badTo_succ {lcL : B8 → List B8 → List B8} {ids : List B8} {i : Nat} {c o : B8} {j : Nat} (ho : ids[j]? = some o) : badTo lcL ids i c (j + 1) = (badTo lcL ids i c j || (!decide (i = j) && decide (mbL lcL [c, o] = [c]))) := by
  unfold badTo
  rw [List.range_succ, List.any_append]
  simp only [List.any_cons, List.any_nil, Bool.or_false, ho]
theorem badTo_up {lcL : B8 → List B8 → List B8} {ids : List B8} {i : Nat} {c o : B8} {j : Nat} (ho : ids[j]? = some o) (hi : i ≠ j) (hm : mbL lcL [c, o] = [c]) : badAt lcL ids i c = true := by
  unfold badAt
  rw [List.any_eq_true]
  have hj : j < ids.length := by
    rcases Nat.lt_or_ge j ids.length with h | h
    · exact h
    · exact no_some (List.getElem?_eq_none h) ho
  refine ⟨j, List.mem_range.mpr hj, ?_⟩
  rw [ho]; simp [hi, hm]

theorem call_ind (w : Wd C) (L : Lk C fP fT Pt Tm) (H : Hg Pt Tm Dm u lcL lcM) {ids : List B8} (hD : ∀ c ∈ ids, Dm c) (hl : ids.length ≤ 4) : CallB C ⟨k + 6, false⟩ (.ref w.a7) [fP, fT, u, .list (ids.map .byt)] (.list ((indL lcL ids).map .byt)) := by
  refine CallB_fn (n := ⟨k + 5, false⟩) (names := [Str.ofString "lookup_parents", Str.ofString "lookup_stamp", Str.ofString "shallows", Str.ofString "commit_ids"]) w.g7 (fun {kV doc pm ct an c vs} hv => ?_) rfl (by rfl) ?_
  · refine ex4_1 (len4 hv) fun a b c d zq1 => ?_; subst zq1; exact rfl
  match ids, hD, hl with
  | [], _, _ => exact Hs_cons (H1_ifT (Et_not (b := false) (Et_plain (Ev_name rfl) Truth_list)) (Hs_cons (H1_return (Ev_list El_nil) (.inl rfl))))
  | [c], _, _ =>
    refine Hs_cons (H1_ifF (Et_not (b := true) (Et_plain (Ev_name rfl) Truth_list)) (Hs_nil ?_))
    refine Hs_cons (H1_ifT (Et_cmp (Ev_bi rfl (El_cons (Ev_name rfl) El_nil) Call_len) Ev_int (by have := Op_ieq (C := C) (n := ⟨k + 5, false⟩) (a := (([c].map D.byt).length : Int)) (b := 1); rwa [decide_eq_true (by simp)] at this)) ?_)
    exact Hs_cons (H1_return (Ev_ty rfl (El_cons (Ev_name rfl) El_nil) Call_list) (.inl rfl))
  | c :: d :: l, hD, hl =>
    generalize hids : c :: d :: l = ids at hD hl ⊢
    have hz : 2 ≤ ids.length := by rw [← hids]; simp
    have hI : indL lcL ids = indR lcL ids 0 ids := by rw [← hids]; rfl
    rw [hI]
    have hT : Truth C ⟨k + 5, false⟩ (.list (ids.map D.byt)) true := by
      have := Truth_list (C := C) (n := ⟨k + 5, false⟩) (l := ids.map D.byt)
      rw [← hids] at this ⊢; exact this
    refine Hs_cons (H1_ifF (Et_not (b := true) (Et_plain (Ev_name rfl) hT)) (Hs_nil ?_))
    refine Hs_cons (H1_ifF (Et_cmp (Ev_bi rfl (El_cons (Ev_name rfl) El_nil) Call_len) Ev_int (by have := Op_ieq (C := C) (n := ⟨k + 5, false⟩) (a := ((ids.map D.byt).length : Int)) (b := 1); rwa [decide_eq_false (by rw [List.length_map]; lia)] at this)) (Hs_nil ?_))
    refine Hs_cons (H1_newlist El_nil ?_)
    refine Hs_cons (H1_for (σ := List B8) (ds := enm 0 (ids.map .byt)) (fun ds out => ∃ i r, ds = enm i (r.map .byt) ∧ ids.drop i = r ∧ out ++ indR lcL ids i r = indR lcL ids 0 ids ∧ out.length ≤ i ∧ i ≤ 4)
      (fun out => ("independent_commits", .lst (out.map .byt)) :: rhoI fP fT u ids) (Eit_enum (Ev_name rfl)) (fun x rs out hI => ?_) (fun out hI => ?_) rfl [] ⟨0, ids, rfl, rfl, rfl, Nat.le_refl _, by lia⟩ Sub.refl)
    · refine ex2_5 hI fun i r hr hdr ho hlo hi4 => ?_; try clear hI
      refine ex2_3 (enm_cons hr) fun c r zq2 zq3 zq4 => ?_; subst zq2; subst zq3; subst zq4
      have hc : ids[i]? = some c := by
        have : (ids.drop i)[0]? = some c := by rw [hdr]; rfl
        rwa [List.getElem?_drop, Nat.add_zero] at this
      have hdr' : ids.drop (i + 1) = r := by rw [← List.drop_drop, hdr]; rfl
      have hil : i < ids.length := by
        rcases Nat.lt_or_ge i ids.length with h | h
        · exact h
        · exact no_some (List.getElem?_eq_none h) hc
      have hcD : Dm c := hD c (List.mem_of_getElem? hc)
      refine ⟨_, Asg_pair Asg_name Asg_name, ?_⟩
      refine Hs_cons (H1_assign Ev_bool Asg_name ?_)
      refine Hs_cons (H1_for (σ := Unit) (ds := enm 0 (ids.map .byt)) (fun ds _ => ∃ j r, ds = enm j (r.map .byt) ∧ ids.drop j = r ∧ badTo lcL ids i c j = false ∧ (j ≤ ids.length))
        (fun _ => ("is_independent", .val (.bool true)) :: ("commit_id", .val (.byt c)) :: ("i", .val (.int i)) :: ("independent_commits", .lst (out.map .byt)) :: rhoI fP fT u ids) (Eit_enum (Ev_name rfl)) (fun x rs _ hI => ?_) (fun _ hI => ?_) rfl () ⟨0, ids, rfl, rfl, rfl, Nat.zero_le _⟩ (Sub_weak ⟨rfl, rfl, rfl, rfl, rfl, rfl, rfl, rfl, trivial⟩ rfl))
      · refine ex2_4 hI fun j r2 hr2 hdr2 hb hjl => ?_; try clear hI
        refine ex2_3 (enm_cons hr2) fun o r2 zq5 zq6 zq7 => ?_; subst zq5; subst zq6; subst zq7
        have hc2 : ids[j]? = some o := by
          have : (ids.drop j)[0]? = some o := by rw [hdr2]; rfl
          rwa [List.getElem?_drop, Nat.add_zero] at this
        have hdr2' : ids.drop (j + 1) = r2 := by rw [← List.drop_drop, hdr2]; rfl
        have hjl' : j < ids.length := by
          rcases Nat.lt_or_ge j ids.length with h | h
          · exact h
          · exact no_some (List.getElem?_eq_none h) hc2
        refine ⟨_, Asg_pair Asg_name Asg_name, ?_⟩
        refine Hs_cons (H1_if (b := decide ((i : Int) = (j : Int))) (Et_cmp (Ev_name rfl) (Ev_name rfl) Op_ieq) (fun hb' => ?_) (fun hb' => Hs_nil ?_))
        · have hij : i = j := by have := of_decide_eq_true hb'; lia
          refine Hs_cons (H1_continue ?_)
          exact ⟨(), ⟨j + 1, r2, rfl, hdr2', by rw [badTo_succ hc2, hb]; simp [hij], hjl'⟩, Sub_weak ⟨rfl, rfl, rfl, rfl, rfl, rfl, rfl, rfl, trivial⟩ rfl⟩
        · have hij : i ≠ j := by have := of_decide_eq_false hb'; lia
          refine Hs_cons (H1_assign (Ev_call (name := "find_merge_base") w.g4 (El_cons (Ev_name rfl) (El_cons (Ev_name rfl) (El_cons (Ev_name rfl) (El_cons (Ev_list (El_cons (Ev_name rfl) (El_cons (Ev_name rfl) El_nil))) El_nil)))) (call_fmb (k := k) w L H (ids := [c, o]) (fun x hx => by
            simp at hx
            rcases hx with rfl | rfl
            · exact hcD
            · exact hD _ (List.mem_of_getElem? hc2)) (by simp))) Asg_name ?_)
          refine Hs_cons (H1_if (b := decide (mbL lcL [c, o] = [c])) (Et_cmp (Ev_name rfl) (Ev_list (El_cons (Ev_name rfl) El_nil)) (Op_eq (Eqr_bytl (l2 := [c])))) (fun hm => ?_) (fun hm => Hs_nil (Hs_nil ?_)))
          · refine Hs_cons (H1_assign Ev_bool Asg_name ?_)
            refine Hs_cons (H1_break ?_)
            have hbad := badTo_up hc2 hij (of_decide_eq_true hm)
            refine Hs_cons (H1_ifF (Et_plain (Ev_name rfl) Truth_bool) (Hs_nil (Hs_nil ?_)))
            refine ⟨out, ⟨i + 1, r, rfl, hdr', ?_, by lia, by lia⟩, Sub_weak ⟨rfl, rfl, rfl, rfl, rfl, trivial⟩ rfl⟩
            have e : indR lcL ids i (c :: r) = indR lcL ids (i + 1) r := by
              show (if _ then _ else _) ++ _ = _
              rw [if_pos hbad]; rfl
            rwa [e] at ho
          · exact ⟨(), ⟨j + 1, r2, rfl, hdr2', by rw [badTo_succ hc2, hb, hm]; simp, hjl'⟩, Sub_weak ⟨rfl, rfl, rfl, rfl, rfl, rfl, rfl, rfl, trivial⟩ rfl⟩
      · refine ex2_4 hI fun j r2 hr2 hdr2 hb hjl => ?_; try clear hI
        have := enm_nil hr2
        subst this
        have hj : j = ids.length := by
          have := List.drop_eq_nil_iff.mp hdr2
          lia
        have hbad : badAt lcL ids i c = false := by rw [hj] at hb; exact hb
        refine Hs_cons (H1_ifT (Et_plain (Ev_name rfl) Truth_bool) ?_)
        refine Hs_cons (H1_append rfl (Ev_name rfl) (by have hB : BIG = 1048576 := rfl; simp only [List.length_map]; lia) ?_)
        refine Hs_nil (Hs_nil ⟨out ++ [c], ⟨i + 1, r, rfl, hdr', ?_, by simp; lia, by lia⟩, Sub_weak ⟨congrArg Slot.lst (by simp), rfl, rfl, rfl, rfl, trivial⟩ rfl⟩)
        have e : indR lcL ids i (c :: r) = [c] ++ indR lcL ids (i + 1) r := by
          show (if _ then _ else _) ++ _ = _
          rw [if_neg (by rw [hbad]; decide)]
        rw [e, ← List.append_assoc] at ho
        exact ho
    · refine ex2_4 hI fun i r hr _ ho _ => ?_; try clear hI
      have := enm_nil hr
      subst this
      have ho : out = indR lcL ids 0 ids := by
        have e : indR lcL ids i [] = [] := rfl
        rw [e, List.append_nil] at ho; exact ho
      refine Ht.under (Sub_lst (Str.ofString "independent_commits") rfl) ?_
      exact Hs_cons (H1_return (Ev_name rfl) (.inl (by rw [ho])))
end
end Mine
namespace Mine

noncomputable abbrev nD (q : Nat) : D := .int (q : Int)
noncomputable abbrev rowD (r : List Nat) : D := .list (r.map nD)
noncomputable def hN (sc : List Int) (k : Nat) : Nat := ((sc[k]?.getD 0) % 1000000000).toNat
noncomputable def cand5 (n k : Nat) : List Nat := [n % (k + 2), n / 9 % 9, n / 81 % 9, n / 729 % 9, n / 6561 % 9]
noncomputable def rowS (k : Nat) (row : List Nat) (q : Nat) : List Nat := if q < k ∧ q ∉ row then row ++ [q] else row
noncomputable def rowF (n k : Nat) : List Nat := (cand5 n k).foldl (rowS k) []
noncomputable def maxL (l : List Int) : Int := l.foldl max (-1)
noncomputable def timF (times : List Int) (n : Nat) (row : List Nat) : Int := 1 + maxL (row.map fun q => times[q]?.getD 0) + ((n / 59049 % 3 * 1000003 : Nat) : Int)
noncomputable def histF (sc : List Int) : Nat → List (List Nat) × List Int
  | 0 => ([], [])
  | m + 1 => ((histF sc m).1 ++ [rowF (hN sc m) m], (histF sc m).2 ++ [timF (histF sc m).2 (hN sc m) (rowF (hN sc m) m)])
noncomputable def manyF (sc : List Int) : Nat := max 1 (min 7 sc.length)

theorem hist_len (sc : List Int) : ∀ m, (histF sc m).1.length = m ∧ (histF sc m).2.length = m
  | 0 => ⟨rfl, rfl⟩
  | m + 1 => by refine ex0_2 (hist_len sc m) fun a b => ?_; exact ⟨by simp [histF, a], by simp [histF, b]⟩
theorem foldmax : ∀ (l : List Int) (a : Int), (l.foldl max a ∈ a :: l) ∧ ∀ x ∈ a :: l, x ≤ l.foldl max a
  | [], a => ⟨.head _, fun x h => by rw [List.mem_singleton.mp h]; exact Int.le_refl _⟩
  | b :: l, a => by
    refine ex0_2 (foldmax l (max a b)) fun h1 h2 => ?_
    have h0 := h2 (max a b) (.head _)
    refine ⟨?_, fun x h => ?_⟩
    · rcases List.mem_cons.mp h1 with e | h
      · show l.foldl max (max a b) ∈ _
        rw [e]
        rcases Int.le_total a b with h | h
        · rw [Int.max_eq_right h]; exact .tail _ (.head _)
        · rw [Int.max_eq_left h]; exact .head _
      · exact .tail _ (.tail _ h)
    · show x ≤ l.foldl max (max a b)
      rcases List.mem_cons.mp h with rfl | h
      · exact Int.le_trans (Int.le_max_left _ _) h0
      · rcases List.mem_cons.mp h with rfl | h
        · exact Int.le_trans (Int.le_max_right _ _) h0
        · exact h2 x (.tail _ h)
theorem rowS_in {k q : Nat} {row : List Nat} (h : ∀ x ∈ row, x < k) : ∀ x ∈ rowS k row q, x < k := fun x hx => by
  unfold rowS at hx
  split at hx
  · rename_i hq
    rcases List.mem_append.mp hx with hx | hx
    · exact h x hx
    · simp at hx; subst hx; exact hq.1
  · exact h x hx
theorem rowF_in' {k : Nat} : ∀ (l row : List Nat), (∀ x ∈ row, x < k) → ∀ x ∈ l.foldl (rowS k) row, x < k
  | [], _, h => h
  | q :: l, _, h => rowF_in' l _ (rowS_in h)
theorem rowF_in (n k : Nat) : ∀ x ∈ rowF n k, x < k := rowF_in' _ _ (fun x h => by cases h)
theorem rowS_len (k : Nat) (row : List Nat) (q : Nat) : (rowS k row q).length ≤ row.length + 1 := by unfold rowS; split <;> simp
theorem rowF_len' (k : Nat) : ∀ (l row : List Nat), (l.foldl (rowS k) row).length ≤ row.length + l.length
  | [], _ => Nat.le_refl _
  | q :: l, row => by
    have := rowF_len' k l (rowS k row q)
    have := rowS_len k row q
    rw [List.foldl_cons, List.length_cons]; lia
theorem rowF_len (n k : Nat) : (rowF n k).length ≤ 5 := rowF_len' k (cand5 n k) []

noncomputable def inN (q : Nat) : D → Bool
  | .int i => decide (i = (q : Int))
  | _ => false
theorem inN_any (q : Nat) (l : List Nat) : (l.map nD).any (inN q) = decide (q ∈ l) := by
  rw [List.any_map, Bool.eq_iff_iff, List.any_eq_true, decide_eq_true_iff]
  constructor
  · intro zi1; refine ex1_2 zi1 fun b hb e => ?_; try clear zi1
    have : (b : Int) = q := of_decide_eq_true e
    have : b = q := by lia
    exact this ▸ hb
  · intro h; exact ⟨q, h, decide_eq_true rfl⟩
theorem inN_x {C : Cx} {q : Nat} {l : List Nat} : ∀ y ∈ l.map nD, Eqx C y (nD q) (inN q y) := fun y hy => by
  refine ex1_2 (List.mem_map.mp hy) fun b _ zq1 => ?_; subst zq1
  exact Eqv_int.x
theorem rng_nat : ∀ (m k : Nat), rng (k : Int) m = (List.range' k m).map nD
  | 0, k => rfl
  | m + 1, k => by
    have := rng_nat m (k + 1)
    show D.int k :: rng ((k : Int) + 1) m = _
    rw [show ((k : Int) + 1) = ((k + 1 : Nat) : Int) by lia, this]
    rfl

section
variable {C : Cx} {n : Lv} {sc : Sc} {ρ : Rho}
theorem Ev.to {e : Expr} {d d' : D} (h : Ev C n sc ρ e d) (q : d = d') : Ev C n sc ρ e d' := q ▸ h
theorem Eit.to {e t : Expr} {d d' : List D} (h : Eit C n sc ρ e t d) (q : d = d') : Eit C n sc ρ e t d' := q ▸ h
theorem H1_forn {t e : Expr} {bd : List Stmt} {pos : Pos} {N : Nat} {Q : Fl → Rho → Prop} (R : Nat → Rho) (hit : Eit C n sc ρ e t ((List.range' 0 N).map nD))
    (turn : ∀ m, m < N → ∃ ρ₁, Asg C n sc (R m) t (nD m) ρ₁ ∧ Hs C n sc ρ₁ bd (LoopQ C sc R (· = m + 1) Q)) (fin : Q .next (R N)) (hn : n.h = false) (h0 : Sub C sc ρ (R 0))
    (hs : ∀ env x, foldedSetIterable e env x = pure x := by intro _ _; rfl) : H1 C n sc ρ (.For t e bd [] pos) Q :=
  H1_form (fun r m => r = List.range' m (N - m) ∧ m ≤ N) R hit (fun a r m h => by
    cases hk : N - m with
    | zero => have e := h.1; rw [hk] at e; exact absurd e (List.cons_ne_nil _ _)
    | succ k =>
      have e := h.1
      rw [hk] at e
      obtain ⟨rfl, rfl⟩ := List.cons.inj e
      exact (turn a (by lia)).imp fun ρ₁ q => ⟨q.1, q.2.mono fun _ _ => LoopQ.mono fun j z => by
        subst z
        exact ⟨congrArg (List.range' (a + 1)) (by lia), by lia⟩⟩) (fun m h => by
    have e : m = N := by
      have := congrArg List.length h.1
      rw [List.length_nil, List.length_range'] at this
      have := h.2
      lia
    exact e ▸ fin) hn 0 ⟨rfl, Nat.zero_le _⟩ h0 hs
theorem Op_modN {a b : Nat} (h : 0 < b) : Op2 C n (binaryOp .Mod) (nD a) (nD b) (nD (a % b)) := by
  have := Op_mod (C := C) (n := n) (a := (a : Int)) (b := (b : Int)) (by lia)
  rwa [← Int.natCast_emod] at this
theorem Op_divN {a b : Nat} (h : 0 < b) (hb : b < 2 ^ 60) : Op2 C n (binaryOp .FloorDiv) (nD a) (nD b) (nD (a / b)) := by
  have := Op_div (C := C) (n := n) (a := (a : Int)) (b := (b : Int)) (by lia) (by lia)
  rwa [← Int.natCast_ediv] at this
theorem Op_addN {a b : Nat} : Op2 C n (binaryOp .Add) (nD a) (nD b) (nD (a + b)) := Op_add (C := C) (n := n) (a := (a : Int)) (b := (b : Int))
theorem Op_mulN {a b : Nat} (h : IntMulOk (a : Int) (b : Int)) : Op2 C n (binaryOp .Mult) (nD a) (nD b) (nD (a * b)) := by
  have := Op_mul (C := C) (n := n) h
  rwa [← Int.natCast_mul] at this
theorem Ev_nat {i : Nat} {k pos} : Ev C n sc ρ (.Constant (.int (Int.ofNat i)) k pos) (nD i) := Ev_int
end

section
variable {C : Cx} {k : Nat}
noncomputable abbrev rhoH (s0 : List Int) (m : Nat) : Rho := [("times", .lst ((histF s0 m).2.map .int)), ("parents", .lst ((histF s0 m).1.map rowD)), ("script", .val (.list (s0.map .int)))]

theorem hist_walk {cp : Option (Addr × Addr)} {s0 : List Int} (hz : s0.length ≤ 1000) : Hs C ⟨k, false⟩ (scOf 10 "_law_history.<locals>." cp) (bindsRho [] [("script", .list (s0.map .int))]) (bodyOf 10) (RetQ (.tup [.list ((histF s0 (manyF s0)).1.map rowD), .list ((histF s0 (manyF s0)).2.map .int)])) := by
  have hB : BIG = 1048576 := rfl
  refine Hs_cons (H1_newlist El_nil ?_)
  refine Hs_cons (H1_newlist El_nil ?_)
  have hm : ((if (if (s0.map D.int).length < (7 : Int) then ((s0.map D.int).length : Int) else 7) > (1 : Int) then (if (s0.map D.int).length < (7 : Int) then ((s0.map D.int).length : Int) else 7) else 1) : Int) = ((manyF s0 : Nat) : Int) := by
    unfold manyF
    rw [List.length_map]
    split <;> split <;> lia
  have hmy : manyF s0 ≤ 7 := by unfold manyF; lia
  refine Hs_cons (H1_forn (N := manyF s0) (fun m => rhoH s0 m)
    (Eit.to (Eit_range (Ev_bi rfl (El_cons Ev_int (El_cons (Ev_bi rfl (El_cons Ev_int (El_cons (Ev_bi rfl (El_cons (Ev_name rfl) El_nil) Call_len) El_nil)) (Call_min2 (hn := rfl))) El_nil)) (Call_max2 (hn := rfl))) (by rw [hm]; lia) (by rw [hm]; lia)) (by rw [hm]; exact rng_nat _ 0)) (fun m hlt => ?_) ?_ rfl Sub.refl)
  · refine ex0_2 (hist_len s0 m) fun hl1 hl2 => ?_
    refine ⟨_, Asg_name, ?_⟩
    refine Hs_cons (H1_assign (d := nD (hN s0 m)) ?_ Asg_name ?_)
    · refine Ev_if (c := !(s0.map D.int).isEmpty) (Et_plain (Ev_name rfl) Truth_list) (fun hc => by
        have hls : m < s0.length := by
          have h0 : s0.length ≠ 0 := by
            intro e
            rw [List.length_eq_zero_iff.mp e] at hc; cases hc
          unfold manyF at hlt; lia
        refine (Ev_bin (Ev_sub_list (d := .int (s0[m]?.getD 0)) (Ev_name rfl) (Ev_name rfl) (by lia) ?_) (Ev_bin Ev_int Ev_int (Op_pow (by decide) (by decide) (by decide))) (Op_mod (by decide))).to ?_
        · rw [List.getElem?_map]
          show Option.map D.int (s0[m]?) = _
          rw [List.getElem?_eq_getElem hls]; rfl
        · show D.int (s0[m]?.getD 0 % 10 ^ 9) = D.int _
          unfold hN
          congr 1
          have : (0 : Int) ≤ s0[m]?.getD 0 % 1000000000 := Int.emod_nonneg _ (by decide)
          show s0[m]?.getD 0 % 1000000000 = _
          lia) (fun hc => by
        have hls : s0 = [] := by
          cases s0 with
          | nil => rfl
          | cons a l => cases hc
        subst hls
        exact Ev_int)
    refine Hs_cons (H1_newlist El_nil ?_)
    refine Hs_cons (H1_form (σ := List Nat) (g := nD) (l := (cand5 (hN s0 m) m)) (fun l row => l.foldl (rowS m) row = rowF (hN s0 m) m ∧ row.length + l.length ≤ 5)
      (fun row => ("row", .lst (row.map nD)) :: ("n", .val (nD (hN s0 m))) :: ("k", .val (nD m)) :: rhoH s0 m)
      (Eit_list (Ev_list (El_cons (Ev_bin (Ev_name rfl) (Ev_bin (Ev_name rfl) Ev_nat Op_addN) (Op_modN (Nat.succ_pos _))) (El_cons (Ev_bin (Ev_bin (Ev_name rfl) Ev_nat (Op_divN (by decide) (by decide))) Ev_nat (Op_modN (by decide))) (El_cons (Ev_bin (Ev_bin (Ev_name rfl) Ev_nat (Op_divN (by decide) (by decide))) Ev_nat (Op_modN (by decide)))
        (El_cons (Ev_bin (Ev_bin (Ev_name rfl) Ev_nat (Op_divN (by decide) (by decide))) Ev_nat (Op_modN (by decide))) (El_cons (Ev_bin (Ev_bin (Ev_name rfl) Ev_nat (Op_divN (by decide) (by decide))) Ev_nat (Op_modN (by decide))) El_nil)))))) (fun _ => letGo_name)) (fun q l row hI => ?_) (fun row hI => ?_) rfl [] ⟨rfl, by simp [cand5]⟩ Sub.refl)
    · refine ex0_2 hI fun hf hz => ?_; try clear hI
      simp only [List.length_cons] at hz
      have hr := rowS_len m row q
      rw [List.foldl_cons] at hf
      refine ⟨_, Asg_name, ?_⟩
      refine Hs_cons (H1_if (b := decide ((q : Int) < (m : Int)) && (!(row.map nD).any (inN q) && true)) (Et_bool (Ea_and (Et_cmp (Ev_name rfl) (Ev_name rfl) Op_lt) fun _ => Ea_and (Et.under (Sub_lst (Str.ofString "row") rfl) (Et_cmp (Ev_name rfl) (Ev_name rfl) (Op_notin (f := inN q) inN_x))) fun _ => Ea_and_nil)) (fun h => ?_) (fun h => Hs_nil (Hs_nil ?_)))
      · rw [inN_any, Bool.and_true, Bool.and_eq_true] at h
        have e : rowS m row q = row ++ [q] := by
          unfold rowS
          rw [if_pos ⟨by have := of_decide_eq_true h.1; lia, by have := h.2; simpa using this⟩]
        rw [e] at hf hr
        refine Hs_cons (H1_append rfl (Ev_name rfl) (by show (row.map nD).length + 1 ≤ BIG; rw [List.length_map]; lia) (Hs_nil (Hs_nil ?_)))
        exact ⟨row ++ [q], ⟨hf, by rw [List.length_append, List.length_singleton]; lia⟩, Sub_weak ⟨congrArg Slot.lst (by simp), rfl, rfl, rfl, rfl, rfl, trivial⟩ rfl⟩
      · rw [inN_any, Bool.and_true] at h
        have e : rowS m row q = row := by
          unfold rowS
          rw [if_neg]
          intro zi2; refine ex0_2 zi2 fun h1 h2 => ?_; try clear zi2
          rw [decide_eq_true (by lia), decide_eq_false h2] at h; cases h
        rw [e] at hf
        exact ⟨row, ⟨hf, by lia⟩, Sub_weak ⟨rfl, rfl, rfl, rfl, rfl, rfl, trivial⟩ rfl⟩
    · refine ex0_2 hI fun hf _ => ?_; try clear hI
      have hf : row = rowF (hN s0 m) m := hf
      have hrl := rowF_len (hN s0 m) m
      have hri := rowF_in (hN s0 m) m
      rw [← hf] at hrl hri
      refine Ht.under (Sub_lst (Str.ofString "row") rfl) ?_
      refine Hs_cons (H1_append rfl (Ev_name rfl) (by show ((histF s0 m).1.map rowD).length + 1 ≤ BIG; rw [List.length_map]; lia) ?_)
      refine Hs_cons (H1_append (d := .int (timF (histF s0 m).2 (hN s0 m) row)) rfl ?_ (by show ((histF s0 m).2.map D.int).length + 1 ≤ BIG; rw [List.length_map]; lia) (Hs_nil ?_))
      · refine (Ev_bin (Ev_bin Ev_int (Ev.under (Sub_lst (Str.ofString "times") rfl) (Ev_bi rfl (El_cons (Ev.to (d' := .list ((-1 :: row.map fun q => (histF s0 m).2[q]?.getD 0).map .int)) (Ev_bin (Ev_list (El_cons (Ev_neg Ev_int) El_nil)) (Ev_comp (ds := row.map nD) (fun _ => true) (fun d => match d with | .int i => .int ((histF s0 m).2[i.toNat]?.getD 0) | _ => .none) (Eit_list (Ev_name rfl) (fun _ => letGo_name)) (by rfl) (by rfl) (fun d hd => ?_) (by rw [List.length_map]; lia) rfl) (Op_cat ?_)) ?_) El_nil) (Call_max (M := maxL (row.map fun q => (histF s0 m).2[q]?.getD 0)) (foldmax _ _).1 (foldmax _ _).2 (hn := rfl)))) Op_add)
          (Ev_bin (Ev_bin (Ev_bin (Ev_name rfl) Ev_nat (Op_divN (by decide) (by decide))) Ev_nat (Op_modN (by decide))) Ev_nat (Op_mulN (.of_right (by decide)))) Op_add).to rfl
        · refine ex1_2 (List.mem_map.mp hd) fun q hq zq2 => ?_; subst zq2
          have hql := hri q hq
          refine ⟨_, Asg_name, Wk_weak ⟨rfl, trivial⟩ rfl, Tst_nil, fun _ => Ev_sub_list (Ev_namee rfl) (Ev_name rfl) (by lia) ?_⟩
          show ((histF s0 m).2.map D.int)[q]? = some (.int ((histF s0 m).2[q]?.getD 0))
          rw [List.getElem?_map, List.getElem?_eq_getElem (by lia)]; rfl
        · have : ((row.map nD).filter (fun _ => true)).length ≤ (row.map nD).length := List.length_filter_le _ _
          rw [List.length_map] at this ⊢
          rw [List.length_cons, List.length_nil]; lia
        · rw [List.filter_eq_self.mpr (fun _ _ => rfl), List.map_map, List.map_cons, List.map_map]
          rfl
      subst hf
      refine ⟨m + 1, rfl, Sub_weak ⟨congrArg Slot.lst ?_, congrArg Slot.lst ?_, rfl, trivial⟩ rfl⟩
      · show _ = ((histF s0 m).2 ++ [_]).map D.int
        rw [List.map_append]; rfl
      · show _ = ((histF s0 m).1 ++ [_]).map rowD
        rw [List.map_append]; rfl
  · refine Ht.under (Sub_lst (Str.ofString "parents") rfl) ?_
    refine Ht.under (Sub_lst (Str.ofString "times") rfl) ?_
    exact Hs_cons (H1_return (Ev_tuple (El_cons (Ev_name rfl) (El_cons (Ev_name rfl) El_nil))) (.inl rfl))

theorem call_hist (w : Wd C) {s0 : List Int} (hz : s0.length ≤ 1000) : CallB C ⟨k + 1, false⟩ (.ref w.a10) [.list (s0.map .int)] (.tup [.list ((histF s0 (manyF s0)).1.map rowD), .list ((histF s0 (manyF s0)).2.map .int)]) := by
  refine CallB_fn (n := ⟨k, false⟩) (names := [Str.ofString "script"]) w.g10 (fun {kV doc pm ct an c vs} hv => ?_) rfl (by rfl) (hist_walk hz)
  refine ex1_1 (len1 hv) fun a zq3 => ?_; subst zq3; exact rfl
end
end Mine
namespace Mine

noncomputable def qS (gone : List Nat) (line : List Nat) (q : Nat) : List Nat := if q ∉ gone ∧ q ∉ line then line ++ [q] else line
noncomputable def placeS (ps : List (List Nat)) (gone line : List Nat) (place : Nat) : List Nat := if line[place]?.getD 0 ∉ gone then (ps[line[place]?.getD 0]?.getD []).foldl (qS gone) line else line
noncomputable def lineG (ps : List (List Nat)) (gone : List Nat) : Nat → List Nat → Nat → List Nat
  | 0, line, _ => line
  | f + 1, line, place => if place < line.length then lineG ps gone f (placeS ps gone line place) (place + 1) else line
noncomputable def lineF (ps : List (List Nat)) (gone : List Nat) (k : Nat) : List Nat := lineG ps gone (ps.length + 1) [k] 0

theorem nodup_len : ∀ (m : Nat) (l : List Nat), l.Nodup → (∀ x ∈ l, x < m) → l.length ≤ m
  | 0, l, _, h => by
    cases l with
    | nil => exact Nat.le_refl _
    | cons a l => exact absurd (h a (.head _)) (by lia)
  | m + 1, l, nd, h => by
    have h1 := nodup_len m (l.erase m) (nd.erase m) fun x hx => by
      refine ex0_2 (nd.mem_erase_iff.mp hx) fun a b => ?_
      have := h x b
      lia
    have h2 : l.length ≤ (l.erase m).length + 1 := by
      rw [List.length_erase]; split <;> lia
    lia

structure LnOk (M : Nat) (l : List Nat) : Prop where
  nd : l.Nodup
  lt : ∀ x ∈ l, x < M
theorem LnOk.len {M : Nat} {l : List Nat} (h : LnOk M l) : l.length ≤ M := nodup_len M l h.nd h.lt
theorem LnOk.q {M : Nat} {l gone : List Nat} (h : LnOk M l) {q : Nat} (hq : q < M) : LnOk M (qS gone l q) := by
  unfold qS
  split
  · rename_i h2
    refine ⟨List.nodup_append.mpr ⟨h.nd, by simp, fun a ha b hb => by simp at hb; subst hb; rintro rfl; exact h2.2 ha⟩, fun x hx => ?_⟩
    rcases List.mem_append.mp hx with hx | hx
    · exact h.lt x hx
    · simp at hx; subst hx; exact hq
  · exact h
theorem LnOk.fold {M : Nat} {gone : List Nat} : ∀ {r l : List Nat}, LnOk M l → (∀ x ∈ r, x < M) → LnOk M (r.foldl (qS gone) l)
  | [], _, h, _ => h
  | q :: r, _, h, hr => LnOk.fold (r := r) (h.q (hr q (.head _))) fun x hx => hr x (.tail _ hx)
theorem LnOk.place {M : Nat} {gone : List Nat} {ps : List (List Nat)} {l : List Nat} (h : LnOk M l) (hp : ∀ (i : Nat) (r : List Nat), ps[i]? = some r → ∀ x ∈ r, x < M) (i : Nat) : LnOk M (placeS ps gone l i) := by
  unfold placeS
  split
  · refine h.fold fun x hx => ?_
    cases e : ps[l[i]?.getD 0]? with
    | none => rw [e] at hx; cases hx
    | some r => rw [e] at hx; exact hp _ _ e x hx
  · exact h
theorem lineG_stop {ps : List (List Nat)} {gone : List Nat} {f : Nat} {l : List Nat} {i : Nat} (h : l.length ≤ i) : lineG ps gone f l i = l := by
  cases f with
  | zero => rfl
  | succ f => show (if _ then _ else _) = _; rw [if_neg (by lia)]

section
variable {C : Cx} {k : Nat}
noncomputable abbrev rhoE (ps : List (List Nat)) (gone : List Nat) (k0 : Nat) : Rho := [("k", .val (nD k0)), ("gone", .val (rowD gone)), ("parents", .val (.list (ps.map rowD)))]

theorem line_walk {cp : Option (Addr × Addr)} {ps : List (List Nat)} {gone : List Nat} {k0 : Nat} (hk : k0 < ps.length) (hz : ps.length ≤ 1000) (hp : ∀ (i : Nat) (r : List Nat), ps[i]? = some r → ∀ x ∈ r, x < ps.length) :
    Hs C ⟨k, false⟩ (scOf 11 "_law_line.<locals>." cp) (bindsRho [] ([Str.ofString "parents", Str.ofString "gone", Str.ofString "k"].zip [.list (ps.map rowD), rowD gone, nD k0])) (bodyOf 11) (RetQ (rowD (lineF ps gone k0))) := by
  have hB : BIG = 1048576 := rfl
  refine Hs_cons (H1_newlist (El_cons (Ev_name rfl) El_nil) ?_)
  refine Hs_cons (H1_assign (Ev_nat (i := 0)) Asg_name ?_)
  refine Hs_cons (H1_while (σ := List Nat × Nat) (fun s => LnOk ps.length s.1 ∧ ∃ f, lineG ps gone f s.1 s.2 = lineF ps gone k0 ∧ f + s.2 = ps.length + 1) (fun s => ("place", .val (nD s.2)) :: ("line", .lst (s.1.map nD)) :: rhoE ps gone k0) (fun s => ps.length + 1 - s.2)
    (fun s hI => ?_) ([k0], 0) ⟨⟨by simp, fun x hx => by simp at hx; subst hx; exact hk⟩, ps.length + 1, rfl, rfl⟩ Sub.refl)
  obtain ⟨line, place⟩ := s
  refine ex0_2 hI fun hl zq1 => ?_; try clear hI; refine ex1_2 zq1 fun f hf hfp => ?_; try clear zq1
  dsimp only at hl hf hfp
  have hlen := hl.len
  refine ⟨decide ((place : Int) < ((line.map nD).length : Int)), Et.under (Sub_lst (Str.ofString "line") rfl) (Et_cmp (Ev_name rfl) (Ev_bi rfl (El_cons (Ev_name rfl) El_nil) Call_len) Op_lt), fun hb => ?_, fun hb => ?_⟩
  · have hpl : place < line.length := by have := of_decide_eq_true hb; rw [List.length_map] at this; lia
    obtain ⟨f, rfl⟩ : ∃ f', f = f' + 1 := ⟨f - 1, by lia⟩
    have hf : lineG ps gone f (placeS ps gone line place) (place + 1) = lineF ps gone k0 := by rw [← hf]; show _ = (if _ then _ else _); rw [if_pos hpl]
    have hget : line[place]? = some (line[place]?.getD 0) := by rw [List.getElem?_eq_getElem hpl]; rfl
    generalize hc : line[place]?.getD 0 = c at hget
    have hcl : c < ps.length := hl.lt c (List.mem_of_getElem? hget)
    have hgD : (line.map nD)[((place : Nat) : Int).toNat]? = some (nD c) := by
      rw [List.getElem?_map]; show Option.map nD (line[place]?) = _; rw [hget]; rfl
    have hps : ps[c]? = some (ps[c]?.getD []) := by rw [List.getElem?_eq_getElem hcl]; rfl
    generalize hr : ps[c]?.getD [] = r at hps
    have hrl := hp c r hps
    have hpl' : LnOk ps.length (placeS ps gone line place) := hl.place hp place
    have last : Hs C ⟨k, false⟩ (scOf 11 "_law_line.<locals>." cp) (("place", .val (nD place)) :: ("line", .lst ((placeS ps gone line place).map nD)) :: rhoE ps gone k0) ((wBody ((bodyOf 11).getD 2 (.Pass ⟨0, 0, 0, 0⟩))).drop 1)
        (LoopQ C (scOf 11 "_law_line.<locals>." cp) (fun s : List Nat × Nat => ("place", .val (nD s.2)) :: ("line", .lst (s.1.map nD)) :: rhoE ps gone k0) (fun s => (LnOk ps.length s.1 ∧ ∃ f, lineG ps gone f s.1 s.2 = lineF ps gone k0 ∧ f + s.2 = ps.length + 1) ∧ ps.length + 1 - s.2 < ps.length + 1 - place)
          (fun fl ρ' => match fl with | .next => Hs C ⟨k, false⟩ (scOf 11 "_law_line.<locals>." cp) ρ' ((bodyOf 11).drop 3) (RetQ (rowD (lineF ps gone k0))) | fl => (RetQ (rowD (lineF ps gone k0))) fl ρ')) := by
      refine Hs_cons (H1_iadd rfl (Ev_nat (i := 1)) (Hs_nil ?_))
      refine ⟨(placeS ps gone line place, place + 1), ⟨⟨hpl', f, hf, by dsimp only; lia⟩, by dsimp only; lia⟩, Sub_weak ⟨rfl, rfl, rfl, rfl, rfl, trivial⟩ rfl⟩
    refine Hs_cons (H1_if (b := !(gone.map nD).any (inN c)) (Et.under (Sub_lst (Str.ofString "line") rfl) (Et_cmp (Ev_sub_list (Ev_name rfl) (Ev_name rfl) (by lia) hgD) (Ev_name rfl) (Op_notin (f := inN c) inN_x))) (fun hb => ?_) (fun hb => Hs_nil ?_))
    · rw [inN_any] at hb
      have hcg : c ∉ gone := by simpa using hb
      have e : placeS ps gone line place = r.foldl (qS gone) line := by unfold placeS; rw [hc, if_pos hcg, hr]
      refine Hs_cons (H1_form (σ := List Nat) (g := nD) (l := r) (fun r' l => (∀ x ∈ r', x < ps.length) ∧ LnOk ps.length l ∧ r'.foldl (qS gone) l = placeS ps gone line place) (fun l => ("place", .val (nD place)) :: ("line", .lst (l.map nD)) :: rhoE ps gone k0)
        (Eit_list (Ev_sub_list (Ev_name rfl) (Ev.under (Sub_lst (Str.ofString "line") rfl) (Ev_sub_list (Ev_name rfl) (Ev_name rfl) (by lia) hgD)) (by lia) (by rw [List.getElem?_map]; show Option.map rowD (ps[c]?) = _; rw [hps]; rfl)) (fun _ => letGo_name)) (fun q r' l hJ => ?_) (fun l hJ => ?_) rfl line ⟨hrl, hl, e.symm⟩ Sub.refl)
      · refine ex0_3 hJ fun hx hl' hf' => ?_; try clear hJ
        rw [List.foldl_cons] at hf'
        have hlen' := hl'.len
        have hq := hl'.q (gone := gone) (hx q (.head _))
        have hx' : ∀ x ∈ r', x < ps.length := fun x h => hx x (.tail _ h)
        refine ⟨_, Asg_name, ?_⟩
        refine Hs_cons (H1_if (b := !(gone.map nD).any (inN q) && (!(l.map nD).any (inN q) && true)) (Et_bool (Ea_and (Et_cmp (Ev_name rfl) (Ev_name rfl) (Op_notin (f := inN q) inN_x)) fun _ => Ea_and (Et.under (Sub_lst (Str.ofString "line") rfl) (Et_cmp (Ev_name rfl) (Ev_name rfl) (Op_notin (f := inN q) inN_x))) fun _ => Ea_and_nil)) (fun h => ?_) (fun h => Hs_nil (Hs_nil ?_)))
        · rw [inN_any, inN_any, Bool.and_true, Bool.and_eq_true] at h
          have e : qS gone l q = l ++ [q] := by unfold qS; rw [if_pos (by simpa using h)]
          rw [e] at hf' hq
          refine Hs_cons (H1_append rfl (Ev_name rfl) (by show (l.map nD).length + 1 ≤ BIG; rw [List.length_map]; lia) (Hs_nil (Hs_nil ?_)))
          exact ⟨l ++ [q], ⟨hx', hq, hf'⟩, Sub_weak ⟨rfl, congrArg Slot.lst (by simp), rfl, rfl, rfl, trivial⟩ rfl⟩
        · rw [inN_any, inN_any, Bool.and_true] at h
          have e : qS gone l q = l := by
            unfold qS
            rw [if_neg]
            intro zi1; refine ex0_2 zi1 fun h1 h2 => ?_; try clear zi1
            rw [decide_eq_false h1, decide_eq_false h2] at h; cases h
          rw [e] at hf'
          exact ⟨l, ⟨hx', hl', hf'⟩, Sub_weak ⟨rfl, rfl, rfl, rfl, rfl, trivial⟩ rfl⟩
      · refine ex0_3 hJ fun hx hl' hf' => ?_; try clear hJ
        have hf' : l = placeS ps gone line place := hf'
        subst hf'
        exact Hs_nil last
    · rw [inN_any] at hb
      have hcg : c ∈ gone := by simpa using hb
      have e : placeS ps gone line place = line := by unfold placeS; rw [hc, if_neg (fun z => z hcg)]
      rw [e] at last
      exact last
  · have hpl : line.length ≤ place := by have := of_decide_eq_false hb; rw [List.length_map] at this; lia
    rw [lineG_stop hpl] at hf
    refine Ht.under (Sub_lst (Str.ofString "line") rfl) ?_
    exact Hs_cons (H1_return (Ev_name rfl) (.inl (by rw [hf])))

theorem call_line (w : Wd C) {ps : List (List Nat)} {gone : List Nat} {k0 : Nat} (hk : k0 < ps.length) (hz : ps.length ≤ 1000) (hp : ∀ (i : Nat) (r : List Nat), ps[i]? = some r → ∀ x ∈ r, x < ps.length) : CallB C ⟨k + 1, false⟩ (.ref w.a11) [.list (ps.map rowD), rowD gone, nD k0] (rowD (lineF ps gone k0)) := by
  refine CallB_fn (n := ⟨k, false⟩) (names := [Str.ofString "parents", Str.ofString "gone", Str.ofString "k"]) w.g11 (fun {kV doc pm ct an c vs} hv => ?_) rfl (by rfl) (line_walk hk hz hp)
  refine ex3_1 (len3 hv) fun a b c zq2 => ?_; subst zq2; exact rfl
end
end Mine
namespace Mine

noncomputable def atL (lines : List (List Nat)) (d : Nat) : List Nat := lines[d]?.getD []
noncomputable def cmT (lines : List (List Nat)) (others : List Nat) (c : Nat) : Bool := decide (0 < (others.filter fun d => decide (c ∈ atL lines d)).length)
noncomputable def cmF (lines : List (List Nat)) (first : Nat) (others : List Nat) : List Nat := (atL lines first).filter (cmT lines others)
noncomputable def bsT (lines : List (List Nat)) (common : List Nat) (c : Nat) : Bool := decide ((common.filter fun d => decide (d ≠ c) && decide (c ∈ atL lines d)).length = 0)
noncomputable def bsF (lines : List (List Nat)) (common : List Nat) : List Nat := common.filter (bsT lines common)
noncomputable def ltN (hours : List Int) (x y : Nat) : Bool := ltI (hours[x]?.getD 0, nm x) (hours[y]?.getD 0, nm y)
noncomputable def bestF (lines : List (List Nat)) (hours : List Int) (first : Nat) (others : List Nat) : List Nat := srt (ltN hours) (bsF lines (cmF lines first others))

section
variable {C : Cx} {n : Lv} {sc : Sc} {ρ : Rho}
theorem swaps_cell {env : Env} {x : Str} {p : Pos} {line : Nat} {elt : Expr} {gens : List Comprehension} {scope : Scope} {pos : Pos} (h1 : env.scope.kind = .function) (h2 : env.kindOf x = some .cell) :
    swapsWith (.ListComp elt gens scope pos) (some (.Name x p)) line env = pure false := by
  show pure (env.blockKind == .function && env.kindOf x == some .local && p.line == _ && _) = pure false
  rw [h2]
  have : ((some NameKind.cell : Option NameKind) == some .local) = false := rfl
  rw [this]; simp
theorem Et.to {e : Expr} {b b' : Bool} (h : Et C n sc ρ e b) (q : b = b') : Et C n sc ρ e b' := q ▸ h
theorem H1_asgcell {x : Str} {p1 pos spos : Pos} {elt : Expr} {gens : List Comprehension} {scope : Scope} {d : D} {Q : Fl → Rho → Prop} (h1 : Ev C n sc ρ (.ListComp elt gens scope pos) d) (q : Q .next ((x, .val d) :: ρ))
    (hk : sc.scope.names.lookup x = some .cell := by rfl) (hf : (ρ.get x).capt = false := by rfl)
    (hw : ∀ env, swappedStores [.Name x p1] (.ListComp elt gens scope pos) env = pure none := by intro env; rfl) : H1 C n sc ρ (.Assign [.Name x p1] (.ListComp elt gens scope pos) spos) Q := fun A env X M s S e m tp =>
  wpAny_Assign_stores (wp_false (h1 A env X M s S e m) fun v' s1 zq9 => ex0_2 zq9 fun n1 r1 => by
    have he : assignAll v' ((assignEach [.Name x p1] env).map (·.2)) = assign (.Name x p1) env v' := rfl
    rw [he]
    exact wp_false (Asg_name (by rw [hk]; rfl) hf A env X M s1 v' (S.next n1) e (m.nx n1 S.ok) r1) fun _ s2 zq10 => ex0_3 zq10 fun o2 m2 k2 => ⟨.next, _, X, M, q, trivial, .of m2 ((Kq.of_kp n1.k).trans k2) o2⟩) (swaps_cell (line := spos.line) m.kind (names_loc e hk)) (hw env)

theorem call_name (w : Wd C) {k : Nat} {i : Int} : CallB C ⟨k + 1, false⟩ (.ref w.a9) [.int i] (.byt (nm i)) := by
  refine CallB_fn (n := ⟨k, false⟩) (names := [Str.ofString "k"]) w.g9 (fun {kV doc pm ct an c vs} hv => ?_) rfl (by rfl) (law_name_walk rfl none)
  refine ex1_1 (len1 hv) fun a zq1 => ?_; subst zq1; exact rfl
theorem fm_nat {l : List Nat} {p : D → Bool} {f : D → D} : ((l.map nD).filter p).map f = (l.filter fun q => p (nD q)).map fun q => f (nD q) := by
  rw [List.filter_map, List.map_map]; rfl
theorem inlen {l : List Nat} {p : D → Bool} {f : D → D} : (((l.map nD).filter p).map f).length = (l.filter fun q => p (nD q)).length := by rw [fm_nat, List.length_map]
end

noncomputable def pN (p : Nat → Bool) : D → Bool
  | .int i => p i.toNat
  | _ => false

section
variable {C : Cx} {k : Nat}

theorem lines_get {lines : List (List Nat)} {d : Nat} (h : d < lines.length) : (lines.map rowD)[((d : Nat) : Int).toNat]? = some (rowD (atL lines d)) := by
  show (lines.map rowD)[d]? = _
  rw [List.getElem?_map, List.getElem?_eq_getElem h]
  unfold atL
  rw [List.getElem?_eq_getElem h]; rfl
theorem hours_get {hours : List Int} {d : Nat} (h : d < hours.length) : (hours.map D.int)[((d : Nat) : Int).toNat]? = some (.int (hours[d]?.getD 0)) := by
  show (hours.map D.int)[d]? = _
  rw [List.getElem?_map, List.getElem?_eq_getElem h]; rfl

theorem best_walk (w : Wd C) {lines : List (List Nat)} {hours : List Int} {first : Nat} {others : List Nat} (hf : first < lines.length) (ho : ∀ d ∈ others, d < lines.length) (hh : hours.length = lines.length) (hl : ∀ d, d < lines.length → ∀ c ∈ atL lines d, c < lines.length)
    (hz : ∀ d, (atL lines d).length ≤ 1000) (hzo : others.length ≤ 1000) (hask : Askd (ltN hours) (bsF lines (cmF lines first others))) (h64 : (bsF lines (cmF lines first others)).length < 64) (hs : (bestF lines hours first others).length ≤ 1000) :
    Hs C ⟨k + 3, false⟩ (scOf 12 "_law_best.<locals>." (some (w.c12, w.P12))) (bindsRho [] ([Str.ofString "lines", Str.ofString "times", Str.ofString "first", Str.ofString "others"].zip [.list (lines.map rowD), .list (hours.map .int), nD first, rowD others])) (bodyOf 12) (RetQ (.list ((bestF lines hours first others).map fun c : Nat => .byt (nm c)))) := by
  have hB : BIG = 1048576 := rfl
  have hcm : ∀ c ∈ cmF lines first others, c < lines.length := fun c hc => hl first hf c (List.mem_filter.mp hc).1
  have hcl : (cmF lines first others).length ≤ 1000 := Nat.le_trans (List.length_filter_le _ _) (hz first)
  refine Hs_cons (H1_asgcell (Ev.to (d' := rowD (cmF lines first others)) (Ev_comp (ds := (atL lines first).map nD) (pN (cmT lines others)) id (Eit_list (Ev_sub_list (Ev_name rfl) (Ev_name rfl) (by lia) (lines_get hf)) (fun _ => letGo_name)) (by rfl) (by rfl) (fun d hd => ?_) (by rw [List.length_map]; have := hz first; lia) rfl) ?_) ?_)
  · refine ex1_2 (List.mem_map.mp hd) fun c hc zq2 => ?_; subst zq2
    refine ⟨_, Asg_name, Wk_weak ⟨rfl, rfl, trivial⟩ rfl, Tst_one ?_, fun _ => Ev_name rfl⟩
    refine Et.to (Et_cmp (Ev_bi rfl (El_cons (Ev_comp (ds := others.map nD) (pN fun d => decide (c ∈ atL lines d)) id (Eit_list (Ev_namee rfl) (fun _ => letGo_name)) (by rfl) (by rfl) (fun d hd => ?_) (by rw [List.length_map]; lia) rfl) El_nil) Call_len) Ev_int Op_gt) ?_
    · refine ex1_2 (List.mem_map.mp hd) fun d hd' zq3 => ?_; subst zq3
      refine ⟨_, Asg_name, Wk_weak ⟨rfl, rfl, trivial⟩ rfl, Tst_one (Et.to (Et_cmp (Ev_namee rfl) (Ev_sub_list (Ev_namee rfl) (Ev_name rfl) (by lia) (lines_get (ho d hd'))) (Op_in (f := inN c) inN_x)) ?_), fun _ => Ev_name rfl⟩
      rw [inN_any]; rfl
    · rw [inlen]; unfold pN cmT
      rw [Bool.eq_iff_iff, decide_eq_true_iff]
      show _ ↔ decide (0 < (others.filter fun d => decide (c ∈ atL lines d)).length) = true
      rw [decide_eq_true_iff]
      show (0 : Int) < ((others.filter fun d => decide (c ∈ atL lines d)).length : Int) ↔ _
      lia
  · rw [fm_nat]; rfl
  refine Hs_cons (H1_asgcomp (ds := (cmF lines first others).map nD) (pN (bsT lines (cmF lines first others))) id (Eit_list (Ev_name rfl) (fun _ => letGo_name)) (by rfl) (by rfl) (fun d hd => ?_) (by rw [List.length_map]; lia) rfl ?_ (hsw := ?_))
  · refine ex1_2 (List.mem_map.mp hd) fun c hc zq4 => ?_; subst zq4
    refine ⟨_, Asg_name, Wk_weak ⟨rfl, rfl, trivial⟩ rfl, Tst_one ?_, fun _ => Ev_name rfl⟩
    refine Et.to (Et_cmp (Ev_bi rfl (El_cons (Ev_comp (ds := (cmF lines first others).map nD) (pN fun d => decide (d ≠ c) && decide (c ∈ atL lines d)) id (Eit_list (Ev_namee rfl) (fun _ => letGo_name)) (by rfl) (by rfl) (fun d hd => ?_) (by rw [List.length_map]; lia) rfl) El_nil) Call_len) Ev_int Op_ieq) ?_
    · refine ex1_2 (List.mem_map.mp hd) fun d hd' zq5 => ?_; subst zq5
      refine ⟨_, Asg_name, Wk_weak ⟨rfl, rfl, trivial⟩ rfl, Tst_one (Et.to (Et_bool (Ea_and (Et_cmp (Ev_name rfl) (Ev_namee rfl) Op_ine) fun _ => Ea_and (Et_cmp (Ev_namee rfl) (Ev_sub_list (Ev_namee rfl) (Ev_name rfl) (by lia) (lines_get (hcm d hd'))) (Op_in (f := inN c) inN_x)) fun _ => Ea_and_nil)) ?_), fun _ => Ev_name rfl⟩
      rw [inN_any, Bool.and_true]
      show _ = (decide (d ≠ c) && decide (c ∈ atL lines d))
      congr 1
      rw [Bool.eq_iff_iff]
      simp
      lia
    · rw [inlen]
      rw [Bool.eq_iff_iff, decide_eq_true_iff]
      show _ ↔ decide (((cmF lines first others).filter fun d => decide (d ≠ c) && decide (c ∈ atL lines d)).length = 0) = true
      rw [decide_eq_true_iff]
      show (((cmF lines first others).filter fun d => decide (d ≠ c) && decide (c ∈ atL lines d)).length : Int) = 0 ↔ _
      lia
  · have e : (((cmF lines first others).map nD).filter (pN (bsT lines (cmF lines first others)))).map id = (bsF lines (cmF lines first others)).map nD := by rw [fm_nat]; rfl
    rw [e]
    refine Ht.under (Sub_frz (Str.ofString "times") rfl) ?_
    refine Hs_cons (H1_return (Ev.to (Ev_comp (ds := (bestF lines hours first others).map nD) (fun _ => true) (fun d => match d with | .int i => .byt (nm i) | _ => .none) (Eit_list (Ev_sorted (n := ⟨k + 2, false⟩) (α := Nat) (dat := nD) (l := bsF lines (cmF lines first others)) (lt := ltN hours) (KeyOk.pair (α := Nat) (fun c => hours[c]?.getD 0) (fun c => nm c)) (Ev_name rfl) (Ev_lam rfl w.tq174 (by rfl)) (fun c hc => ?_) hask h64) (fun _ => letGo_name)) (by rfl) (by rfl) (fun d hd => ?_) (by rw [List.length_map]; lia) rfl) ?_) (.inl rfl))
    · have hcc : c < hours.length := by rw [hh]; exact hcm c (List.mem_filter.mp hc).1
      exact CallV_lam (n := ⟨k + 1, false⟩) (names := [Str.ofString "c"]) (fun {name cl pm ct c vs} hl => by
        refine ex1_1 (len1 hl) fun a zq6 => ?_; subst zq6; exact rfl) rfl (by rfl) (by rfl) (by rfl) (by rfl) (by rfl) (Ev_tuple (El_cons (Ev_sub_list (Ev_namee rfl) (Ev_name rfl) (by lia) (hours_get hcc)) (El_cons (Ev_call (name := "_law_name") w.g9 (El_cons (Ev_name rfl) El_nil) (call_name w)) El_nil)))
    · refine ex1_2 (List.mem_map.mp hd) fun c hc zq7 => ?_; subst zq7
      exact ⟨_, Asg_name, Wk_weak trivial rfl, Tst_nil, fun _ => Ev_call (name := "_law_name") w.g9 (El_cons (Ev_name rfl) El_nil) (call_name w)⟩
    · rw [List.filter_eq_self.mpr (fun _ _ => rfl), List.map_map]; rfl
  · intro env h1 h2
    exact swaps_true h1 h2 rfl

theorem call_best (w : Wd C) {lines : List (List Nat)} {hours : List Int} {first : Nat} {others : List Nat} (hf : first < lines.length) (ho : ∀ d ∈ others, d < lines.length) (hh : hours.length = lines.length) (hl : ∀ d, d < lines.length → ∀ c ∈ atL lines d, c < lines.length)
    (hz : ∀ d, (atL lines d).length ≤ 1000) (hzo : others.length ≤ 1000) (hask : Askd (ltN hours) (bsF lines (cmF lines first others))) (h64 : (bsF lines (cmF lines first others)).length < 64) (hs : (bestF lines hours first others).length ≤ 1000) :
    CallB C ⟨k + 4, false⟩ (.ref w.a12) [.list (lines.map rowD), .list (hours.map .int), nD first, rowD others] (.list ((bestF lines hours first others).map fun c : Nat => .byt (nm c))) := by
  refine CallB_fn (n := ⟨k + 3, false⟩) (names := [Str.ofString "lines", Str.ofString "times", Str.ofString "first", Str.ofString "others"]) w.g12 (fun {kV doc pm ct an c vs} hv => ?_) rfl (by rfl) (best_walk w hf ho hh hl hz hzo hask h64 hs)
  refine ex4_1 (len4 hv) fun a b c d zq8 => ?_; subst zq8; exact rfl
end
end Mine
set_option maxHeartbeats 200000
namespace Mine

noncomputable def emC (e : Expr) (iter : Expr) (acc : Value) (env : Env) : Sem Unit := do
  let x ← eval iter env
  standAt iter.pos
  let x ← foldedSetIterable iter env x
  let _ ← runOwn (.compStart e 1 (← holding [x] (pyIter x)) acc env) env
noncomputable def turnH (t iter : Expr) (ifs : List Expr) (c : Code) (e i₂ : Expr) (it acc : Value) (env : Env) : Sem PySem.Fin := do
  standAt iter.pos
  match ← pyNext it with
  | none => pure (.done .next)
  | some v =>
    letOwnedTupleGo t it v
    assign t env v
    let mut ok := true
    for c in ifs do
      if ok then ok ← isTrue c env (eval c env)
    if ok then
      let x ← eval i₂ env
      standAt i₂.pos
      let x ← foldedSetIterable i₂ env x
      let _ ← runOwn (.compStart e 1 (← holding [x] (pyIter x)) acc env) env
    again c
theorem turn_outer (elt t₁ i₁ t₂ i₂ : Expr) (f₁ f₂ : List Expr) (scope : Scope) (pos : Pos) (it acc : Value) (env : Env) :
    compTurn (.ListComp elt [⟨t₁, i₁, f₁, 0⟩, ⟨t₂, i₂, f₂, 0⟩] scope pos) 0 it acc env = turnH t₁ i₁ f₁ (.compLoop (.ListComp elt [⟨t₁, i₁, f₁, 0⟩, ⟨t₂, i₂, f₂, 0⟩] scope pos) 0 it acc env) (.ListComp elt [⟨t₁, i₁, f₁, 0⟩, ⟨t₂, i₂, f₂, 0⟩] scope pos) i₂ it acc env := by rfl
theorem turn_HG (t iter : Expr) (ifs : List Expr) (c : Code) (e i₂ : Expr) (it acc : Value) (env : Env) : turnH t iter ifs c e i₂ it acc env = turnG t iter ifs c (emC e i₂) it acc env := by
  unfold turnH turnG emC
  refine congrArg (standAt iter.pos >>= ·) (funext fun _ => congrArg (pyNext it >>= ·) (funext fun r => ?_))
  cases r with
  | none => rfl
  | some v =>
    refine congrArg (letOwnedTupleGo t it v >>= ·) (funext fun _ => congrArg (assign t env v >>= ·) (funext fun _ => congrArg (_ >>= ·) (funext fun ok => ?_)))
    cases ok with
    | false => rfl
    | true => simp only [if_true, bind_assoc, pure_bind]
theorem turn_inner (elt t₁ i₁ t₂ i₂ : Expr) (f₁ f₂ : List Expr) (scope : Scope) (pos : Pos) (it acc : Value) (env : Env) :
    compTurn (.ListComp elt [⟨t₁, i₁, f₁, 0⟩, ⟨t₂, i₂, f₂, 0⟩] scope pos) 1 it acc env = turnG t₂ i₂ f₂ (.compLoop (.ListComp elt [⟨t₁, i₁, f₁, 0⟩, ⟨t₂, i₂, f₂, 0⟩] scope pos) 1 it acc env) (emA elt) it acc env := by rfl

section
variable {C : Cx} {n : Lv} {sc : Sc} {ρ ρ' : Rho} {env : Env} {X M X' M' fp : Addr → Prop} {s₀ s s' : Shared} {h h' h₂ : Heap} {x : Str} {A : Around} {E : Value → Shared → Prop}

theorem start_inner {elt t₁ i₁ t₂ i₂ : Expr} {f₁ f₂ : List Expr} {scope : Scope} {pos : Pos} {it acc : Value} {env : Env} {R : Result → Shared → Prop}
    (h0 : codeAny C.M A (.compLoop (.ListComp elt [⟨t₁, i₁, f₁, 0⟩, ⟨t₂, i₂, f₂, 0⟩] scope pos) 1 it acc env) R s)
    (h : wpAny C.M A (pyIter it) (fun it' s' => codeAny C.M A (.compLoop (.ListComp elt [⟨t₁, i₁, f₁, 0⟩, ⟨t₂, i₂, f₂, 0⟩] scope pos) 1 it' acc env) R s') (notedBy C.M A env fun x s' => R (.error x) s') s) :
    codeAny C.M A (.compStart (.ListComp elt [⟨t₁, i₁, f₁, 0⟩, ⟨t₂, i₂, f₂, 0⟩] scope pos) 1 it acc env) R s := by
  refine codeAny_of_tree ?_
  show wpAny _ _ ((compStart (.ListComp elt [⟨t₁, i₁, f₁, 0⟩, ⟨t₂, i₂, f₂, 0⟩] scope pos) 1 it acc env).onRaise (fun x => do noteFrame x env; standAt theWindowsPlace)) _ _ s
  refine wpAny_notedAt ?_
  unfold compStart
  show wpAny _ _ (ask >>= _) _ _ s
  refine wpAny_bind (wpAny_askSetting (wpAny_ite ?_))
  split
  · first
      | exact wpAny_bind (wpAny_pure (wpAny_pure (And.intro rfl h0)))
      | exact wpAny_pure (And.intro rfl h0)
  · first
      | exact wpAny_bind (wpAny_rule (wpAny_bind (wpAny_standAt (wpAny_bind (wpAny_mono h (fun it' s' h' => wpAny_pure (And.intro rfl h')) fun _ _ x => x)))))
      | (refine wpAny_bind (wpAny_rule ?_); show wpAny _ _ (standAt i₂.pos >>= _) _ _ s; exact wpAny_bind (wpAny_standAt (wpAny_bind (wpAny_mono h (fun it' s' h' => wpAny_pure (And.intro rfl h')) fun _ _ x => x))))

noncomputable abbrev EmI (C : Cx) (env : Env) (ρ : Rho) (X2 M : Addr → Prop) (J : Heap → (Addr → Prop) → List D → Prop) (E0 : Addr) (p : D → Bool) (f : D → D) (ds ds0 : List D) (s : Shared) (k : Nat) (s' : Shared) : Prop :=
  ∃ done ds' us j, ds = done ++ ds' ∧ ds'.length = k ∧ Kq C (fun b => M b ∨ b = E0) s.heap s'.heap ∧ Ok C s' ∧ Mod C env ρ X2 M s'.heap ∧ J s'.heap X2 ds' ∧ s'.heap.get? E0 = some (seqO "list" us j) ∧ RdL C s'.heap X2 us (ds0 ++ (done.filter p).map f)

theorem Emit_for (hn : n.h = false) {elt t₁ i₁ t₂ i₂ : Expr} {f₁ f₂ : List Expr} {scope : Scope} {pos : Pos} {ds : List D} {p : D → Bool} {f : D → D} (hit : Eit C n sc ρ i₂ t₂ ds)
    (turn : ∀ d ∈ ds, ∃ ρ₁, Asg C n sc ρ t₂ d ρ₁ ∧ Wk C ρ₁ ρ ∧ Tst C n sc ρ₁ f₂ (p d) ∧ (p d = true → Ev C n sc ρ₁ elt (f d)))
    (hs : ∀ env x, foldedSetIterable i₂ env x = pure x := by intro _ _; rfl) : Emit C n sc ρ (emC (.ListComp elt [⟨t₁, i₁, f₁, 0⟩, ⟨t₂, i₂, f₂, 0⟩] scope pos) i₂) ((ds.filter p).map f) := fun A env X M s D us j ds0 S en m xD mD dD e z r => by
  unfold emC
  refine wpAny_bind (wp_false (hit A env X M s S en m) fun xv s1 h1 => wpAny_bind (wpAny_standAt (wpAny_bind (wpAny_of_eq (hs env xv) (wpAny_bind (wpAny_holding (wp_false h1 fun it s2 ⟨n2, fp, J, W, j2, ffr⟩ => wpAny_bind (wpAny_runOwn ?_))))))))
  let X2 : Addr → Prop := fun a => X a ∨ fp a
  have fpD : ¬ fp D := fun z => by exact no_some (ffr D z) e
  have lf : ∀ a, fp a → s.heap.get? a = none ∧ ∃ o, s2.heap.get? a = some o := fun a z => ⟨ffr a z, let ⟨o, _, e, _⟩ := W.live j2 a z; ⟨o, e⟩⟩
  have fM : ∀ a, fp a → ¬ M a := fun a z hM => by
    refine ex0_2 (m.alive a hM) fun _ zq1 => ?_; refine ex1_2 zq1 fun o e _ => ?_; try clear zq1
    exact no_some (ffr a z) e
  have m2 : Mod C env ρ X2 M s2.heap := m.hide S.ok.t n2.k n2.ok.t lf
  have f1 : ∀ a, fp a → X2 a := fun a z => .inr z
  have e2 := n2.k.exact id (S.ok.t.notab e (by simp)) e (by simp)
  have r2 : RdL C s2.heap X2 us ds0 := (r.anti (X' := X2) fun a o e z => z.elim id fun z => by exact no_some (ffr a z) e).nx n2 S.ok
  have hKM : ∀ a, (M a ∨ a = D) → ∃ o, s.heap.get? a = some o ∧ NF o := fun a z => by
    rcases z with z | z
    · exact (m.alive a z).2
    · subst z; exact ⟨_, e, fun _ z => by cases z⟩
  have loop : codeAny C.M A (.compLoop (.ListComp elt [⟨t₁, i₁, f₁, 0⟩, ⟨t₂, i₂, f₂, 0⟩] scope pos) 1 it (.ref D) env) (fun r s' => match r with
      | .ok fl => wpAny C.M A (pure ()) (fun _ s' => Kq C (fun b => M b ∨ b = D) s.heap s'.heap ∧ Ok C s' ∧ Mod C env ρ X M s'.heap ∧ ∃ us' j', s'.heap.get? D = some (seqO "list" us' j') ∧ RdL C s'.heap X us' (ds0 ++ (ds.filter p).map f)) (fun _ _ => False) s'
      | .error e => cameBackBy C.M A env (fun _ _ => False) e s') s2 := by
    refine codeAny_compLoop_G (turn_inner elt t₁ i₁ t₂ i₂ f₁ f₂ scope pos it (.ref D) env) (EmI C env ρ X2 M J D p f ds ds0 s) ?_ ds.length ⟨[], ds, us, j, rfl, rfl, .of_kp n2.k, n2.ok, m2, j2, e2, by simpa using r2⟩
    intro k s5 zi1; refine ex4_8 zi1 fun done ds' us5 j5' hds hk k5 o5 m5 j5 e5 r5 => ?_; try clear zi1
    have S5 := S.step k5 o5 hKM
    cases ds' with
    | nil =>
      refine wp_false (W.nil hn S5 f1 j5) fun r s6 zq2 => ex0_2 zq2 fun hr st => ?_
      subst hr
      rw [List.append_nil] at hds; subst hds
      have e6 := st.kq.exact fpD (o5.t.notab e5 (by simp)) e5 (by simp)
      refine wpAny_pure ⟨k5.trans' st.kq (fun a ob e z => by exact no_some (ffr a z) e), st.ok, ?_, us5, j5', e6, (r5.keep st.kq f1 o5.t).anti fun a o e z => .inl z⟩
      exact m5.side o5.t st.kq st.ok.t f1 fM (m5.nofp (W.live j5)) (fun a z => ⟨.inl z, fun w => by
        refine ex1_1 (m.live a z) fun o e => ?_
        exact no_some (ffr a w) e⟩) m.mx
    | cons d rest =>
      refine wp_false (W.cons S5 f1 m5.live j5) fun r s6 zq3 => ex1_2 zq3 fun v hr h6 => ?_
      subst hr
      refine wp_false h6 fun _ s7 zq4 => ex0_3 zq4 fun st r7 j7 => ?_
      have k7 : Kq C (fun b => M b ∨ b = D) s.heap s7.heap := k5.trans' st.kq fun a ob e z => by exact no_some (ffr a z) e
      have m7 : Mod C env ρ X2 M s7.heap := m5.side o5.t st.kq st.ok.t f1 fM (m5.nofp (W.live j5)) (fun a z => ⟨z, fun fz => let ⟨ob, _, e, _⟩ := W.live j7 a fz; ⟨ob, e⟩⟩) m5.mx
      have e7 := st.kq.exact fpD (o5.t.notab e5 (by simp)) e5 (by simp)
      have r7' := r5.keep st.kq f1 o5.t
      refine ex1_4 (turn d (by rw [hds]; simp)) fun ρ1 ha hsub ht he => ?_
      refine wp_false (ha A env X2 M s7 v (S.step k7 st.ok hKM) en m7 r7) fun _ s8 zq5 => ex0_3 zq5 fun o8 m8 kq8 => ?_
      have k8 : Kq C (fun b => M b ∨ b = D) s.heap s8.heap := k7.trans (kq8.mono fun a z => .inl z)
      have j8 : J s8.heap X2 rest := W.keep j7 kq8 m7.mx fM st.ok.t
      have e8 := kq8.exact mD (st.ok.t.notab e7 (by simp)) e7 (by simp)
      have r8 := r7'.keep kq8 m7.mx st.ok.t
      refine wp_false (ht A env X2 M s8 (S.step k8 o8 hKM) en m8) fun ok s9 zq6 => ex0_2 zq6 fun n9 hr => ?_
      subst hr
      have k9 : Kq C (fun b => M b ∨ b = D) s.heap s9.heap := k8.trans (.of_kp n9.k)
      have m9 := m8.nx n9 o8
      have j9 : J s9.heap X2 rest := W.keep j8 n9.k (fun _ z => z.elim) (fun _ _ => id) o8.t
      have e9 := n9.k.exact id (o8.t.notab e8 (by simp)) e8 (by simp)
      have r9 := r8.nx n9 o8
      cases hp : p d with
      | false =>
        rw [if_neg (by simp)]
        refine ⟨rest.length, by rw [← hk]; simp, done ++ [d], rest, us5, j5', by rw [hds]; simp, rfl, k9, n9.ok, hsub _ _ _ _ m9, j9, e9, ?_⟩
        rw [List.filter_append]; simpa [hp] using r9
      | true =>
        rw [if_pos rfl]
        have hfl : ds.filter p = done.filter p ++ d :: rest.filter p := by rw [hds, List.filter_append, List.filter_cons_of_pos hp]
        have zz : us5.length + [f d].length ≤ BIG := by
          rw [r9.length]
          have hr0 := r.length
          rw [hfl] at z
          simp only [List.length_append, List.length_map, List.length_cons, List.length_nil] at z ⊢
          lia
        refine wp_false (Emit_one (he hp) A env X2 M s9 D us5 j5' _ (S.step k9 n9.ok hKM) en m9 (.inl xD) mD dD e9 zz r9) fun _ s10 ⟨kq, o10, m10, us', j', e10, r10⟩ => ?_
        refine ⟨rest.length, by rw [← hk]; simp, done ++ [d], rest, us', j', by rw [hds]; simp, rfl, k9.trans kq, o10, hsub _ _ _ _ m10, W.keep j9 kq (fun a z => z.elim (m9.mx a) fun z => .inl (z ▸ xD)) (fun a z w => w.elim (fM a z) fun w => fpD (w ▸ z)) n9.ok.t, e10, ?_⟩
        have : (done ++ [d]).filter p = done.filter p ++ [d] := by rw [List.filter_append]; simp [hp]
        rw [this, List.map_append, ← List.append_assoc]
        exact r10
  refine start_inner loop (wpAny_mono (W.again (X := X2) (ds := ds) j2 (Q := fun it' s' => it' = it ∧ s' = s2) ⟨rfl, rfl⟩) (fun it' s' zq7 => ex0_2 zq7 fun e1 e2 => by subst e1 e2; exact loop) fun _ _ z => z.elim)

theorem Ev_comp2 {elt t₁ i₁ t₂ i₂ : Expr} {f₁ f₂ : List Expr} {scope : Scope} {pos : Pos} {ds : List D} (p : D → Bool) (f : D → List D) (hit : Eit C n sc ρ i₁ t₁ ds) (hok : compOk sc.scope.names scope.names ρ = true) (hkind : scope.kind = .function)
    (turn : ∀ d ∈ ds, ∃ ρ₁, Asg C n (scIn sc scope) (closRho ρ scope.names []) t₁ d ρ₁ ∧ Wk C ρ₁ (closRho ρ scope.names []) ∧ Tst C n (scIn sc scope) ρ₁ f₁ (p d) ∧ (p d = true → Emit C n (scIn sc scope) ρ₁ (emC (.ListComp elt [⟨t₁, i₁, f₁, 0⟩, ⟨t₂, i₂, f₂, 0⟩] scope pos) i₂) (f d)))
    (hz : ((ds.filter p).flatMap f).length ≤ BIG) (hn : n.h = false := by assumption) (hs : ∀ env x, foldedSetIterable i₁ env x = pure x := by intro _ _; rfl) :
    Ev C n sc ρ (.ListComp elt [⟨t₁, i₁, f₁, 0⟩, ⟨t₂, i₂, f₂, 0⟩] scope pos) (.list ((ds.filter p).flatMap f)) := fun A env X M s S en m => by
  show wpAny C.M A (comprehension (.ListComp elt [⟨t₁, i₁, f₁, 0⟩, ⟨t₂, i₂, f₂, 0⟩] scope pos) scope env _ (newList []) false (eval i₁ env) none) _ _ s
  refine comp_coreG hn (fun it acc env => (turn_outer elt t₁ i₁ t₂ i₂ f₁ f₂ scope pos it acc env).trans (turn_HG ..)) S en m hit hok hkind turn hz (hs env) fun s' Z L v n' hZ hL zq8 => ex1_1 zq8 fun mm hn zq9 => ex1_2 zq9 fun a hv hZa r => ⟨mm, hn, fun h' hs' => ⟨n'.lose S.ok.t S.ok.k (hZ L hL) hn hs', ?_⟩⟩
  have ks : Ks C (fun b => b = L) s'.heap h' := Ks.one (fun b hb o e => (hs'.2 b hb).trans e) hn
  exact (r.keepS ks (fun b z => .inr (z ▸ hL)) n'.ok.t).anti fun b o e z => .inl z
end
end Mine
set_option maxHeartbeats 1000000
namespace Mine

section
variable {α β : Type}
noncomputable def dputT (kvs : List (B8 × α)) (k : B8) (v : α) : List (B8 × α) :=
  if kvs.any (fun kv => decide (kv.1 = k)) then kvs.map (fun kv => if kv.1 = k then (kv.1, v) else kv) else kvs ++ [(k, v)]
noncomputable def mapT (g : α → D) (kvs : List (B8 × α)) : List (B8 × D) := kvs.map fun kv => (kv.1, g kv.2)
theorem mapT_dput (g : α → D) (kvs : List (B8 × α)) (k : B8) (v : α) : mapT g (dputT kvs k v) = dput (mapT g kvs) k (g v) := by
  unfold dputT dput mapT
  have e : (kvs.map fun kv => (kv.1, g kv.2)).any (fun kv => decide (kv.1 = k)) = kvs.any fun kv => decide (kv.1 = k) := by rw [List.any_map]; rfl
  rw [e]
  split
  · rw [List.map_map, List.map_map]
    refine List.map_congr_left fun kv _ => ?_
    simp only [Function.comp]
    split <;> simp_all
  · rw [List.map_append]; rfl
theorem mapT_lookup (g : α → D) (c : B8) : ∀ (kvs : List (B8 × α)), (mapT g kvs).lookup c = (kvs.lookup c).map g
  | [] => rfl
  | (k, v) :: r => by
    show List.lookup c ((k, g v) :: mapT g r) = _
    simp only [List.lookup_cons]
    cases c == k with
    | true => rfl
    | false => exact mapT_lookup g c r
theorem dputT_len (kvs : List (B8 × α)) (k : B8) (v : α) : (dputT kvs k v).length ≤ kvs.length + 1 := by
  unfold dputT; split <;> simp
end

noncomputable def nmsF (l : List Nat) : List B8 := l.map fun q : Nat => nm q
noncomputable def sumF (s0 : List Int) : List Int := (List.range s0.length).map fun k : Nat => ((k : Int) + 1) * s0[k]?.getD 0
noncomputable def mixF (s0 : List Int) : Nat := ((sumF s0).sum % 1000000000000).toNat
noncomputable def uF (mix : Nat) : D := match mix % 3 with
  | 0 => .none
  | 1 => .set 0
  | _ => .set 1
noncomputable def goneF (mix many : Nat) : List Nat := if mix % 3 = 2 then (List.range many).filter (fun k => decide (mix / 3 / 4 ^ k % 4 = 0)) else []
noncomputable def tabF (ps : List (List Nat)) (gone : List Nat) : Nat → List (B8 × List B8)
  | 0 => []
  | m + 1 => if m ∈ gone then tabF ps gone m else dputT (tabF ps gone m) (nm m) (nmsF (atL ps m))
noncomputable def clkF (ts : List Int) (gone : List Nat) : Nat → List (B8 × Int)
  | 0 => []
  | m + 1 => if m ∈ gone then clkF ts gone m else dputT (clkF ts gone m) (nm m) (ts[m]?.getD 0)
theorem tabF_len (ps : List (List Nat)) (gone : List Nat) : ∀ m, (tabF ps gone m).length ≤ m
  | 0 => Nat.le_refl _
  | m + 1 => by
    have := tabF_len ps gone m
    have := dputT_len (tabF ps gone m) (nm m) (nmsF (atL ps m))
    show (if _ then _ else _ : List _).length ≤ _
    split <;> lia
theorem clkF_len (ts : List Int) (gone : List Nat) : ∀ m, (clkF ts gone m).length ≤ m
  | 0 => Nat.le_refl _
  | m + 1 => by
    have := clkF_len ts gone m
    have := dputT_len (clkF ts gone m) (nm m) (ts[m]?.getD 0)
    show (if _ then _ else _ : List _).length ≤ _
    split <;> lia
noncomputable def linesF (ps : List (List Nat)) (gone : List Nat) (many : Nat) : List (List Nat) := (List.range many).map (lineF ps gone)
noncomputable def hoursF (ts : List Int) (gone : List Nat) (many : Nat) : List Int := (List.range many).map fun k => if k ∈ gone then 0 else ts[k]?.getD 0
noncomputable def rowN (mix many : Nat) : List Nat := (List.range (mix / 5 % 5)).map fun k => mix / 7 / 11 ^ k % many

section
variable {C : Cx} {n : Lv} {sc : Sc} {ρ : Rho}
theorem Op_powN {a b : Nat} (h : b ≤ 1000000) (ha : a < 2 ^ 64) : Op2 C n (binaryOp .Pow) (nD a) (nD b) (nD (a ^ b)) := by
  have := Op_pow (C := C) (n := n) (a := (a : Int)) (b := (b : Int)) (by lia) (by lia) (by lia)
  rw [Int.toNat_natCast, ← Int.natCast_pow] at this
  exact this
theorem rng0 (m : Nat) : rng 0 ((m : Nat) : Int).toNat = (List.range m).map nD := by
  have := rng_nat m 0
  rw [Int.toNat_natCast, List.range_eq_range']
  exact this
theorem Eit_rng {x : Str} {np pos p : Pos} {e : Expr} {b : Nat} (he : Ev C n sc ρ e (nD b)) (hb : b ≤ 1000) (hk : sc.scope.names.lookup ("range" : Str) = some .globalImplicit := by rfl)
    (h1 : ∀ env, starEach [e] env = (false, eval e env) :: starEach [] env := by intro env; rfl)
    (h3 : ∀ env, eval (.Call (.Name "range" np) [e] [] pos) env = (do callWith pos (← eval (.Name "range" np) env) [] (backTo pos (starEach [e] env)) (backToKw pos (keywordEach [] env))) := by intro env; rfl) :
    Eit C n sc ρ (.Call (.Name "range" np) [e] [] pos) (.Name x p) ((List.range b).map nD) := by
  have := Eit_range (x := x) (p := p) he (by lia) (by lia) hk h1 h3
  rwa [rng0] at this
theorem Ev_len {x : Str} {np xp pos : Pos} {l : List D} (he : Ev C n sc ρ (.Name x xp) (.list l)) (hk : sc.scope.names.lookup ("len" : Str) = some .globalImplicit := by rfl) : Ev C n sc ρ (.Call (.Name "len" np) [.Name x xp] [] pos) (nD l.length) :=
  Ev_bi rfl (El_cons he El_nil) Call_len hk
theorem atL_len {ps : List (List Nat)} {d : Nat} (h : d < ps.length) : (ps.map rowD)[((d : Nat) : Int).toNat]? = some (rowD (atL ps d)) := lines_get h
end

section
variable {C : Cx} {k : Nat}
noncomputable abbrev scLaw (w : Wd C) : Sc := scOf 13 "law.<locals>." (some (w.c13, w.P13))
noncomputable abbrev rho1 (s0 : List Int) (ps : List (List Nat)) (ts : List Int) (many mix : Nat) : Rho :=
  [("mix", .val (nD mix)), ("many", .val (nD many)), ("times", .val (.list (ts.map .int))), ("parents", .val (.list (ps.map rowD))), ("script", .val (.list (s0.map .int)))]
noncomputable abbrev rho2 (s0 : List Int) (ps : List (List Nat)) (ts : List Int) (many mix : Nat) : Rho :=
  ("gone", .val (rowD (goneF mix many))) :: ("shallows", .val (uF mix)) :: rho1 s0 ps ts many mix


theorem law_1 (w : Wd C) {sc : List Int} {s0 : List Int} (hs : s0 = sc.take 24) {ps : List (List Nat)} {ts : List Int} (hps : ps = (histF s0 (manyF s0)).1) (hts : ts = (histF s0 (manyF s0)).2) {Q : Fl → Rho → Prop}
    (rest : Hs C ⟨k + 6, false⟩ (scLaw w) (rho2 s0 ps ts (manyF s0) (mixF s0)) ((bodyOf 13).drop 7) Q) : Hs C ⟨k + 6, false⟩ (scLaw w) [("script", .val (.list (sc.map .int)))] (bodyOf 13) Q := by
  have hB : BIG = 1048576 := rfl
  have h24 : s0.length ≤ 24 := by rw [hs, List.length_take]; lia
  have hl : ps.length = manyF s0 := by rw [hps]; exact (hist_len s0 _).1
  have hmy : manyF s0 ≤ 7 := by unfold manyF; lia
  refine Hs_cons (H1_assign (Ev.to (d' := .list (s0.map .int)) (Ev_upto (Ev_name rfl)) (by rw [hs, List.map_take])) Asg_name ?_)
  refine Hs_cons (H1_assign (Ev_call (name := "_law_history") w.g10 (El_cons (Ev_name rfl) El_nil) (call_hist (k := k + 5) w (by lia))) (Asg_pair Asg_name Asg_name) ?_)
  rw [← hps, ← hts]
  refine Hs_cons (H1_assign (Ev.to (d' := nD (manyF s0)) (Ev_len (Ev_name rfl)) (by rw [List.length_map, hl])) Asg_name ?_)
  refine Hs_cons (H1_assign (d := nD (mixF s0)) (Ev.to (Ev_bin (Ev_bi rfl (El_cons (Ev.to (d' := .list ((sumF s0).map .int)) (Ev_comp (ds := (List.range s0.length).map nD) (fun _ => true) (fun d => match d with | .int i => .int ((i + 1) * s0[i.toNat]?.getD 0) | _ => .none)
    (Eit_rng (Ev.to (Ev_len (Ev_name rfl)) (by rw [List.length_map])) (by lia)) (by rfl) (by rfl) (fun d hd => ?_) (by rw [List.length_map, List.length_range]; lia) rfl) ?_) El_nil) (Call_sum (hn := rfl))) (Ev_bin Ev_int Ev_int (Op_pow (by decide) (by decide) (by decide))) (Op_mod (by decide))) ?_) Asg_name ?_)
  · refine ex1_2 (List.mem_map.mp hd) fun q hq zq1 => ?_; subst zq1
    have hq := List.mem_range.mp hq
    refine ⟨_, Asg_name, Wk_weak ⟨rfl, trivial⟩ rfl, Tst_nil, fun _ => Ev_bin (Ev_bin (Ev_name rfl) Ev_int Op_add) (Ev_sub_list (Ev_namee rfl) (Ev_name rfl) (by lia) ?_) (Op_mul (.of_left (PySem.intBits_le_64 (by lia) (by lia))))⟩
    show (s0.map D.int)[q]? = some (.int (s0[q]?.getD 0))
    rw [List.getElem?_map, List.getElem?_eq_getElem hq]; rfl
  · rw [List.filter_eq_self.mpr (fun _ _ => rfl), List.map_map, sumF, List.map_map]; rfl
  · show D.int ((sumF s0).sum % 10 ^ 12) = D.int _
    unfold mixF
    congr 1
    have : (0 : Int) ≤ (sumF s0).sum % 1000000000000 := Int.emod_nonneg _ (by decide)
    show (sumF s0).sum % 1000000000000 = _
    lia
  generalize mixF s0 = mix at rest ⊢
  refine Hs_cons (H1_assign (d := uF mix) (Ev_sub_list (Ev_list (El_cons Ev_none (El_cons Ev_set0 (El_cons (Ev_set1 (Ev_bytes (b := [122])) (fun env en => by rw [(en.2.2 w.c13 w.P13 rfl).1]; exact w.kd13)) El_nil)))) (Ev_bin (Ev_name rfl) (Ev_nat (i := 3)) (Op_modN (by decide))) (by lia) ?_) Asg_name ?_)
  · show [D.none, .set 0, .set 1][mix % 3]? = some (uF mix)
    unfold uF
    have : mix % 3 < 3 := Nat.mod_lt _ (by decide)
    match hm : mix % 3, this with
    | 0, _ => rfl
    | 1, _ => rfl
    | 2, _ => rfl
  refine Hs_cons (H1_newlist El_nil ?_)
  refine Hs_cons (H1_if (b := decide (((mix % 3 : Nat) : Int) = 2)) (Et_cmp (Ev_bin (Ev_name rfl) (Ev_nat (i := 3)) (Op_modN (by decide))) Ev_int Op_ieq) (fun hb => ?_) (fun hb => ?_))
  · have h2 : mix % 3 = 2 := by have := of_decide_eq_true hb; lia
    refine Hs_cons (H1_asgcell (Ev.to (d' := rowD (goneF mix (manyF s0))) (Ev_comp (ds := (List.range (manyF s0)).map nD) (pN fun k => decide (mix / 3 / 4 ^ k % 4 = 0)) id (Eit_rng (Ev_name rfl) (by lia)) (by rfl) (by rfl) (fun d hd => ?_) (by rw [List.length_map, List.length_range]; lia) rfl) ?_) (Hs_nil ?_))
    · refine ex1_2 (List.mem_map.mp hd) fun q hq zq2 => ?_; subst zq2
      have hq := List.mem_range.mp hq
      have h4 : 4 ^ q < 2 ^ 60 := Nat.lt_of_le_of_lt (Nat.pow_le_pow_right (by decide) (show q ≤ 7 by lia)) (by decide)
      refine ⟨_, Asg_name, Wk_weak ⟨rfl, trivial⟩ rfl, Tst_one (Et.to (Et_cmp (Ev_bin (Ev_bin (Ev_bin (Ev_namee rfl) (Ev_nat (i := 3)) (Op_divN (by decide) (by decide))) (Ev_bin (Ev_nat (i := 4)) (Ev_name rfl) (Op_powN (by lia) (by decide))) (Op_divN (Nat.pow_pos (by decide)) h4)) (Ev_nat (i := 4)) (Op_modN (by decide))) Ev_int Op_ieq) ?_), fun _ => Ev_name rfl⟩
      show decide (((mix / 3 / 4 ^ q % 4 : Nat) : Int) = 0) = decide (mix / 3 / 4 ^ q % 4 = 0)
      rw [Bool.eq_iff_iff, decide_eq_true_iff, decide_eq_true_iff]; lia
    · rw [fm_nat]; unfold goneF; rw [if_pos h2]; rw [show (fun q => id (nD q)) = nD from rfl]; rfl
    · refine Ht.under ?_ rest
      exact Sub_weak ⟨rfl, rfl, rfl, rfl, rfl, rfl, rfl, trivial⟩ rfl
  · have h2 : ¬ mix % 3 = 2 := by have := of_decide_eq_false hb; lia
    refine Hs_nil ?_
    refine Ht.under (Sub_lst (Str.ofString "gone") rfl) ?_
    have e : goneF mix (manyF s0) = [] := by unfold goneF; rw [if_neg h2]
    have r2 := rest
    unfold rho2 at r2
    rw [e] at r2
    refine Ht.under ?_ r2
    exact Sub_weak ⟨rfl, rfl, rfl, rfl, rfl, rfl, rfl, trivial⟩ rfl
end
end Mine
namespace Mine

noncomputable abbrev bytL (l : List B8) : D := .list (l.map .byt)
section
variable {C : Cx} {k : Nat}
noncomputable abbrev rho3 (s0 : List Int) (ps : List (List Nat)) (ts : List Int) (many mix : Nat) (fP fT : D) : Rho :=
  ("when", .val fT) :: ("up", .val fP) :: ("clock", .frz (.dict (mapT D.int (clkF ts (goneF mix many) many)))) :: ("table", .frz (.dict (mapT bytL (tabF ps (goneF mix many) many)))) :: rho2 s0 ps ts many mix

theorem law_2 (w : Wd C) {s0 : List Int} {ps : List (List Nat)} {ts : List Int} {many mix : Nat} (hl : ps.length = many) (hlt : ts.length = many) (hm : many ≤ 7) (hpl : ∀ d, (atL ps d).length ≤ 5) {Q : Fl → Rho → Prop}
    (rest : ∀ fP fT, Lk C fP fT (fun c => (tabF ps (goneF mix many) many).lookup c) (fun c => (clkF ts (goneF mix many) many).lookup c) → Hs C ⟨k + 6, false⟩ (scLaw w) (rho3 s0 ps ts many mix fP fT) ((bodyOf 13).drop 12) Q) :
    Hs C ⟨k + 6, false⟩ (scLaw w) (rho2 s0 ps ts many mix) ((bodyOf 13).drop 7) Q := by
  have hB : BIG = 1048576 := rfl
  refine Hs_cons (H1_newdict ?_)
  refine Hs_cons (H1_newdict ?_)
  refine Hs_cons (H1_forn (N := many) (fun m => ("clock", .dct (mapT D.int (clkF ts (goneF mix many) m))) :: ("table", .dct (mapT bytL (tabF ps (goneF mix many) m))) :: rho2 s0 ps ts many mix)
    (Eit.to (Eit_rng (Ev_name rfl) (by lia)) (by rw [List.range_eq_range'])) (fun m hlt' => ?_) ?_ rfl Sub.refl)
  · have ht := tabF_len ps (goneF mix many) m
    have hc := clkF_len ts (goneF mix many) m
    refine ⟨_, Asg_name, ?_⟩
    refine Hs_cons (H1_if (b := !((goneF mix many).map nD).any (inN m)) (Et_cmp (Ev_name rfl) (Ev_name rfl) (Op_notin (f := inN m) inN_x)) (fun hb => ?_) (fun hb => Hs_nil (Hs_nil ?_)))
    · rw [inN_any] at hb
      have hg : m ∉ goneF mix many := by simpa using hb
      have e1 : tabF ps (goneF mix many) (m + 1) = dputT (tabF ps (goneF mix many) m) (nm m) (nmsF (atL ps m)) := by show (if _ then _ else _) = _; rw [if_neg hg]
      have e2 : clkF ts (goneF mix many) (m + 1) = dputT (clkF ts (goneF mix many) m) (nm m) (ts[m]?.getD 0) := by show (if _ then _ else _) = _; rw [if_neg hg]
      have hz := hpl m
      refine Hs_cons (H1_setitem (d := bytL (nmsF (atL ps m))) rfl (Ev.to (Ev_comp (ds := (atL ps m).map nD) (fun _ => true) (fun d => match d with | .int i => .byt (nm i) | _ => .none) (Eit_list (Ev_sub_list (Ev_name rfl) (Ev_name rfl) (by lia) (atL_len (by lia))) (fun _ => letGo_name)) (by rfl) (by rfl) (fun d hd => ?_) (by rw [List.length_map]; lia) rfl) ?_)
        (Ev_call (name := "_law_name") w.g9 (El_cons (Ev_name rfl) El_nil) (call_name (k := k + 5) w)) (by show (mapT _ _).length + 1 ≤ BIG; unfold mapT; rw [List.length_map]; lia) ?_)
      · refine ex1_2 (List.mem_map.mp hd) fun q hq zq1 => ?_; subst zq1
        exact ⟨_, Asg_name, Wk_weak trivial rfl, Tst_nil, fun _ => Ev_call (name := "_law_name") w.g9 (El_cons (Ev_name rfl) El_nil) (call_name (k := k + 5) w)⟩
      · rw [List.filter_eq_self.mpr (fun _ _ => rfl), List.map_map]; unfold nmsF; rw [bytL, List.map_map]; rfl
      · refine Hs_cons (H1_setitem (d := .int (ts[m]?.getD 0)) rfl (Ev_sub_list (Ev_name rfl) (Ev_name rfl) (by lia) (hours_get (by lia))) (Ev_call (name := "_law_name") w.g9 (El_cons (Ev_name rfl) El_nil) (call_name (k := k + 5) w)) (by show (mapT _ _).length + 1 ≤ BIG; unfold mapT; rw [List.length_map]; lia) (Hs_nil (Hs_nil ?_)))
        refine ⟨m + 1, rfl, Sub_weak ⟨congrArg Slot.dct ?_, congrArg Slot.dct ?_, rfl, rfl, rfl, rfl, rfl, rfl, rfl, trivial⟩ rfl⟩
        · rw [e2, mapT_dput]
        · rw [e1, mapT_dput]
    · rw [inN_any] at hb
      have hg : m ∈ goneF mix many := by simpa using hb
      have e1 : tabF ps (goneF mix many) (m + 1) = tabF ps (goneF mix many) m := by show (if _ then _ else _) = _; rw [if_pos hg]
      have e2 : clkF ts (goneF mix many) (m + 1) = clkF ts (goneF mix many) m := by show (if _ then _ else _) = _; rw [if_pos hg]
      refine ⟨m + 1, rfl, Sub_weak ⟨?_, ?_, rfl, rfl, rfl, rfl, rfl, rfl, rfl, trivial⟩ rfl⟩
      · rw [e2]; rfl
      · rw [e1]; rfl
  · refine Ht.under (Sub_dct (Str.ofString "table") rfl) (Ht.under (Sub_dct (Str.ofString "clock") rfl) (Ht.under (Sub_frz (Str.ofString "table") rfl) (Ht.under (Sub_frz (Str.ofString "clock") rfl) ?_)))
    refine Hs_cons (H1_assign (Ev_lam rfl w.tq190 (by rfl)) Asg_name ?_)
    refine Hs_cons (H1_assign (Ev_lam rfl w.tq191 (by rfl)) Asg_name ?_)
    have key : ∀ (ρ' : Rho) (fP fT : D), Sub C (scLaw w) ρ' (rho3 s0 ps ts many mix fP fT) → Lk C fP fT (fun c => (tabF ps (goneF mix many) many).lookup c) (fun c => (clkF ts (goneF mix many) many).lookup c) → Hs C ⟨k + 6, false⟩ (scLaw w) ρ' ((bodyOf 13).drop 12) Q := fun ρ' fP fT q L => Ht.under q (rest fP fT L)
    apply key
    exact Sub_weak ⟨rfl, rfl, rfl, rfl, rfl, rfl, rfl, rfl, rfl, rfl, rfl, trivial⟩ rfl
    refine fun k => ⟨rfl, rfl, fun c l h => ?_, fun c h => ?_, fun c t h => ?_, fun c h => ?_⟩
    · exact CallV_lam (n := ⟨k, false⟩) (names := [Str.ofString "c"]) (fun {name cl pm ct c vs} hl => by
        refine ex1_1 (len1 hl) fun a zq2 => ?_; subst zq2; exact rfl) rfl (by rfl) (by rfl) (by rfl) (by rfl) (by rfl) (Ev_sub_dict (Ev_namee rfl) (Ev_name rfl) (by rw [mapT_lookup, h]; rfl))
    · exact CallX_lam (n := ⟨k, false⟩) (names := [Str.ofString "c"]) (fun {name cl pm ct c vs} hl => by
        refine ex1_1 (len1 hl) fun a zq3 => ?_; subst zq3; exact rfl) rfl (by rfl) (by rfl) (by rfl) (by rfl) (by rfl) (EvX_sub_dict (Ev_namee rfl) (Ev_name rfl) (by rw [mapT_lookup, h]; rfl) rfl)
    · exact CallV_lam (n := ⟨k, false⟩) (names := [Str.ofString "c"]) (fun {name cl pm ct c vs} hl => by
        refine ex1_1 (len1 hl) fun a zq4 => ?_; subst zq4; exact rfl) rfl (by rfl) (by rfl) (by rfl) (by rfl) (by rfl) (Ev_sub_dict (Ev_namee rfl) (Ev_name rfl) (by rw [mapT_lookup, h]; rfl))
    · exact CallX_lam (n := ⟨k, false⟩) (names := [Str.ofString "c"]) (fun {name cl pm ct c vs} hl => by
        refine ex1_1 (len1 hl) fun a zq5 => ?_; subst zq5; exact rfl) rfl (by rfl) (by rfl) (by rfl) (by rfl) (by rfl) (EvX_sub_dict (Ev_namee rfl) (Ev_name rfl) (by rw [mapT_lookup, h]; rfl) rfl)
end
end Mine
namespace Mine

section
variable {C : Cx} {k : Nat}
noncomputable abbrev rho4 (s0 : List Int) (ps : List (List Nat)) (ts : List Int) (many mix : Nat) (fP fT : D) : Rho :=
  ("given", .val (bytL (nmsF (rowN mix many)))) :: ("names", .val (bytL (nmsF (rowN mix many)))) :: ("row", .val (rowD (rowN mix many))) :: ("hours", .val (.list ((hoursF ts (goneF mix many) many).map .int))) :: ("lines", .val (.list ((linesF ps (goneF mix many) many).map rowD))) :: rho3 s0 ps ts many mix fP fT

theorem nms_comp {l : List Nat} : ((l.map nD).filter (fun _ => true)).map (fun d => match d with | .int i => D.byt (nm i) | _ => .none) = (nmsF l).map .byt := by
  rw [List.filter_eq_self.mpr (fun _ _ => rfl), List.map_map]; unfold nmsF; rw [List.map_map]; rfl

theorem law_3 (w : Wd C) {s0 : List Int} {ps : List (List Nat)} {ts : List Int} {many mix : Nat} (hl : ps.length = many) (hlt : ts.length = many) (hm : many ≤ 7) (hm0 : 0 < many) (hp : ∀ (i : Nat) (r : List Nat), ps[i]? = some r → ∀ x ∈ r, x < ps.length) {fP fT : D} {Q : Fl → Rho → Prop}
    (rest : Hs C ⟨k + 6, false⟩ (scLaw w) (rho4 s0 ps ts many mix fP fT) ((bodyOf 13).drop 17) Q) :
    Hs C ⟨k + 6, false⟩ (scLaw w) (rho3 s0 ps ts many mix fP fT) ((bodyOf 13).drop 12) Q := by
  have hB : BIG = 1048576 := rfl
  have hrw : (rowN mix many).length ≤ 4 := by unfold rowN; rw [List.length_map, List.length_range]; have : mix / 5 % 5 < 5 := Nat.mod_lt _ (by decide); lia
  refine Hs_cons (H1_asgcell (Ev.to (d' := .list ((linesF ps (goneF mix many) many).map rowD)) (Ev_comp (ds := (List.range many).map nD) (fun _ => true) (fun d => match d with | .int i => rowD (lineF ps (goneF mix many) i.toNat) | _ => .none) (Eit_rng (Ev_name rfl) (by lia)) (by rfl) (by rfl) (fun d hd => ?_) (by rw [List.length_map, List.length_range]; lia) rfl) ?_) ?_)
  · refine ex1_2 (List.mem_map.mp hd) fun q hq zq1 => ?_; subst zq1
    have hq := List.mem_range.mp hq
    exact ⟨_, Asg_name, Wk_weak ⟨rfl, rfl, trivial⟩ rfl, Tst_nil, fun _ => Ev_call (name := "_law_line") w.g11 (El_cons (Ev_namee rfl) (El_cons (Ev_namee rfl) (El_cons (Ev_name rfl) El_nil))) (call_line (k := k + 5) w (by lia) (by lia) hp)⟩
  · rw [List.filter_eq_self.mpr (fun _ _ => rfl), List.map_map]; unfold linesF; rw [List.map_map]; rfl
  refine Hs_cons (H1_asgcomp (ds := (List.range many).map nD) (fun _ => true) (fun d => match d with | .int i => .int (if i.toNat ∈ goneF mix many then 0 else ts[i.toNat]?.getD 0) | _ => .none) (Eit_rng (Ev_name rfl) (by lia)) (by rfl) (by rfl) (fun d hd => ?_) (by rw [List.length_map, List.length_range]; lia) rfl ?_ (hsw := ?_))
  · refine ex1_2 (List.mem_map.mp hd) fun q hq zq2 => ?_; subst zq2
    have hq := List.mem_range.mp hq
    refine ⟨_, Asg_name, Wk_weak ⟨rfl, rfl, trivial⟩ rfl, Tst_nil, fun _ => Ev_if (Et_cmp (Ev_name rfl) (Ev_namee rfl) (Op_in (f := inN q) inN_x)) (fun hc => ?_) (fun hc => ?_)⟩
    · rw [inN_any] at hc
      refine Ev.to Ev_int ?_
      show D.int 0 = D.int (if q ∈ goneF mix many then 0 else ts[q]?.getD 0)
      rw [if_pos (of_decide_eq_true hc)]
    · rw [inN_any] at hc
      refine Ev.to (Ev_sub_list (Ev_namee rfl) (Ev_name rfl) (by lia) (hours_get (by lia))) ?_
      show D.int (ts[q]?.getD 0) = D.int (if q ∈ goneF mix many then 0 else ts[q]?.getD 0)
      rw [if_neg (of_decide_eq_false hc)]
  rotate_left
  · intro env h1 h2
    exact swaps_true h1 h2 rfl
  have e : (((List.range many).map nD).filter (fun _ => true)).map (fun d => match d with | .int i => D.int (if i.toNat ∈ goneF mix many then 0 else ts[i.toNat]?.getD 0) | _ => .none) = (hoursF ts (goneF mix many) many).map .int := by
    rw [List.filter_eq_self.mpr (fun _ _ => rfl), List.map_map]; unfold hoursF; rw [List.map_map]; rfl
  rw [e]
  refine Hs_cons (H1_asgcell (Ev.to (d' := rowD (rowN mix many)) (Ev_comp (ds := (List.range (mix / 5 % 5)).map nD) (fun _ => true) (fun d => match d with | .int i => nD (mix / 7 / 11 ^ i.toNat % many) | _ => .none) (Eit_rng (Ev_bin (Ev_bin (Ev_name rfl) (Ev_nat (i := 5)) (Op_divN (by decide) (by decide))) (Ev_nat (i := 5)) (Op_modN (by decide))) (by have : mix / 5 % 5 < 5 := Nat.mod_lt _ (by decide); lia)) (by rfl) (by rfl) (fun d hd => ?_) (by rw [List.length_map, List.length_range]; have : mix / 5 % 5 < 5 := Nat.mod_lt _ (by decide); lia) rfl) ?_) ?_)
  · refine ex1_2 (List.mem_map.mp hd) fun q hq zq3 => ?_; subst zq3
    have hq := List.mem_range.mp hq
    have : mix / 5 % 5 < 5 := Nat.mod_lt _ (by decide)
    have h4 : 11 ^ q < 2 ^ 60 := Nat.lt_of_le_of_lt (Nat.pow_le_pow_right (by decide) (show q ≤ 5 by lia)) (by decide)
    exact ⟨_, Asg_name, Wk_weak ⟨rfl, rfl, trivial⟩ rfl, Tst_nil, fun _ => Ev_bin (Ev_bin (Ev_bin (Ev_namee rfl) (Ev_nat (i := 7)) (Op_divN (by decide) (by decide))) (Ev_bin (Ev_nat (i := 11)) (Ev_name rfl) (Op_powN (by lia) (by decide))) (Op_divN (Nat.pow_pos (by decide)) h4)) (Ev_namee rfl) (Op_modN hm0)⟩
  · rw [List.filter_eq_self.mpr (fun _ _ => rfl), List.map_map]; unfold rowN; rw [rowD, List.map_map]; rfl
  refine Hs_cons (H1_asgcomp (ds := (rowN mix many).map nD) (fun _ => true) (fun d => match d with | .int i => .byt (nm i) | _ => .none) (Eit_list (Ev_name rfl) (fun _ => letGo_name)) (by rfl) (by rfl) (fun d hd => ?_) (by rw [List.length_map]; lia) rfl ?_ (hsw := ?_))
  · refine ex1_2 (List.mem_map.mp hd) fun q hq zq4 => ?_; subst zq4
    exact ⟨_, Asg_name, Wk_weak trivial rfl, Tst_nil, fun _ => Ev_call (name := "_law_name") w.g9 (El_cons (Ev_name rfl) El_nil) (call_name (k := k + 5) w)⟩
  rotate_left
  · intro env h1 h2
    exact swaps_true h1 h2 rfl
  rw [nms_comp]
  refine Hs_cons (H1_assign (Ev_ty rfl (El_cons (Ev_name rfl) El_nil) Call_list) Asg_name ?_)
  exact rest
end
end Mine
namespace Mine

theorem nm_inj8 : ∀ a < 8, ∀ b < 8, nm ((a : Nat) : Int) = nm ((b : Nat) : Int) → a = b := by decide +kernel
theorem back1 : ∀ m < 8, ∀ c < m, ((List.range m).filter fun d : Nat => decide (nm d = nm ((c : Nat) : Int))) = [c] := by decide +kernel
noncomputable def backF (many : Nat) (l : List Nat) : List Nat := l.flatMap fun c : Nat => (List.range many).filter fun d : Nat => decide (nm d = nm c)
theorem backF_eq {many : Nat} (hm : many ≤ 7) : ∀ {l : List Nat}, (∀ x ∈ l, x < many) → backF many l = l
  | [], _ => rfl
  | a :: l, h => by
    show ((List.range many).filter fun d : Nat => decide (nm d = nm a)) ++ backF many l = _
    rw [backF_eq hm fun x hx => h x (.tail _ hx), back1 many (by lia) a (h a (.head _))]
    rfl

noncomputable def row0 (row : List Nat) : Nat := row[0]?.getD 0
noncomputable def base1 (lines : List (List Nat)) (hours : List Int) (row : List Nat) : List B8 := if row.length < 2 then nmsF row else nmsF (bestF lines hours (row0 row) (row.drop 1))
noncomputable def octS (lines : List (List Nat)) (hours : List Int) (found : List Nat) (c : Nat) : List Nat := found.flatMap fun a => bestF lines hours c [a]
noncomputable def foundF (lines : List (List Nat)) (hours : List Int) (row : List Nat) : List Nat := (row.drop 1).foldl (octS lines hours) [row0 row]
noncomputable def base2 (lines : List (List Nat)) (hours : List Int) (row : List Nat) : List B8 := if 2 < row.length then nmsF (foundF lines hours row) else base1 lines hours row
noncomputable def lefT (lines : List (List Nat)) (row : List Nat) (k : Nat) : Bool := decide (((List.range row.length).filter fun j => !decide (j = k) && decide (row[k]?.getD 0 ∈ atL lines (row[j]?.getD 0))).length = 0)
noncomputable def leftF (lines : List (List Nat)) (row : List Nat) : List B8 := ((List.range row.length).filter (lefT lines row)).map fun k => nm ((row[k]?.getD 0 : Nat) : Int)
noncomputable def expF (lines : List (List Nat)) (gone : List Nat) (first second : Nat) : Bool := decide (first = second) || (!decide (first ∈ gone) && decide (first ∈ atL lines second))

structure LawOk (ps : List (List Nat)) (ts : List Int) (many mix : Nat) (Dm : B8 → Prop) (lcL : B8 → List B8 → List B8) (lcM : B8 → B8 → List B8) : Prop where
  H : Hg (fun c => (tabF ps (goneF mix many) many).lookup c) (fun c => (clkF ts (goneF mix many) many).lookup c) Dm (uF mix) lcL lcM
  dm : ∀ q, q < many → Dm (nm ((q : Nat) : Int))
  lin : ∀ d, ∀ c ∈ atL (linesF ps (goneF mix many) many) d, c < many
  len : ∀ d, (atL (linesF ps (goneF mix many) many) d).length ≤ 1000
  bst : ∀ c o, c < many → (∀ d ∈ o, d < many) → Askd (ltN (hoursF ts (goneF mix many) many)) (bsF (linesF ps (goneF mix many) many) (cmF (linesF ps (goneF mix many) many) c o)) ∧
    (bsF (linesF ps (goneF mix many) many) (cmF (linesF ps (goneF mix many) many) c o)).length < 64 ∧ (bestF (linesF ps (goneF mix many) many) (hoursF ts (goneF mix many) many) c o).length ≤ 10 ∧
    ∀ x ∈ bestF (linesF ps (goneF mix many) many) (hoursF ts (goneF mix many) many) c o, x < many
  e1 : mbL lcL (nmsF (rowN mix many)) = base1 (linesF ps (goneF mix many) many) (hoursF ts (goneF mix many) many) (rowN mix many)
  e2 : ocL lcL (nmsF (rowN mix many)) = base2 (linesF ps (goneF mix many) many) (hoursF ts (goneF mix many) many) (rowN mix many)
  e3 : indL lcL (nmsF (rowN mix many)) = leftF (linesF ps (goneF mix many) many) (rowN mix many)
  e4 : ∀ first, first < many → cfB (fun c => (clkF ts (goneF mix many) many).lookup c) lcM (nm ((first : Nat) : Int)) (nm (((first + mix) % many : Nat) : Int)) = expF (linesF ps (goneF mix many) many) (goneF mix many) first ((first + mix) % many)

section
variable {C : Cx} {k : Nat} {s0 : List Int} {ps : List (List Nat)} {ts : List Int} {many mix : Nat} {Dm : B8 → Prop} {lcL : B8 → List B8 → List B8} {lcM : B8 → B8 → List B8} {fP fT : D}

theorem law_9 (w : Wd C) (hm : many ≤ 7) (hm0 : 0 < many) (LO : LawOk ps ts many mix Dm lcL lcM) (L : Lk C fP fT (fun c => (tabF ps (goneF mix many) many).lookup c) (fun c => (clkF ts (goneF mix many) many).lookup c)) :
    Hs C ⟨k + 6, false⟩ (scLaw w) (rho4 s0 ps ts many mix fP fT) ((bodyOf 13).drop 24) (RetQ (.bool true)) := by
  have hll : (linesF ps (goneF mix many) many).length = many := by unfold linesF; rw [List.length_map, List.length_range]
  refine Hs_cons (H1_form (σ := Unit) (g := nD) (l := List.range many) (fun l _ => ∀ x ∈ l, x < many) (fun _ => rho4 s0 ps ts many mix fP fT) (Eit_rng (Ev_name rfl) (by lia)) (fun first l _ hx => ?_) (fun _ hI => ?_) rfl () (fun x hx => List.mem_range.mp hx) Sub.refl)
  · have hf := hx first (.head _)
    have hs : (first + mix) % many < many := Nat.mod_lt _ hm0
    refine ⟨_, Asg_name, ?_⟩
    refine Hs_cons (H1_assign (Ev_bin (Ev_bin (Ev_name rfl) (Ev_name rfl) Op_addN) (Ev_name rfl) (Op_modN hm0)) Asg_name ?_)
    refine Hs_cons (H1_assign (d := .bool (expF (linesF ps (goneF mix many) many) (goneF mix many) first ((first + mix) % many))) (Ev.to (Ev_or2 (Ev_cmp (Ev_name rfl) (Ev_name rfl) Op_ieq) (fun _ => Ev_and2 (Ev_cmp (Ev_name rfl) (Ev_name rfl) (Op_notin (f := inN first) inN_x)) (fun _ => Ev_cmp (Ev_name rfl) (Ev_sub_list (Ev_name rfl) (Ev_name rfl) (by lia) (lines_get (by lia))) (Op_in (f := inN first) inN_x)))) ?_) Asg_name ?_)
    · unfold expF
      rw [inN_any, inN_any]
      congr 2
      rw [Bool.eq_iff_iff, decide_eq_true_iff, decide_eq_true_iff]; lia
    refine Hs_cons (H1_assign (Ev_call (name := "can_fast_forward") w.g6 (El_cons (Ev_name rfl) (El_cons (Ev_name rfl) (El_cons (Ev_name rfl) (El_cons (Ev_call (name := "_law_name") w.g9 (El_cons (Ev_name rfl) El_nil) (call_name (k := k + 5) w)) (El_cons (Ev_call (name := "_law_name") w.g9 (El_cons (Ev_name rfl) El_nil) (call_name (k := k + 5) w)) El_nil))))) (call_cff (k := k + 1) w L LO.H (LO.dm _ hf) (LO.dm _ hs))) Asg_name ?_)
    have e4 := LO.e4 first hf
    rw [e4]
    refine Hs_cons (H1_ifF (Et_bool (Ea_or (b := false) (Et_not (b := true) (Et_plain (Ev_isbool (Ev_name rfl)) Truth_bool)) fun _ => Ea_or (b := false) (Et.to (Et_cmp (Ev_name rfl) (Ev_name rfl) (Op_ne Ner_bool)) (by simp)) fun _ => Ea_or_nil)) (Hs_nil (Hs_nil ?_)))
    exact ⟨(), fun x h => hx x (.tail _ h), Sub_weak ⟨rfl, rfl, rfl, rfl, rfl, rfl, rfl, rfl, rfl, rfl, rfl, rfl, rfl, rfl, rfl, rfl, trivial⟩ rfl⟩
  · refine Hs_cons (H1_return (Ev_cmp (Ev_name rfl) (Ev_name rfl) (Op_eq Eqr_bytl)) (.inl ?_))
    rw [decide_eq_true rfl]

theorem nms_get {l : List Nat} {i : Nat} (h : i < l.length) : ((nmsF l).map D.byt)[((i : Nat) : Int).toNat]? = some (.byt (nm ((l[i]?.getD 0 : Nat) : Int))) := by
  show ((nmsF l).map D.byt)[i]? = _
  unfold nmsF
  rw [List.getElem?_map, List.getElem?_map, List.getElem?_eq_getElem h]; rfl
theorem nat_get {l : List Nat} {i : Nat} (h : i < l.length) : (l.map nD)[((i : Nat) : Int).toNat]? = some (nD (l[i]?.getD 0)) := by
  show (l.map nD)[i]? = _
  rw [List.getElem?_map, List.getElem?_eq_getElem h]; rfl

theorem row_lt (hm0 : 0 < many) : ∀ x ∈ rowN mix many, x < many := fun x hx => by
  unfold rowN at hx
  refine ex1_2 (List.mem_map.mp hx) fun q _ zq1 => ?_; subst zq1
  exact Nat.mod_lt _ hm0
theorem row_len : (rowN mix many).length ≤ 4 := by unfold rowN; rw [List.length_map, List.length_range]; have : mix / 5 % 5 < 5 := Nat.mod_lt _ (by decide); lia
theorem getD_mem {l : List Nat} {i : Nat} (h : i < l.length) : l[i]?.getD 0 ∈ l := by
  rw [List.getElem?_eq_getElem h]; exact List.getElem_mem h

theorem law_8 (w : Wd C) (hm : many ≤ 7) (hm0 : 0 < many) (LO : LawOk ps ts many mix Dm lcL lcM) (L : Lk C fP fT (fun c => (tabF ps (goneF mix many) many).lookup c) (fun c => (clkF ts (goneF mix many) many).lookup c)) :
    Hs C ⟨k + 6, false⟩ (scLaw w) (rho4 s0 ps ts many mix fP fT) ((bodyOf 13).drop 21) (RetQ (.bool true)) := by
  have hB : BIG = 1048576 := rfl
  have hll : (linesF ps (goneF mix many) many).length = many := by unfold linesF; rw [List.length_map, List.length_range]
  have hrl : (rowN mix many).length ≤ 4 := row_len
  have hrx : ∀ x ∈ rowN mix many, x < many := row_lt hm0
  have h9 := law_9 (k := k) (s0 := s0) w hm hm0 LO L
  have e3 := LO.e3
  have hnl : (nmsF (rowN mix many)).length ≤ 4 := by unfold nmsF; rw [List.length_map]; exact hrl
  have hnD : ∀ c ∈ nmsF (rowN mix many), Dm c := fun c hc => by
    unfold nmsF at hc
    refine ex1_2 (List.mem_map.mp hc) fun q hq zq2 => ?_; subst zq2
    exact LO.dm q (hrx q hq)
  generalize hrow : rowN mix many = row at hrl hrx e3 hnl hnD
  have hrng : (List.range row.length).length = row.length := List.length_range
  refine Hs_cons (H1_newlist El_nil ?_)
  refine Hs_cons (H1_forn (N := row.length)
    (fun m => ("left", .lst ((((List.range m).filter (lefT (linesF ps (goneF mix many) many) row)).map fun k => nm ((row[k]?.getD 0 : Nat) : Int)).map .byt)) :: rho4 s0 ps ts many mix fP fT) (Eit.to (Eit_rng (Ev.to (Ev_len (Ev_name rfl)) (by rw [List.length_map, hrow])) (by lia)) (by rw [List.range_eq_range'])) (fun m hlt' => ?_) ?_ rfl Sub.refl)
  · have hmx := hrx _ (getD_mem hlt')
    have hg : ((rowN mix many).map nD)[((m : Nat) : Int).toNat]? = some (nD (row[m]?.getD 0)) := by rw [hrow]; exact nat_get hlt'
    refine ⟨_, Asg_name, ?_⟩
    have hsn : ((List.range (m + 1)).filter (lefT (linesF ps (goneF mix many) many) row)) = (List.range m).filter (lefT (linesF ps (goneF mix many) many) row) ++ (if lefT (linesF ps (goneF mix many) many) row m = true then [m] else []) := by
      rw [List.range_succ, List.filter_append]
      congr 1
      cases h : lefT (linesF ps (goneF mix many) many) row m <;> simp [h]
    refine Hs_cons (H1_if (b := lefT (linesF ps (goneF mix many) many) row m) (Et.to (Et_cmp (Ev_bi rfl (El_cons (Ev_comp (ds := (List.range row.length).map nD) (pN fun j => !decide (j = m) && decide (row[m]?.getD 0 ∈ atL (linesF ps (goneF mix many) many) (row[j]?.getD 0))) id (Eit_rng (Ev.to (Ev_len (Ev_name rfl)) (by rw [List.length_map, hrow])) (by lia)) (by rfl) (by rfl) (fun d hd => ?_) (by rw [List.length_map, List.length_range]; lia) rfl) El_nil) Call_len) Ev_int Op_ieq) ?_) (fun hb => ?_) (fun hb => Hs_nil (Hs_nil ?_)))
    · refine ex1_2 (List.mem_map.mp hd) fun j hj zq3 => ?_; subst zq3
      have hj := List.mem_range.mp hj
      have hjx := hrx _ (getD_mem hj)
      have hgj : ((rowN mix many).map nD)[((j : Nat) : Int).toNat]? = some (nD (row[j]?.getD 0)) := by rw [hrow]; exact nat_get hj
      refine ⟨_, Asg_name, Wk_weak ⟨rfl, rfl, rfl, trivial⟩ rfl, Tst_one (Et.to (Et_bool (Ea_and (Et_cmp (Ev_name rfl) (Ev_namee rfl) Op_ine) fun _ => Ea_and (Et_cmp (Ev_sub_list (Ev_namee rfl) (Ev_namee rfl) (by lia) hg) (Ev_sub_list (Ev_namee rfl) (Ev_sub_list (Ev_namee rfl) (Ev_name rfl) (by lia) hgj) (by lia) (lines_get (by lia))) (Op_in (f := inN (row[m]?.getD 0)) inN_x)) fun _ => Ea_and_nil)) ?_), fun _ => Ev_name rfl⟩
      rw [inN_any, Bool.and_true]
      show _ = (!decide (j = m) && decide (row[m]?.getD 0 ∈ atL (linesF ps (goneF mix many) many) (row[j]?.getD 0)))
      congr 2
      rw [Bool.eq_iff_iff, decide_eq_true_iff, decide_eq_true_iff]; lia
    · rw [inlen]
      rw [Bool.eq_iff_iff, decide_eq_true_iff]
      unfold lefT
      rw [decide_eq_true_iff]
      show (((List.range row.length).filter fun j => !decide (j = m) && decide (row[m]?.getD 0 ∈ atL (linesF ps (goneF mix many) many) (row[j]?.getD 0))).length : Int) = 0 ↔ _
      lia
    · refine Hs_cons (H1_append (d := .byt (nm ((row[m]?.getD 0 : Nat) : Int))) rfl (Ev_sub_list (Ev_name rfl) (Ev_name rfl) (by lia) (by rw [hrow]; exact nms_get hlt')) ?_ (Hs_nil (Hs_nil ?_)))
      · show ((((List.range m).filter (lefT (linesF ps (goneF mix many) many) row)).map _).map D.byt).length + 1 ≤ BIG
        rw [List.length_map, List.length_map]
        have := List.length_filter_le (lefT (linesF ps (goneF mix many) many) row) (List.range m)
        rw [List.length_range] at this
        lia
      · refine ⟨m + 1, rfl, Sub_weak ⟨congrArg Slot.lst ?_, rfl, rfl, rfl, rfl, rfl, rfl, rfl, rfl, rfl, rfl, rfl, rfl, rfl, rfl, rfl, rfl, trivial⟩ rfl⟩
        rw [hsn, if_pos hb, List.map_append, List.map_append]; rfl
    · refine ⟨m + 1, rfl, Sub_weak ⟨congrArg Slot.lst ?_, rfl, rfl, rfl, rfl, rfl, rfl, rfl, rfl, rfl, rfl, rfl, rfl, rfl, rfl, rfl, rfl, trivial⟩ rfl⟩
      rw [hsn, if_neg (by rw [hb]; decide), List.append_nil]
  · refine Ht.under (Sub_lst (Str.ofString "left") rfl) ?_
    have el : (((List.range row.length).filter (lefT (linesF ps (goneF mix many) many) row)).map fun k => nm ((row[k]?.getD 0 : Nat) : Int)) = leftF (linesF ps (goneF mix many) many) row := rfl
    rw [el]
    refine Hs_cons (H1_ifF (Et.to (Et_cmp (Ev_call (name := "independent") w.g7 (El_cons (Ev_name rfl) (El_cons (Ev_name rfl) (El_cons (Ev_name rfl) (El_cons (Ev_name rfl) El_nil)))) (call_ind (k := k) w L LO.H (ids := nmsF (rowN mix many)) (by rw [hrow]; exact hnD) (by rw [hrow]; exact hnl))) (Ev_name rfl) (Op_ne Ner_bytl)) ?_) (Hs_nil ?_))
    · rw [hrow, e3, decide_eq_true rfl]; rfl
    · refine Ht.under ?_ h9
      exact Sub_weak ⟨rfl, rfl, rfl, rfl, rfl, rfl, rfl, rfl, rfl, rfl, rfl, rfl, rfl, rfl, rfl, rfl, trivial⟩ rfl
end
end Mine
namespace Mine

section
variable {C : Cx} {k : Nat} {s0 : List Int} {ps : List (List Nat)} {ts : List Int} {many mix : Nat} {Dm : B8 → Prop} {lcL : B8 → List B8 → List B8} {lcM : B8 → B8 → List B8} {fP fT : D}

theorem Emit.to {n : Lv} {sc : Sc} {ρ : Rho} {em : Value → Env → Sem Unit} {d d' : List D} (h : Emit C n sc ρ em d) (q : d = d') : Emit C n sc ρ em d' := q ▸ h

theorem best_len (LO : LawOk ps ts many mix Dm lcL lcM) {c : Nat} (hc : c < many) : ∀ {q : List Nat}, (∀ x ∈ q, x < many) → (q.flatMap fun a => bestF (linesF ps (goneF mix many) many) (hoursF ts (goneF mix many) many) c [a]).length ≤ 10 * q.length ∧ ∀ x ∈ q.flatMap fun a => bestF (linesF ps (goneF mix many) many) (hoursF ts (goneF mix many) many) c [a], x < many
  | [], _ => ⟨Nat.le_refl _, fun x h => by simp at h⟩
  | a :: q, h => by
    refine ex0_2 (best_len LO hc (q := q) fun x z => h x (.tail _ z)) fun h1 h2 => ?_
    refine ex0_4 (LO.bst c [a] hc (fun d hd => by simp at hd; subst hd; exact h _ (.head _))) fun _ _ b1 b2 => ?_
    rw [List.flatMap_cons]
    refine ⟨by rw [List.length_append, List.length_cons]; lia, fun x hx => ?_⟩
    rcases List.mem_append.mp hx with hx | hx
    · exact b2 x hx
    · exact h2 x hx

theorem law_7b (w : Wd C) (hm : many ≤ 7) (hm0 : 0 < many) (LO : LawOk ps ts many mix Dm lcL lcM) (L : Lk C fP fT (fun c => (tabF ps (goneF mix many) many).lookup c) (fun c => (clkF ts (goneF mix many) many).lookup c)) :
    Hs C ⟨k + 6, false⟩ (scLaw w) (("base", .val (bytL (base2 (linesF ps (goneF mix many) many) (hoursF ts (goneF mix many) many) (rowN mix many)))) :: rho4 s0 ps ts many mix fP fT) ((bodyOf 13).drop 20) (RetQ (.bool true)) := by
  have hnl : (nmsF (rowN mix many)).length ≤ 4 := by unfold nmsF; rw [List.length_map]; exact row_len
  have hnD : ∀ c ∈ nmsF (rowN mix many), Dm c := fun c hc => by
    unfold nmsF at hc
    refine ex1_2 (List.mem_map.mp hc) fun q hq zq1 => ?_; subst zq1
    exact LO.dm q (row_lt hm0 q hq)
  refine Hs_cons (H1_ifF (Et.to (Et_cmp (Ev_call (name := "find_octopus_base") w.g5 (El_cons (Ev_name rfl) (El_cons (Ev_name rfl) (El_cons (Ev_name rfl) (El_cons (Ev_name rfl) El_nil)))) (call_oct (k := k) w L LO.H hnD hnl)) (Ev_name rfl) (Op_ne Ner_bytl)) ?_) (Hs_nil ?_))
  · rw [LO.e2, decide_eq_true rfl]; rfl
  · refine Ht.under ?_ (law_8 (k := k) (s0 := s0) w hm hm0 LO L)
    exact Sub_weak ⟨rfl, rfl, rfl, rfl, rfl, rfl, rfl, rfl, rfl, rfl, rfl, rfl, rfl, rfl, rfl, rfl, trivial⟩ rfl

theorem law_7 (w : Wd C) (hm : many ≤ 7) (hm0 : 0 < many) (LO : LawOk ps ts many mix Dm lcL lcM) (L : Lk C fP fT (fun c => (tabF ps (goneF mix many) many).lookup c) (fun c => (clkF ts (goneF mix many) many).lookup c)) :
    Hs C ⟨k + 6, false⟩ (scLaw w) (("base", .val (bytL (base1 (linesF ps (goneF mix many) many) (hoursF ts (goneF mix many) many) (rowN mix many)))) :: rho4 s0 ps ts many mix fP fT) ((bodyOf 13).drop 19) (RetQ (.bool true)) := by
  have hB : BIG = 1048576 := rfl
  have hll : (linesF ps (goneF mix many) many).length = many := by unfold linesF; rw [List.length_map, List.length_range]
  have hhl : (hoursF ts (goneF mix many) many).length = many := by unfold hoursF; rw [List.length_map, List.length_range]
  have hrl : (rowN mix many).length ≤ 4 := row_len
  have hrx : ∀ x ∈ rowN mix many, x < many := row_lt hm0
  have rest := law_7b (k := k) (s0 := s0) w hm hm0 LO L
  refine Hs_cons (H1_if (b := decide (((2 : Nat) : Int) < (((rowN mix many).map nD).length : Int))) (Et_cmp (Ev_len (Ev_name rfl)) (Ev_nat (i := 2)) Op_gt) (fun hb => ?_) (fun hb => Hs_nil ?_))
  rotate_left
  · have h2 : ¬ 2 < (rowN mix many).length := by have := of_decide_eq_false hb; rw [List.length_map] at this; lia
    have e : base2 (linesF ps (goneF mix many) many) (hoursF ts (goneF mix many) many) (rowN mix many) = base1 (linesF ps (goneF mix many) many) (hoursF ts (goneF mix many) many) (rowN mix many) := by unfold base2; rw [if_neg h2]
    rw [e] at rest
    exact rest
  have h2 : 2 < (rowN mix many).length := by have := of_decide_eq_true hb; rw [List.length_map] at this; lia
  have hr0 : row0 (rowN mix many) ∈ rowN mix many := getD_mem (by lia)
  have e2 : base2 (linesF ps (goneF mix many) many) (hoursF ts (goneF mix many) many) (rowN mix many) = nmsF (foundF (linesF ps (goneF mix many) many) (hoursF ts (goneF mix many) many) (rowN mix many)) := by unfold base2; rw [if_pos h2]
  rw [e2] at rest
  refine Hs_cons (H1_newlist (El_cons (Ev_sub_list (d := nD (row0 (rowN mix many))) (Ev_name rfl) (Ev_nat (i := 0)) (by lia) (nat_get (i := 0) (by lia))) El_nil) ?_)
  refine Ht.under (Sub_lst (Str.ofString "found") rfl) ?_
  refine Hs_cons (H1_form (σ := List Nat) (g := nD) (l := (rowN mix many).drop 1) (fun r f => (∀ x ∈ r, x < many) ∧ r.foldl (octS (linesF ps (goneF mix many) many) (hoursF ts (goneF mix many) many)) f = foundF (linesF ps (goneF mix many) many) (hoursF ts (goneF mix many) many) (rowN mix many) ∧ (∀ x ∈ f, x < many) ∧ f.length * 10 ^ r.length ≤ 10000)
    (fun f => ("found", .val (rowD f)) :: ("base", .val (bytL (base1 (linesF ps (goneF mix many) many) (hoursF ts (goneF mix many) many) (rowN mix many)))) :: rho4 s0 ps ts many mix fP fT)
    (Eit.to (Eit_list (Ev_from (j := 1) (Ev_name rfl)) (fun _ => letGo_name)) (by rw [List.map_drop])) (fun c r f hI => ?_) (fun f hI => ?_) rfl [row0 (rowN mix many)] ⟨fun x hx => hrx x (List.mem_of_mem_drop hx), rfl, fun x hx => by simp at hx; subst hx; exact hrx _ hr0, ?_⟩
    (Sub_weak ⟨rfl, rfl, rfl, rfl, rfl, rfl, rfl, rfl, rfl, rfl, rfl, rfl, rfl, rfl, rfl, rfl, rfl, rfl, trivial⟩ rfl))
  · refine ex0_4 hI fun hxr hf hxf hz => ?_; try clear hI
    have hc := hxr c (.head _)
    refine ex0_2 (best_len LO hc hxf) fun l1 l2 => ?_
    have hp : 1 ≤ 10 ^ r.length := Nat.pos_of_ne_zero (by simp)
    rw [List.length_cons, Nat.pow_succ] at hz
    have zs : f.length ≤ 1000 := by
      have : f.length * 10 ≤ f.length * (10 ^ r.length * 10) := Nat.mul_le_mul_left _ (by lia)
      lia
    refine ⟨_, Asg_name, ?_⟩
    refine Hs_cons (H1_newlist El_nil ?_)
    refine Ht.under (Sub_lst (Str.ofString "told") rfl) ?_
    refine Hs_cons (H1_form (σ := List Nat) (g := nD) (l := f) (fun q told => (∀ x ∈ q, x < many) ∧ told ++ (q.flatMap fun a => bestF (linesF ps (goneF mix many) many) (hoursF ts (goneF mix many) many) c [a]) = octS (linesF ps (goneF mix many) many) (hoursF ts (goneF mix many) many) f c)
      (fun told => ("told", .val (rowD told)) :: ("c", .val (nD c)) :: ("found", .val (rowD f)) :: ("base", .val (bytL (base1 (linesF ps (goneF mix many) many) (hoursF ts (goneF mix many) many) (rowN mix many)))) :: rho4 s0 ps ts many mix fP fT)
      (Eit_list (Ev_name rfl) (fun _ => letGo_name)) (fun a q told hJ => ?_) (fun told hJ => ?_) rfl [] ⟨hxf, rfl⟩ (Sub_weak ⟨rfl, rfl, rfl, rfl, rfl, rfl, rfl, rfl, rfl, rfl, rfl, rfl, rfl, rfl, rfl, rfl, rfl, rfl, rfl, rfl, trivial⟩ rfl))
    · refine ex0_2 hJ fun hxq ht => ?_; try clear hJ
      have ha := hxq a (.head _)
      refine ex0_4 (LO.bst c [a] hc (fun d hd => by simp at hd; subst hd; exact ha)) fun b0 b1 b2 b3 => ?_
      rw [List.flatMap_cons, ← List.append_assoc] at ht
      have htl : (told ++ bestF (linesF ps (goneF mix many) many) (hoursF ts (goneF mix many) many) c [a]).length ≤ 10000 := by
        have h1 := congrArg List.length ht
        unfold octS at h1
        rw [List.length_append] at h1
        lia
      generalize hbst : bestF (linesF ps (goneF mix many) many) (hoursF ts (goneF mix many) many) c [a] = bst at b2 b3 ht htl
      have hflat : (((bst.map fun c : Nat => D.byt (nm c)).filter (fun _ => true)).flatMap fun d => match d with | .byt b => ((List.range many).filter fun d : Nat => decide (nm d = b)).map nD | _ => []) = bst.map nD := by
        rw [List.filter_eq_self.mpr (fun _ _ => rfl), List.flatMap_map]
        show (bst.flatMap fun c : Nat => ((List.range many).filter fun d : Nat => decide (nm d = nm c)).map nD) = _
        have := congrArg (List.map nD) (backF_eq hm b3)
        unfold backF at this
        rw [List.map_flatMap] at this
        exact this
      refine ⟨_, Asg_name, ?_⟩
      refine Hs_cons (H1_assign (d := rowD (told ++ bst)) (Ev.to (Ev_bin (Ev_name rfl) (Ev.to (d' := rowD bst) (Ev_comp2 (ds := bst.map fun c : Nat => D.byt (nm c)) (fun _ => true) (fun d => match d with | .byt b => ((List.range many).filter fun d : Nat => decide (nm d = b)).map nD | _ => [])
        (Eit_list (Ev.to (Ev_call (name := "_law_best") w.g12 (El_cons (Ev_name rfl) (El_cons (Ev_name rfl) (El_cons (Ev_name rfl) (El_cons (Ev_list (El_cons (Ev_name rfl) El_nil)) El_nil)))) (call_best (k := k + 2) w (others := [a]) (by lia) (fun d hd => by simp at hd; subst hd; lia) (by lia) (fun d hd c hc => by rw [hll]; exact LO.lin d c hc) LO.len (by simp) b0 b1 (by rw [hbst]; lia))) (by rw [hbst])) (fun _ => letGo_name)) (by rfl) (by rfl) (fun d hd => ?_) (by rw [hflat, List.length_map]; lia) rfl) (by rw [hflat])) (Op_cat (by rw [List.length_map, List.length_map, ← List.length_append]; lia))) (by rw [← List.map_append])) Asg_name ?_)
      · refine ex1_2 (List.mem_map.mp hd) fun x hx zq2 => ?_; subst zq2
        refine ⟨_, Asg_name, Wk_weak ⟨rfl, trivial⟩ rfl, Tst_nil, fun _ => ?_⟩
        refine Emit.to (Emit_for rfl (ds := (List.range many).map nD) (p := pN fun d => decide (nm ((d : Nat) : Int) = nm ((x : Nat) : Int))) (f := id) (Eit_rng (Ev_namee rfl) (by lia)) (fun d hd => ?_)) ?_
        · refine ex1_2 (List.mem_map.mp hd) fun y hy zq3 => ?_; subst zq3
          exact ⟨_, Asg_name, Wk_weak ⟨rfl, rfl, trivial⟩ rfl, Tst_one (Et_cmp (Ev_call (name := "_law_name") w.g9 (El_cons (Ev_name rfl) El_nil) (call_name (k := k + 5) w)) (Ev_name rfl) (Op_eq Eqr_byt)), fun _ => Ev_name rfl⟩
        · rw [fm_nat]; rfl
      · exact Hs_nil ⟨told ++ bst, ⟨fun x h => hxq x (.tail _ h), ht⟩, Sub_weak ⟨rfl, rfl, rfl, rfl, rfl, rfl, rfl, rfl, rfl, rfl, rfl, rfl, rfl, rfl, rfl, rfl, rfl, rfl, rfl, rfl, trivial⟩ rfl⟩
    · refine ex0_2 hJ fun _ ht => ?_; try clear hJ
      rw [List.flatMap_nil, List.append_nil] at ht
      subst ht
      refine Hs_cons (H1_assign (Ev_name rfl) Asg_name ?_)
      refine Hs_nil ⟨octS (linesF ps (goneF mix many) many) (hoursF ts (goneF mix many) many) f c, ⟨fun x h => hxr x (.tail _ h), hf, l2, ?_⟩, Sub_weak ⟨rfl, rfl, rfl, rfl, rfl, rfl, rfl, rfl, rfl, rfl, rfl, rfl, rfl, rfl, rfl, rfl, rfl, rfl, trivial⟩ rfl⟩
      have h1 : (octS (linesF ps (goneF mix many) many) (hoursF ts (goneF mix many) many) f c).length * 10 ^ r.length ≤ 10 * f.length * 10 ^ r.length := Nat.mul_le_mul_right _ l1
      have e : 10 * f.length * 10 ^ r.length = f.length * (10 ^ r.length * 10) := by
        rw [Nat.mul_comm 10 f.length, Nat.mul_assoc, Nat.mul_comm 10]
      lia
  · refine ex0_4 hI fun _ hf hxf hz => ?_; try clear hI
    have hf : f = foundF (linesF ps (goneF mix many) many) (hoursF ts (goneF mix many) many) (rowN mix many) := hf
    simp only [List.length_nil, Nat.pow_zero, Nat.mul_one] at hz
    rw [← hf] at rest
    refine Hs_cons (H1_asgcomp (ds := f.map nD) (fun _ => true) (fun d => match d with | .int i => .byt (nm i) | _ => .none) (Eit_list (Ev_name rfl) (fun _ => letGo_name)) (by rfl) (by rfl) (fun d hd => ?_) (by rw [List.length_map]; lia) rfl ?_ (hsw := ?_))
    · refine ex1_2 (List.mem_map.mp hd) fun q hq zq4 => ?_; subst zq4
      exact ⟨_, Asg_name, Wk_weak trivial rfl, Tst_nil, fun _ => Ev_call (name := "_law_name") w.g9 (El_cons (Ev_name rfl) El_nil) (call_name (k := k + 5) w)⟩
    · have e : List.map (fun d => match d with | .int i => D.byt (nm i) | _ => .none) ((f.map nD).filter fun _ => true) = (nmsF f).map .byt := nms_comp
      rw [e]
      refine Hs_nil (Ht.under ?_ rest)
      exact Sub_weak ⟨rfl, rfl, rfl, rfl, rfl, rfl, rfl, rfl, rfl, rfl, rfl, rfl, rfl, rfl, rfl, rfl, rfl, trivial⟩ rfl
    · intro env h1 h2
      exact swaps_true h1 h2 rfl
  · have h1 : 10 ^ ((rowN mix many).drop 1).length ≤ 10 ^ 3 := Nat.pow_le_pow_right (by decide) (by rw [List.length_drop]; lia)
    simp only [List.length_cons, List.length_nil] at h1 ⊢
    lia

theorem law_6 (w : Wd C) (hm : many ≤ 7) (hm0 : 0 < many) (LO : LawOk ps ts many mix Dm lcL lcM) (L : Lk C fP fT (fun c => (tabF ps (goneF mix many) many).lookup c) (fun c => (clkF ts (goneF mix many) many).lookup c)) :
    Hs C ⟨k + 6, false⟩ (scLaw w) (rho4 s0 ps ts many mix fP fT) ((bodyOf 13).drop 17) (RetQ (.bool true)) := by
  have hB : BIG = 1048576 := rfl
  have hll : (linesF ps (goneF mix many) many).length = many := by unfold linesF; rw [List.length_map, List.length_range]
  have hhl : (hoursF ts (goneF mix many) many).length = many := by unfold hoursF; rw [List.length_map, List.length_range]
  have hrl : (rowN mix many).length ≤ 4 := row_len
  have hrx : ∀ x ∈ rowN mix many, x < many := row_lt hm0
  have hnl : (nmsF (rowN mix many)).length ≤ 4 := by unfold nmsF; rw [List.length_map]; exact row_len
  have hnD : ∀ c ∈ nmsF (rowN mix many), Dm c := fun c hc => by
    unfold nmsF at hc
    refine ex1_2 (List.mem_map.mp hc) fun q hq zq5 => ?_; subst zq5
    exact LO.dm q (row_lt hm0 q hq)
  have rest : Hs C ⟨k + 6, false⟩ (scLaw w) (("base", .val (bytL (base1 (linesF ps (goneF mix many) many) (hoursF ts (goneF mix many) many) (rowN mix many)))) :: rho4 s0 ps ts many mix fP fT) ((bodyOf 13).drop 18) (RetQ (.bool true)) := by
    refine Hs_cons (H1_ifF (Et.to (Et_cmp (Ev_call (name := "find_merge_base") w.g4 (El_cons (Ev_name rfl) (El_cons (Ev_name rfl) (El_cons (Ev_name rfl) (El_cons (Ev_name rfl) El_nil)))) (call_fmb (k := k + 1) w L LO.H hnD (by lia))) (Ev_name rfl) (Op_ne Ner_bytl)) ?_) (Hs_nil (law_7 w hm hm0 LO L)))
    rw [LO.e1, decide_eq_true rfl]; rfl
  refine Hs_cons (H1_if (b := decide ((((rowN mix many).map nD).length : Int) < ((2 : Nat) : Int))) (Et_cmp (Ev_len (Ev_name rfl)) (Ev_nat (i := 2)) Op_lt) (fun hb => ?_) (fun hb => ?_))
  · have h2 : (rowN mix many).length < 2 := by have := of_decide_eq_true hb; rw [List.length_map] at this; lia
    have e : base1 (linesF ps (goneF mix many) many) (hoursF ts (goneF mix many) many) (rowN mix many) = nmsF (rowN mix many) := by unfold base1; rw [if_pos h2]
    rw [e] at rest
    exact Hs_cons (H1_assign (Ev_ty rfl (El_cons (Ev_name rfl) El_nil) Call_list) Asg_name (Hs_nil rest))
  · have h2 : ¬ (rowN mix many).length < 2 := by have := of_decide_eq_false hb; rw [List.length_map] at this; lia
    have hr0 : row0 (rowN mix many) ∈ rowN mix many := getD_mem (by lia)
    have hd1 : ∀ d ∈ (rowN mix many).drop 1, d < many := fun d hd => hrx d (List.mem_of_mem_drop hd)
    refine ex0_4 (LO.bst (row0 (rowN mix many)) ((rowN mix many).drop 1) (hrx _ hr0) hd1) fun b0 b1 b2 b3 => ?_
    have e : base1 (linesF ps (goneF mix many) many) (hoursF ts (goneF mix many) many) (rowN mix many) = nmsF (bestF (linesF ps (goneF mix many) many) (hoursF ts (goneF mix many) many) (row0 (rowN mix many)) ((rowN mix many).drop 1)) := by unfold base1; rw [if_neg h2]
    rw [e] at rest
    refine Hs_cons (H1_assign (Ev.to (Ev_call (name := "_law_best") w.g12 (El_cons (Ev_name rfl) (El_cons (Ev_name rfl) (El_cons (Ev_sub_list (Ev_name rfl) (Ev_nat (i := 0)) (by lia) (nat_get (i := 0) (by lia))) (El_cons (Ev.to (d' := rowD ((rowN mix many).drop 1)) (Ev_from (j := 1) (Ev_name rfl)) (by rw [rowD, List.map_drop])) El_nil)))) (call_best (k := k + 2) w (others := (rowN mix many).drop 1) (by show row0 (rowN mix many) < _; have := hrx _ hr0; lia) (fun d hd => by have := hd1 d hd; lia) (by lia) (fun d hd c hc => by rw [hll]; exact LO.lin d c hc) LO.len (by rw [List.length_drop]; lia) b0 b1 (by show (bestF _ _ (row0 (rowN mix many)) _).length ≤ _; lia))) ?_) Asg_name (Hs_nil rest))
    unfold nmsF
    rw [bytL, List.map_map]; rfl

theorem law_walk (w : Wd C) {sc : List Int} (hz : sc.length ≤ 1000) (hs : s0 = sc.take 24) (hps : ps = (histF s0 (manyF s0)).1) (hts : ts = (histF s0 (manyF s0)).2) (hmany : many = manyF s0) (hmix : mix = mixF s0) (hpl : ∀ d, (atL ps d).length ≤ 5) (hp : ∀ (i : Nat) (r : List Nat), ps[i]? = some r → ∀ x ∈ r, x < ps.length) (LO : LawOk ps ts many mix Dm lcL lcM) :
    Hs C ⟨k + 6, false⟩ (scLaw w) [("script", .val (.list (sc.map .int)))] (bodyOf 13) (RetQ (.bool true)) := by
  subst hmany hmix
  have hm : manyF s0 ≤ 7 := by unfold manyF; lia
  have hm0 : 0 < manyF s0 := by unfold manyF; lia
  have hl : ps.length = manyF s0 := by rw [hps]; exact (hist_len s0 _).1
  have hlt : ts.length = manyF s0 := by rw [hts]; exact (hist_len s0 _).2
  refine law_1 w hs hps hts (law_2 w hl hlt hm hpl fun fP fT L => law_3 w hl hlt hm hm0 hp (law_6 w hm hm0 LO L))
end
end Mine
namespace Mine

structure Fl4 where
  b0 : Bool
  b1 : Bool
  b2 : Bool
  b3 : Bool
noncomputable def enc4 (a b c d : Bool) : Nat := (if a then 1 else 0) + (if b then 2 else 0) + (if c then 4 else 0) + (if d then 8 else 0)
noncomputable def Fl4.nat (f : Fl4) : Nat := enc4 f.b0 f.b1 f.b2 f.b3
noncomputable def enc (f : Fl4) : Int := (f.nat : Int)
noncomputable def Fl4.or (f g : Fl4) : Fl4 := ⟨f.b0 || g.b0, f.b1 || g.b1, f.b2 || g.b2, f.b3 || g.b3⟩
noncomputable def Fl4.sub (g f : Fl4) : Bool := (!g.b0 || f.b0) && (!g.b1 || f.b1) && (!g.b2 || f.b2) && (!g.b3 || f.b3)
noncomputable def Fl4.m7 (f : Fl4) : Fl4 := ⟨f.b0, f.b1, f.b2, false⟩
noncomputable def Fl4.hit (f : Fl4) : Bool := f.b0 && f.b1 && !f.b2
noncomputable def Fl4.cf (f : Fl4) : Fl4 := if f.hit then ⟨true, true, true, false⟩ else f.m7
noncomputable def Fl4.zero : Fl4 := ⟨false, false, false, false⟩

theorem and4 : ∀ a b c d a' b' c' d' : Bool, Builtin.bitAnd (enc4 a b c d : Int) (enc4 a' b' c' d' : Int) = (enc4 (a && a') (b && b') (c && c') (d && d') : Int) := by decide +kernel
theorem or4 : ∀ a b c d a' b' c' d' : Bool, Builtin.bitOr (enc4 a b c d : Int) (enc4 a' b' c' d' : Int) = (enc4 (a || a') (b || b') (c || c') (d || d') : Int) := by decide +kernel
theorem or_lt4 : ∀ a b c d a' b' c' d' : Bool, Fl4.sub ⟨a', b', c', d'⟩ ⟨a, b, c, d⟩ = false → enc4 a b c d < enc4 (a || a') (b || b') (c || c') (d || d') := by decide +kernel
theorem enc4_le : ∀ a b c d : Bool, enc4 a b c d ≤ 15 := by decide

theorem enc_or (f g : Fl4) : Builtin.bitOr (enc f) (enc g) = enc (f.or g) := or4 ..
theorem sub4 : ∀ a b c d a' b' c' d' : Bool, (enc4 (a && a') (b && b') (c && c') (d && d') = enc4 a' b' c' d') = (Fl4.sub ⟨a', b', c', d'⟩ ⟨a, b, c, d⟩ = true) := by decide +kernel
theorem enc_sub (f g : Fl4) : (Builtin.bitAnd (enc f) (enc g) = enc g) ↔ g.sub f = true := by
  obtain ⟨a, b, c, d⟩ := f
  obtain ⟨a', b', c', d'⟩ := g
  rw [← sub4]
  show Builtin.bitAnd (enc4 a b c d : Int) (enc4 a' b' c' d' : Int) = (enc4 a' b' c' d' : Int) ↔ _
  rw [and4]; lia
theorem enc_m7 (f : Fl4) : Builtin.bitAnd (enc f) (Builtin.bitOr (Builtin.bitOr 1 2) 4) = enc f.m7 := by
  obtain ⟨a, b, c, d⟩ := f
  have := and4 a b c d true true true false
  rw [Bool.and_true, Bool.and_true, Bool.and_true, Bool.and_false] at this
  exact this
theorem hit4 : ∀ a b c d : Bool, ((enc4 a b c false : Int) = Builtin.bitOr 1 2) ↔ (Fl4.hit ⟨a, b, c, d⟩ = true) := by decide +kernel
theorem enc_hit (f : Fl4) : (enc f.m7 = Builtin.bitOr 1 2) ↔ f.hit = true := hit4 ..
theorem b24 : ∀ a b c d : Bool, (Builtin.bitAnd (enc4 a b c d : Int) 4 = 4) ↔ c = true := by decide +kernel
theorem enc_b2 (f : Fl4) : (Builtin.bitAnd (enc f) 4 = 4) ↔ f.b2 = true := b24 ..
theorem b34 : ∀ a b c d : Bool, (Builtin.bitAnd (enc4 a b c d : Int) 8 = 8) ↔ d = true := by decide +kernel
theorem enc_b3 (f : Fl4) : (Builtin.bitAnd (enc f) 8 = 8) ↔ f.b3 = true := b34 ..
theorem set34 : ∀ a b c d : Bool, Builtin.bitOr (enc4 a b c d : Int) 8 = (enc4 a b c true : Int) := by decide +kernel
theorem enc_set3 (f : Fl4) : Builtin.bitOr (enc f) 8 = enc ⟨f.b0, f.b1, f.b2, true⟩ := set34 ..
theorem set44 : ∀ a b c d : Bool, Fl4.hit ⟨a, b, c, d⟩ = true → Builtin.bitOr (enc4 a b c false : Int) 4 = (enc4 true true true false : Int) := by decide +kernel
theorem enc_set4 (f : Fl4) (h : f.hit = true) : Builtin.bitOr (enc f.m7) 4 = enc ⟨true, true, true, false⟩ := set44 f.b0 f.b1 f.b2 f.b3 h
theorem or_lt {f g : Fl4} (h : g.sub f = false) : (enc f).toNat < (enc (f.or g)).toNat := by
  obtain ⟨a, b, c, d⟩ := f
  obtain ⟨a', b', c', d'⟩ := g
  exact or_lt4 a b c d a' b' c' d' h
theorem enc_le (f : Fl4) : (enc f).toNat ≤ 15 := enc4_le ..
theorem subr4 : ∀ a b c d : Bool, Fl4.sub ⟨a, b, c, d⟩ ⟨a, b, c, d⟩ = true := by decide +kernel
theorem sub_refl (f : Fl4) : f.sub f = true := subr4 f.b0 f.b1 f.b2 f.b3
theorem subl4 : ∀ a b c d a' b' c' d' : Bool, Fl4.sub ⟨a, b, c, d⟩ (Fl4.or ⟨a, b, c, d⟩ ⟨a', b', c', d'⟩) = true := by decide +kernel
theorem sub_or_l (f g : Fl4) : f.sub (f.or g) = true := subl4 f.b0 f.b1 f.b2 f.b3 g.b0 g.b1 g.b2 g.b3
theorem subo4 : ∀ a b c d a' b' c' d' : Bool, Fl4.sub ⟨a', b', c', d'⟩ (Fl4.or ⟨a, b, c, d⟩ ⟨a', b', c', d'⟩) = true := by decide +kernel
theorem sub_or_r (f g : Fl4) : g.sub (f.or g) = true := subo4 f.b0 f.b1 f.b2 f.b3 g.b0 g.b1 g.b2 g.b3
theorem subi4 : ∀ a b c d a' b' c' d' : Bool, Fl4.sub ⟨a', b', c', d'⟩ ⟨a, b, c, d⟩ = true ↔ (a' = true → a = true) ∧ (b' = true → b = true) ∧ (c' = true → c = true) ∧ (d' = true → d = true) := by decide +kernel
theorem sub_iff {g f : Fl4} : g.sub f = true ↔ (g.b0 = true → f.b0 = true) ∧ (g.b1 = true → f.b1 = true) ∧ (g.b2 = true → f.b2 = true) ∧ (g.b3 = true → f.b3 = true) := subi4 f.b0 f.b1 f.b2 f.b3 g.b0 g.b1 g.b2 g.b3
theorem sub_trans {f g h : Fl4} (p : f.sub g = true) (q : g.sub h = true) : f.sub h = true := by
  rw [sub_iff] at *
  exact ⟨fun z => q.1 (p.1 z), fun z => q.2.1 (p.2.1 z), fun z => q.2.2.1 (p.2.2.1 z), fun z => q.2.2.2 (p.2.2.2 z)⟩

theorem flg_dputI (k c : B8) (f : Int) : ∀ (cst : List (B8 × Int)), flg (dputI cst k f) c = if c = k then f else flg cst c := by
  have key : ∀ (cst : List (B8 × Int)), (dputI cst k f).lookup c = if c = k then some f else cst.lookup c := by
    intro cst
    have hmap : ∀ (l : List (B8 × Int)), (l.map fun kv => if kv.1 = k then (kv.1, f) else kv).lookup c = if c = k ∧ l.any (fun kv => decide (kv.1 = k)) = true then some f else l.lookup c := by
      intro l
      induction l with
      | nil => simp
      | cons kv l ih =>
        obtain ⟨a, b⟩ := kv
        rw [List.map_cons]
        by_cases ha : a = k
        · subst ha
          simp only [if_true, List.lookup_cons, List.any_cons, decide_true, Bool.true_or, and_true]
          by_cases hc : c = a
          · subst hc; simp
          · have : (c == a) = false := by simpa using hc
            rw [this, if_neg hc]
            simp only
            rw [ih]; simp [hc]
        · rw [if_neg ha]
          simp only [List.lookup_cons, List.any_cons, decide_eq_false ha, Bool.false_or]
          by_cases hc : c = a
          · subst hc
            simp [ha]
          · have : (c == a) = false := by simpa using hc
            rw [this]
            simp only
            rw [ih]
    unfold dputI
    by_cases h : cst.any (fun kv => decide (kv.1 = k)) = true
    · rw [if_pos h, hmap, h]; simp
    · rw [if_neg h]
      have happ : ∀ (l : List (B8 × Int)), l.any (fun kv => decide (kv.1 = k)) ≠ true → (l ++ [(k, f)]).lookup c = if c = k then some f else l.lookup c := by
        intro l
        induction l with
        | nil =>
          intro _
          simp only [List.nil_append, List.lookup_cons, List.lookup_nil]
          by_cases hc : c = k
          · subst hc; simp
          · have : (c == k) = false := by simpa using hc
            rw [this, if_neg hc]
        | cons kv l ih =>
          intro hn
          obtain ⟨a, b⟩ := kv
          have hn : ¬ a = k ∧ ¬ l.any (fun kv => decide (kv.1 = k)) = true := by
            refine ⟨fun z => hn ?_, fun z => hn ?_⟩
            · rw [List.any_cons, z]; simp
            · rw [List.any_cons, z]; simp
          rw [List.cons_append]
          simp only [List.lookup_cons]
          by_cases hc : c = a
          · subst hc
            simp [hn.1]
          · have : (c == a) = false := by simpa using hc
            rw [this]
            exact ih hn.2
      exact happ cst h
  intro cst
  unfold flg
  rw [key]
  split <;> rfl

noncomputable def PhiC (U : List B8) (cst : List (B8 × Int)) : Nat := (U.map fun c => 15 - (flg cst c).toNat).sum
theorem sum_le {f g : B8 → Nat} : ∀ {U : List B8}, (∀ c ∈ U, f c ≤ g c) → (U.map f).sum ≤ (U.map g).sum
  | [], _ => Nat.le_refl _
  | a :: l, h => by
    rw [List.map_cons, List.map_cons, List.sum_cons, List.sum_cons]
    exact Nat.add_le_add (h a (.head _)) (sum_le fun c hc => h c (.tail _ hc))
theorem sum_lt {f g : B8 → Nat} {k : B8} : ∀ {U : List B8}, (∀ c ∈ U, f c ≤ g c) → k ∈ U → f k < g k → (U.map f).sum < (U.map g).sum
  | a :: l, h, hk, hl => by
    rw [List.map_cons, List.map_cons, List.sum_cons, List.sum_cons]
    rcases List.mem_cons.mp hk with rfl | hk
    · exact Nat.add_lt_add_of_lt_of_le hl (sum_le fun c hc => h c (.tail _ hc))
    · exact Nat.add_lt_add_of_le_of_lt (h a (.head _)) (sum_lt (fun c hc => h c (.tail _ hc)) hk hl)
theorem Phi_le {U : List B8} {cst : List (B8 × Int)} : PhiC U cst ≤ 15 * U.length := by
  unfold PhiC
  induction U with
  | nil => exact Nat.le_refl _
  | cons a l ih => rw [List.map_cons, List.sum_cons, List.length_cons]; omega
theorem nodup_sub : ∀ {m l : List B8}, l.Nodup → (∀ x ∈ l, x ∈ m) → l.length ≤ m.length
  | [], l, _, h => by
    cases l with
    | nil => exact Nat.le_refl _
    | cons a l => cases h a (.head _)
  | b :: m, l, nd, h => by
    have h1 := nodup_sub (m := m) (l := l.erase b) (nd.erase b) fun x hx => by
      refine ex0_2 (nd.mem_erase_iff.mp hx) fun p q => ?_
      rcases List.mem_cons.mp (h x q) with rfl | z
      · exact absurd rfl p
      · exact z
    have h2 : l.length ≤ (l.erase b).length + 1 := by
      rw [List.length_erase]; split <;> lia
    rw [List.length_cons]; lia

inductive Rch (R : B8 → B8 → Prop) (a : B8) : B8 → Prop
  | refl : Rch R a a
  | step {q p : B8} : Rch R a q → R q p → Rch R a p
theorem Rch.trans {R : B8 → B8 → Prop} {a b c : B8} (p : Rch R a b) (q : Rch R b c) : Rch R a c := by
  induction q with
  | refl => exact p
  | step _ e ih => exact .step ih e
noncomputable def Ed (Pt : B8 → Option (List B8)) (Tm : B8 → Option Int) (ms : Int) (c p : B8) : Prop := ∃ l t, Pt c = some l ∧ p ∈ l ∧ Tm p = some t ∧ ms ≤ t
structure Gr (Pt : B8 → Option (List B8)) (Tm : B8 → Option Int) (U : List B8) : Prop where
  par : ∀ c l, c ∈ U → Pt c = some l → l.length ≤ 5 ∧ ∀ p ∈ l, p ∈ U
  tm : ∀ c l p t, Pt c = some l → p ∈ l → Tm p = some t → t < hr Tm c
  len : U.length ≤ 7

section
variable {Pt : B8 → Option (List B8)} {Tm : B8 → Option Int} {ms : Int} {U : List B8} {c1 : B8} {c2s : List B8}
theorem Ed.hr {c p : B8} (G : Gr Pt Tm U) (e : Ed Pt Tm ms c p) : hr Tm p < hr Tm c := by
  refine ex2_4 e fun l t h1 h2 h3 _ => ?_; try clear e
  have := G.tm c l p t h1 h2 h3
  unfold Mine.hr at this ⊢
  rw [h3]; exact this
theorem Rch.hr {a v : B8} (G : Gr Pt Tm U) (r : Rch (Ed Pt Tm ms) a v) : a = v ∨ hr Tm v < hr Tm a := by
  induction r with
  | refl => exact .inl rfl
  | step _ e ih =>
    have := e.hr G
    rcases ih with rfl | h
    · exact .inr this
    · exact .inr (by lia)

noncomputable def Com (Pt : B8 → Option (List B8)) (Tm : B8 → Option Int) (ms : Int) (c1 : B8) (c2s : List B8) (v : B8) : Prop := Rch (Ed Pt Tm ms) c1 v ∧ ∃ c ∈ c2s, Rch (Ed Pt Tm ms) c v
noncomputable def Dom (Pt : B8 → Option (List B8)) (Tm : B8 → Option Int) (ms : Int) (c1 : B8) (c2s : List B8) (v : B8) : Prop := ∃ w, Com Pt Tm ms c1 c2s w ∧ w ≠ v ∧ Rch (Ed Pt Tm ms) w v
noncomputable def Mx (Pt : B8 → Option (List B8)) (Tm : B8 → Option Int) (ms : Int) (c1 : B8) (c2s : List B8) (v : B8) : Prop := Com Pt Tm ms c1 c2s v ∧ ¬ Dom Pt Tm ms c1 c2s v

theorem Dom.down {v p : B8} (G : Gr Pt Tm U) (h : Com Pt Tm ms c1 c2s v ∨ Dom Pt Tm ms c1 c2s v) (e : Ed Pt Tm ms v p) : Dom Pt Tm ms c1 c2s p := by
  have hl := e.hr G
  rcases h with h | ⟨w, hw, hn, r⟩
  · exact ⟨v, h, fun z => by subst z; lia, .step .refl e⟩
  · refine ⟨w, hw, fun z => ?_, .step r e⟩
    subst z
    rcases r.hr G with h | h
    · exact hn h
    · lia
end
end Mine
namespace Mine

noncomputable def updF (F : B8 → Fl4) (p : B8) (f : Fl4) : B8 → Fl4 := fun c => if c = p then f else F c
theorem or_idem (f g : Fl4) : (f.or g).or g = f.or g := by
  obtain ⟨a, b, c, d⟩ := f
  obtain ⟨a', b', c', d'⟩ := g
  simp [Fl4.or]

structure Fs (Tm : B8 → Option Int) (ms : Int) (U : List B8) (g : Fl4) (l : List B8) (cst : List (B8 × Int)) (hp : List Itm) (F : B8 → Fl4) (cst' : List (B8 × Int)) (hp' : List Itm) (F' : B8 → Fl4) : Prop where
  fl : ∀ c, flg cst' c = enc (F' c)
  ho : HO hp'
  it : ∀ x ∈ hp', x ∈ hp ∨ (x.1 = -(hr Tm x.2) ∧ x.2 ∈ l ∧ (∃ t, Tm x.2 = some t ∧ ms ≤ t) ∧ g.sub (F' x.2) = true)
  sb : ∀ x ∈ hp, x ∈ hp'
  mono : ∀ c, (F c).sub (F' c) = true
  ch : ∀ c, F' c = F c ∨ (F' c = (F c).or g ∧ c ∈ l ∧ (∃ t, Tm c = some t ∧ ms ≤ t) ∧ c ∈ hp'.map (·.2))
  al : ∀ p ∈ l, ∀ t, Tm p = some t → ms ≤ t → g.sub (F' p) = true
  p1 : cst'.length + PhiC U cst' ≤ cst.length + PhiC U cst
  p2 : hp'.length + PhiC U cst' ≤ hp.length + PhiC U cst
  p3 : PhiC U cst' ≤ PhiC U cst

section
variable {Tm : B8 → Option Int} {ms : Int} {U : List B8} {g : Fl4}
theorem Phi_dput {cst : List (B8 × Int)} {F : B8 → Fl4} {p : B8} {f : Fl4} (hf : ∀ c, flg cst c = enc (F c)) (hp : p ∈ U) (hlt : (enc (F p)).toNat < (enc f).toNat) : PhiC U (dputI cst p (enc f)) < PhiC U cst ∧ (∀ c, flg (dputI cst p (enc f)) c = enc (updF F p f c)) := by
  have e : ∀ c, flg (dputI cst p (enc f)) c = enc (updF F p f c) := fun c => by
    rw [flg_dputI]; unfold updF
    split
    · rfl
    · exact hf c
  refine ⟨?_, e⟩
  have hle := enc_le f
  unfold PhiC
  refine sum_lt (k := p) (fun c _ => ?_) hp ?_
  · rw [e, hf]; unfold updF
    split
    · rename_i h; subst h; lia
    · exact Nat.le_refl _
  · rw [e, hf]; unfold updF
    rw [if_pos rfl]; lia

theorem Fs.nil {cst : List (B8 × Int)} {hp : List Itm} {F : B8 → Fl4} (hf : ∀ c, flg cst c = enc (F c)) (ho : HO hp) : Fs Tm ms U g [] cst hp F cst hp F :=
  ⟨hf, ho, fun x h => .inl h, fun x h => h, fun c => sub_refl _, fun c => .inl rfl, (fun p h => by cases h), Nat.le_refl _, Nat.le_refl _, Nat.le_refl _⟩

theorem Fs.cons {p : B8} {l : List B8} {cst cst1 cst' : List (B8 × Int)} {hp hp1 hp' : List Itm} {F F1 F' : B8 → Fl4} (a : Fs Tm ms U g [p] cst hp F cst1 hp1 F1) (b : Fs Tm ms U g l cst1 hp1 F1 cst' hp' F') : Fs Tm ms U g (p :: l) cst hp F cst' hp' F' where
  fl := b.fl
  ho := b.ho
  it := fun x h => by
    rcases b.it x h with h1 | ⟨h1, h2, h3, h4⟩
    · rcases a.it x h1 with h1 | ⟨h1, h2, h3, h4⟩
      · exact .inl h1
      · exact .inr ⟨h1, by simp at h2; rw [h2]; exact .head _, h3, sub_trans h4 (b.mono _)⟩
    · exact .inr ⟨h1, .tail _ h2, h3, h4⟩
  sb := fun x h => b.sb x (a.sb x h)
  mono := fun c => sub_trans (a.mono c) (b.mono c)
  ch := fun c => by
    rcases a.ch c with h1 | ⟨h1, h2, h3, h4⟩
    · rcases b.ch c with k1 | ⟨k1, k2, k3, k4⟩
      · exact .inl (k1.trans h1)
      · exact .inr ⟨by rw [k1, h1], .tail _ k2, k3, k4⟩
    · have hm : c ∈ hp'.map (·.2) := by
        refine ex1_2 (List.mem_map.mp h4) fun x hx zq1 => ?_; subst zq1
        exact List.mem_map.mpr ⟨x, b.sb x hx, rfl⟩
      have hp : c ∈ p :: l := by simp at h2; rw [h2]; exact .head _
      rcases b.ch c with k1 | ⟨k1, k2, k3, k4⟩
      · exact .inr ⟨k1.trans h1, hp, h3, hm⟩
      · exact .inr ⟨by rw [k1, h1, or_idem], hp, h3, hm⟩
  al := fun q hq t h1 h2 => by
    rcases List.mem_cons.mp hq with rfl | hq
    · exact sub_trans (a.al _ (.head _) t h1 h2) (b.mono _)
    · exact b.al q hq t h1 h2
  p1 := Nat.le_trans b.p1 a.p1
  p2 := Nat.le_trans b.p2 a.p2
  p3 := Nat.le_trans b.p3 a.p3

theorem Fs.one {p : B8} {cst : List (B8 × Int)} {hp : List Itm} {F : B8 → Fl4} (hf : ∀ c, flg cst c = enc (F c)) (ho : HO hp) (hU : p ∈ U) : ∃ F', Fs Tm ms U g [p] cst hp F (pstep Tm ms (enc g) (cst, hp) p).1 (pstep Tm ms (enc g) (cst, hp) p).2 F' := by
  have same : ∀ (hal : ∀ t, Tm p = some t → ms ≤ t → g.sub (F p) = true), Fs Tm ms U g [p] cst hp F cst hp F := fun hal =>
    ⟨hf, ho, fun x h => .inl h, fun x h => h, fun c => sub_refl _, fun c => .inl rfl, (fun q hq t h1 h2 => by simp at hq; subst hq; exact hal t h1 h2), Nat.le_refl _, Nat.le_refl _, Nat.le_refl _⟩
  unfold pstep
  by_cases hs : Builtin.bitAnd (flg cst p) (enc g) = enc g
  · rw [if_pos hs]
    rw [hf, enc_sub] at hs
    exact ⟨F, same fun _ _ _ => hs⟩
  · rw [if_neg hs]
    cases ht : Tm p with
    | none => exact ⟨F, same fun t h => by exact no_some ht h⟩
    | some t =>
      show ∃ F', Fs Tm ms U g [p] cst hp F (if t < ms then (cst, hp) else _).1 (if t < ms then (cst, hp) else _).2 F'
      by_cases hm : t < ms
      · rw [if_pos hm]
        exact ⟨F, same fun t' h h2 => by obtain rfl := is_some ht h; lia⟩
      · rw [if_neg hm]
        rw [hf, enc_sub] at hs
        have hs : g.sub (F p) = false := by simpa using hs
        have hr' : hr Tm p = t := by unfold hr; rw [ht]; rfl
        refine ex0_2 (Phi_dput (f := (F p).or g) hf hU (or_lt hs)) fun q1 q2 => ?_
        refine ⟨updF F p ((F p).or g), ?_⟩
        show Fs Tm ms U g [p] cst hp F (dputI cst p (Builtin.bitOr (flg cst p) (enc g))) (pushL hp (-t, p)) _
        rw [hf, enc_or]
        have pm := pushL_perm hp (-t, p)
        have hz := dputI_len cst p (enc ((F p).or g))
        have hl := pm.length_eq
        rw [List.length_cons] at hl
        have hup : updF F p ((F p).or g) p = (F p).or g := by unfold updF; rw [if_pos rfl]
        refine ⟨q2, pushL_heap ho _, fun x hx => ?_, fun x hx => pm.mem_iff.mpr (.tail _ hx), fun c => ?_, fun c => ?_, fun q hq t' h1 h2 => ?_, by lia, by lia, by lia⟩
        · rcases List.mem_cons.mp (pm.mem_iff.mp hx) with rfl | hx
          · exact .inr ⟨by show -t = _; rw [hr'], .head _, ⟨t, ht, by lia⟩, by rw [hup]; exact sub_or_r _ _⟩
          · exact .inl hx
        · unfold updF; split
          · rename_i h; subst h; exact sub_or_l _ _
          · exact sub_refl _
        · unfold updF; split
          · rename_i h; subst h
            exact .inr ⟨rfl, .head _, ⟨t, ht, by lia⟩, List.mem_map.mpr ⟨(-t, c), pm.mem_iff.mpr (.head _), rfl⟩⟩
          · exact .inl rfl
        · simp at hq; subst hq
          rw [hup]; exact sub_or_r _ _

theorem Fs.fold : ∀ {l : List B8} {cst : List (B8 × Int)} {hp : List Itm} {F : B8 → Fl4}, (∀ c, flg cst c = enc (F c)) → HO hp → (∀ p ∈ l, p ∈ U) → ∃ F', Fs Tm ms U g l cst hp F (l.foldl (pstep Tm ms (enc g)) (cst, hp)).1 (l.foldl (pstep Tm ms (enc g)) (cst, hp)).2 F'
  | [], cst, hp, F, hf, ho, _ => ⟨F, Fs.nil hf ho⟩
  | p :: l, cst, hp, F, hf, ho, hU => by
    refine ex1_1 (Fs.one (Tm := Tm) (ms := ms) (g := g) hf ho (hU p (.head _))) fun F1 a => ?_
    refine ex1_1 (Fs.fold (l := l) a.fl a.ho fun q hq => hU q (.tail _ hq)) fun F' b => ?_
    exact ⟨F', a.cons b⟩
end
end Mine
namespace Mine

section
variable {Pt : B8 → Option (List B8)} {Tm : B8 → Option Int} {ms : Int} {U : List B8} {c1 : B8} {c2s : List B8} {K : Nat} {F : B8 → Fl4}

theorem prop_flag (T : Fl4 → Prop) (h1 : ∀ f, T f → T f.cf) (h2 : ∀ g f : Fl4, g.sub f = true → T g → T f) (G : Gr Pt Tm U) {a v : B8} (r : Rch (Ed Pt Tm ms) a v) (ha : T (F a))
    (hd : ∀ u, Rch (Ed Pt Tm ms) a u → Rch (Ed Pt Tm ms) u v → u ≠ v → ∀ p, Ed Pt Tm ms u p → (F u).cf.sub (F p) = true) : T (F v) := by
  induction r with
  | refl => exact ha
  | @step q p r e ih =>
    have hlt := e.hr G
    have hne : ∀ u, Rch (Ed Pt Tm ms) u q → u ≠ p := fun u hu z => by
      subst z
      rcases hu.hr G with rfl | h
      · lia
      · lia
    have hq := ih fun u k1 k2 k3 => hd u k1 (.step k2 e) (hne u k2)
    exact h2 _ _ (hd q r (.step .refl e) (hne q .refl) p e) (h1 _ hq)

theorem cf_b0 (f : Fl4) (h : f.b0 = true) : f.cf.b0 = true := by
  unfold Fl4.cf; split
  · rfl
  · exact h
theorem cf_b1 (f : Fl4) (h : f.b1 = true) : f.cf.b1 = true := by
  unfold Fl4.cf; split
  · rfl
  · exact h
theorem cf_b2 (f : Fl4) (h0 : f.b0 = true) (h1 : f.b1 = true) : f.cf.b2 = true := by
  obtain ⟨a, b, c, d⟩ := f
  dsimp only at h0 h1
  subst h0 h1
  cases c <;> rfl
theorem hit_iff {f : Fl4} : f.hit = true ↔ f.b0 = true ∧ f.b1 = true ∧ f.b2 = false := by
  obtain ⟨a, b, c, d⟩ := f
  cases a <;> cases b <;> cases c <;> simp [Fl4.hit]
theorem cf_back0 {f : Fl4} (h : f.cf.b0 = true) : f.b0 = true := by
  unfold Fl4.cf at h
  split at h
  · rename_i z; exact (hit_iff.mp z).1
  · exact h
theorem cf_back1 {f : Fl4} (h : f.cf.b1 = true) : f.b1 = true := by
  unfold Fl4.cf at h
  split at h
  · rename_i z; exact (hit_iff.mp z).2.1
  · exact h
theorem cf_back2 {f : Fl4} (h : f.cf.b2 = true) : f.hit = true ∨ f.b2 = true := by
  unfold Fl4.cf at h
  split at h
  · rename_i z; exact .inl z
  · exact .inr h
theorem cf_b3 (f : Fl4) : f.cf.b3 = false := by
  unfold Fl4.cf; split <;> rfl
theorem cf_congr {f g : Fl4} (h0 : f.b0 = g.b0) (h1 : f.b1 = g.b1) (h2 : f.b2 = g.b2) : f.cf = g.cf := by
  obtain ⟨a, b, c, d⟩ := f
  obtain ⟨a', b', c', d'⟩ := g
  dsimp only at h0 h1 h2
  subst h0 h1 h2
  rfl

structure Iv (Pt : B8 → Option (List B8)) (Tm : B8 → Option Int) (ms : Int) (U : List B8) (c1 : B8) (c2s : List B8) (K : Nat) (S : LS) (F : B8 → Fl4) : Prop where
  fl : ∀ c, flg S.cst c = enc (F c)
  ho : HO S.hp
  hi : ∀ x ∈ S.hp, x.1 = -(hr Tm x.2) ∧ x.2 ∈ U ∧ ((F x.2).b0 = true ∨ (F x.2).b1 = true)
  s0 : ∀ c, (F c).b0 = true → Rch (Ed Pt Tm ms) c1 c
  s1 : ∀ c, (F c).b1 = true → ∃ d ∈ c2s, Rch (Ed Pt Tm ms) d c
  s2 : ∀ c, (F c).b2 = true → (F c).b0 = true ∧ (F c).b1 = true ∧ Dom Pt Tm ms c1 c2s c
  pr : ∀ c, c ∈ S.hp.map (·.2) ∨ ∀ p, Ed Pt Tm ms c p → (F c).cf.sub (F p) = true
  cn : ∀ c, (F c).hit = true → c ∈ S.hp.map (·.2) ∨ (F c).b3 = true
  c3 : ∀ c, (F c).b3 = true ↔ c ∈ S.cands.map (·.2)
  cx : ∀ x ∈ S.cands, x.1 = hr Tm x.2 ∧ x.2 ∈ U ∧ Mx Pt Tm ms c1 c2s x.2
  co : S.cands.Pairwise fun x y => ltI (-x.1, x.2) (-y.1, y.2) = true
  cl : ∀ x ∈ S.cands, ∀ y ∈ S.hp, leI (-x.1, x.2) y
  i1 : (F c1).b0 = true
  i2 : ∀ c ∈ c2s, (F c).b1 = true
  p1 : S.cst.length + PhiC U S.cst ≤ K
  p2 : S.hp.length + PhiC U S.cst ≤ K
  p3 : S.cands.length + PhiC U S.cst ≤ K

structure Cd (Pt : B8 → Option (List B8)) (Tm : B8 → Option Int) (ms : Int) (U : List B8) (c1 : B8) (c2s : List B8) (S : LS) (F : B8 → Fl4) (it : Itm) (cands1 : List Itm) (cst1 : List (B8 × Int)) (F1 : B8 → Fl4) : Prop where
  fl : ∀ c, flg cst1 c = enc (F1 c)
  e0 : ∀ c, (F1 c).b0 = (F c).b0
  e1 : ∀ c, (F1 c).b1 = (F c).b1
  e2 : ∀ c, (F1 c).b2 = (F c).b2
  sb : ∀ c, (F c).sub (F1 c) = true
  c3 : ∀ c, (F1 c).b3 = true ↔ c ∈ cands1.map (·.2)
  cx : ∀ x ∈ cands1, x.1 = hr Tm x.2 ∧ x.2 ∈ U ∧ Mx Pt Tm ms c1 c2s x.2
  co : cands1.Pairwise fun x y => ltI (-x.1, x.2) (-y.1, y.2) = true
  cl : ∀ x ∈ cands1, leI (-x.1, x.2) it
  ht : (F it.2).hit = true → (F1 it.2).b3 = true
  p1 : cst1.length + PhiC U cst1 ≤ S.cst.length + PhiC U S.cst
  p2 : cands1.length + PhiC U cst1 ≤ S.cands.length + PhiC U S.cst
  p3 : PhiC U cst1 ≤ PhiC U S.cst

theorem Iv.low {S : LS} {it : Itm} {l : List Itm} (I : Iv Pt Tm ms U c1 c2s K S F) (hS : S.hp = it :: l) : ∀ u, hr Tm it.2 < hr Tm u → ∀ p, Ed Pt Tm ms u p → (F u).cf.sub (F p) = true := fun u hu => by
  rcases I.pr u with h | h
  · refine ex1_2 (List.mem_map.mp h) fun x hx zq1 => ?_; subst zq1
    rw [hS] at hx
    have ho := I.ho
    rw [hS] at ho
    have h1 := leI_time (ho.least x hx)
    have h2 := (I.hi x (by rw [hS]; exact hx)).1
    have h3 := (I.hi it (by rw [hS]; exact .head _)).1
    lia
  · exact h

theorem Iv.max {S : LS} {it : Itm} {l : List Itm} (G : Gr Pt Tm U) (I : Iv Pt Tm ms U c1 c2s K S F) (hS : S.hp = it :: l) (hh : (F it.2).hit = true) : Mx Pt Tm ms c1 c2s it.2 := by
  refine ex0_3 (hit_iff.mp hh) fun b0 b1 b2 => ?_
  refine ⟨⟨I.s0 _ b0, I.s1 _ b1⟩, ?_⟩
  intro zi1; refine ex1_3 zi1 fun w zq2 hne rw' => ?_; try clear zi1; refine ex0_2 zq2 fun r1 zq1 => ?_; try clear zq2; refine ex1_2 zq1 fun d hd r2 => ?_; try clear zq1
  have hw : hr Tm it.2 < hr Tm w := by
    rcases rw'.hr G with h | h
    · exact absurd h hne
    · exact h
  have up : ∀ u v, Rch (Ed Pt Tm ms) u v → hr Tm it.2 < hr Tm v → hr Tm it.2 < hr Tm u := fun u v h hv => by
    rcases h.hr G with rfl | h
    · exact hv
    · lia
  have w0 : (F w).b0 = true := prop_flag (fun f => f.b0 = true) cf_b0 (fun g f h => (sub_iff.mp h).1) G r1 I.i1 fun u _ k2 _ => I.low hS u (up u w k2 hw)
  have w1 : (F w).b1 = true := prop_flag (fun f => f.b1 = true) cf_b1 (fun g f h => (sub_iff.mp h).2.1) G r2 (I.i2 d hd) fun u _ k2 _ => I.low hS u (up u w k2 hw)
  cases rw' with
  | refl => exact hne rfl
  | @step q _ r e =>
    have hq : hr Tm it.2 < hr Tm q := e.hr G
    have q01 : (F q).b0 = true ∧ (F q).b1 = true := prop_flag (fun f => f.b0 = true ∧ f.b1 = true) (fun f h => ⟨cf_b0 f h.1, cf_b1 f h.2⟩) (fun g f h z => ⟨(sub_iff.mp h).1 z.1, (sub_iff.mp h).2.1 z.2⟩) G r ⟨w0, w1⟩ fun u _ k2 _ => I.low hS u (up u q k2 hq)
    have := (sub_iff.mp (I.low hS q hq _ e)).2.2.1 (cf_b2 _ q01.1 q01.2)
    rw [b2] at this; cases this

theorem Iv.cand {S : LS} {it : Itm} {l : List Itm} (G : Gr Pt Tm U) (I : Iv Pt Tm ms U c1 c2s K S F) (hS : S.hp = it :: l) : ∃ F1, Cd Pt Tm ms U c1 c2s S F it (cand1 S it).1 (cand1 S it).2 F1 := by
  have hit_mem : it ∈ S.hp := by rw [hS]; exact .head _
  refine ex0_3 (I.hi it hit_mem) fun hi1 hi2 hi3 => ?_
  have same : ((F it.2).hit = true → (F it.2).b3 = true) → Cd Pt Tm ms U c1 c2s S F it S.cands S.cst F := fun h =>
    ⟨I.fl, fun _ => rfl, fun _ => rfl, fun _ => rfl, fun _ => sub_refl _, I.c3, I.cx, I.co, fun x hx => I.cl x hx it hit_mem, h, Nat.le_refl _, Nat.le_refl _, Nat.le_refl _⟩
  have hh : hitS S it = (F it.2).hit := by
    unfold hitS cf0
    rw [I.fl, enc_m7, Bool.eq_iff_iff, decide_eq_true_iff, enc_hit]
  unfold cand1
  rw [hh, I.fl]
  by_cases h : (F it.2).hit = true
  · rw [if_pos h]
    by_cases h3 : Builtin.bitAnd (enc (F it.2)) 8 = 8
    · rw [if_pos h3]
      exact ⟨F, same fun _ => (enc_b3 _).mp h3⟩
    · rw [if_neg h3]
      have h3' : ¬ (F it.2).b3 = true := fun z => h3 ((enc_b3 _).mpr z)
      obtain ⟨f3, hf3⟩ : ∃ f3 : Fl4, f3 = ⟨(F it.2).b0, (F it.2).b1, (F it.2).b2, true⟩ := ⟨_, rfl⟩
      have hmax := I.max G hS h
      have hlt : (enc (F it.2)).toNat < (enc f3).toNat := by
        rw [hf3]
        generalize F it.2 = f at h3'
        obtain ⟨a, b, c, d⟩ := f
        cases d
        · cases a <;> cases b <;> cases c <;> decide
        · exact absurd rfl h3'
      refine ex0_2 (Phi_dput (f := f3) I.fl hi2 hlt) fun q1 q2 => ?_
      have hz := dputI_len S.cst it.2 (enc f3)
      refine ⟨updF F it.2 f3, ?_⟩
      rw [enc_set3, ← hf3]
      have hnm : it.2 ∉ S.cands.map (·.2) := fun z => h3' ((I.c3 _).mpr z)
      refine ⟨q2, fun c => ?_, fun c => ?_, fun c => ?_, fun c => ?_, fun c => ?_, fun x hx => ?_, ?_, fun x hx => ?_, fun _ => ?_, ?_, ?_, ?_⟩
      · unfold updF; split
        · rename_i z; subst z; rw [hf3]
        · rfl
      · unfold updF; split
        · rename_i z; subst z; rw [hf3]
        · rfl
      · unfold updF; split
        · rename_i z; subst z; rw [hf3]
        · rfl
      · unfold updF; split
        · rename_i z; subst z
          rw [hf3, sub_iff]; exact ⟨fun z => z, fun z => z, fun z => z, fun _ => rfl⟩
        · exact sub_refl _
      · unfold updF
        rw [List.map_append, List.mem_append]
        split
        · rename_i z; subst z
          exact ⟨fun _ => .inr (.head _), fun _ => by rw [hf3]⟩
        · rename_i z
          rw [I.c3]
          exact ⟨.inl, fun w => w.elim id fun w => absurd (by simpa using w) z⟩
      · rcases List.mem_append.mp hx with hx | hx
        · exact I.cx x hx
        · simp at hx; subst hx
          exact ⟨by show -it.1 = hr Tm it.2; lia, hi2, hmax⟩
      · refine List.pairwise_append.mpr ⟨I.co, List.pairwise_singleton _ _, fun x hx y hy => ?_⟩
        simp at hy; subst hy
        have h1 := I.cl x hx it hit_mem
        have hne : (-x.1, x.2) ≠ it := fun z => hnm (List.mem_map.mpr ⟨x, hx, by rw [← z]⟩)
        have : ((- -it.1, it.2) : Itm) = it := by rw [Int.neg_neg]
        show ltI (-x.1, x.2) (- -it.1, it.2) = true
        rw [this]
        exact ltI_total h1 fun z => hne z.symm
      · rcases List.mem_append.mp hx with hx | hx
        · exact I.cl x hx it hit_mem
        · simp at hx; subst hx
          have : ((- -it.1, it.2) : Itm) = it := by rw [Int.neg_neg]
          show leI (- -it.1, it.2) it
          rw [this]; exact leI_refl _
      · unfold updF; rw [if_pos rfl, hf3]
      · show (dputI S.cst it.2 _).length + PhiC U (dputI S.cst it.2 _) ≤ _
        lia
      · show (S.cands ++ [_]).length + PhiC U (dputI S.cst it.2 _) ≤ _
        rw [List.length_append, List.length_singleton]; lia
      · exact Nat.le_of_lt q1
  · rw [if_neg h]
    exact ⟨F, same fun z => absurd z h⟩
end
end Mine
namespace Mine

section
variable {Pt : B8 → Option (List B8)} {Tm : B8 → Option Int} {ms : Int} {U : List B8} {c1 : B8} {c2s : List B8} {K : Nat} {F : B8 → Fl4}

noncomputable def muS (U : List B8) (S : LS) : Nat := S.hp.length + PhiC U S.cst

theorem cf1_eq {S : LS} {it : Itm} (hf : ∀ c, flg S.cst c = enc (F c)) : cf1 S it = enc (F it.2).cf := by
  have hh : hitS S it = (F it.2).hit := by
    unfold hitS cf0
    rw [hf, enc_m7, Bool.eq_iff_iff, decide_eq_true_iff, enc_hit]
  unfold cf1 cf0 Fl4.cf
  rw [hh, hf, enc_m7]
  split
  · rename_i h; exact enc_set4 _ h
  · rfl

theorem Iv.step {S : LS} (G : Gr Pt Tm U) (I : Iv Pt Tm ms U c1 c2s K S F) (hh : hot S = true) : (∃ F', Iv Pt Tm ms U c1 c2s K (popS Pt Tm ms S) F') ∧ muS U (popS Pt Tm ms S) < muS U S := by
  obtain ⟨cands, cst, hp⟩ := S
  cases hp with
  | nil => cases hh
  | cons it l =>
  refine ex1_1 (I.cand G (it := it) (l := l) rfl) fun F1 Cn => ?_
  refine ex0_3 (I.hi it (.head _)) fun hi1 hi2 hi3 => ?_
  have hfl := I.fl
  dsimp only at hfl
  have hU : ∀ p ∈ (Pt it.2).getD [], p ∈ U := fun p hp => by
    cases e : Pt it.2 with
    | none => rw [e] at hp; cases hp
    | some q => rw [e] at hp; exact (G.par _ q hi2 e).2 p hp
  refine ex1_1 (Fs.fold (Tm := Tm) (ms := ms) (U := U) (g := (F it.2).cf) (l := (Pt it.2).getD []) Cn.fl (popL_heap I.ho) hU) fun F' Q => ?_
  have pl := popL_perm (m := it) (l := l)
  have plen := pl.length_eq
  have hpop : popS Pt Tm ms ⟨cands, cst, it :: l⟩ = ⟨(cand1 ⟨cands, cst, it :: l⟩ it).1, (((Pt it.2).getD []).foldl (pstep Tm ms (enc (F it.2).cf)) ((cand1 ⟨cands, cst, it :: l⟩ it).2, popL (it :: l))).1, (((Pt it.2).getD []).foldl (pstep Tm ms (enc (F it.2).cf)) ((cand1 ⟨cands, cst, it :: l⟩ it).2, popL (it :: l))).2⟩ := by
    unfold popS
    dsimp only
    rw [cf1_eq (S := ⟨cands, cst, it :: l⟩) (it := it) I.fl]
  rw [hpop]
  generalize (cand1 ⟨cands, cst, it :: l⟩ it).1 = cands1 at Cn ⊢
  generalize (cand1 ⟨cands, cst, it :: l⟩ it).2 = cst1 at Cn Q ⊢
  generalize (((Pt it.2).getD []).foldl (pstep Tm ms (enc (F it.2).cf)) (cst1, popL (it :: l))).1 = cst' at Q ⊢
  generalize (((Pt it.2).getD []).foldl (pstep Tm ms (enc (F it.2).cf)) (cst1, popL (it :: l))).2 = hp' at Q ⊢
  have Ip1 := I.p1; have Ip2 := I.p2; have Ip3 := I.p3
  have C1 := Cn.p1; have C2 := Cn.p2; have C3 := Cn.p3
  have Q1 := Q.p1; have Q2 : hp'.length + PhiC U cst' ≤ (popL (it :: l)).length + PhiC U cst1 := Q.p2; have Q3 := Q.p3
  dsimp only [List.length_cons] at Ip1 Ip2 Ip3 C1 C2 C3
  have edge : ∀ v, v ∈ (Pt it.2).getD [] → (∃ t, Tm v = some t ∧ ms ≤ t) → Ed Pt Tm ms it.2 v := fun v hv zq6 => ex1_2 zq6 fun t h1 h2 => by
    cases e : Pt it.2 with
    | none => rw [e] at hv; cases hv
    | some q => rw [e] at hv; exact ⟨q, t, e, hv, h1, h2⟩
  have edge' : ∀ v, Ed Pt Tm ms it.2 v → v ∈ (Pt it.2).getD [] ∧ ∃ t, Tm v = some t ∧ ms ≤ t := fun v zq7 => ex2_4 zq7 fun q t h1 h2 h3 h4 => ⟨by rw [h1]; exact h2, t, h3, h4⟩
  have hpm : ∀ v, v ∈ l.map (·.2) → v ∈ hp'.map (·.2) := fun v hv => by
    refine ex1_2 (List.mem_map.mp hv) fun x hx zq1 => ?_; subst zq1
    exact List.mem_map.mpr ⟨x, Q.sb x (pl.mem_iff.mpr hx), rfl⟩
  have selfF : F' it.2 = F1 it.2 := by
    rcases Q.ch it.2 with h | ⟨_, h2, h3, _⟩
    · exact h
    · have := (edge _ h2 h3).hr G
      lia
  have cfF1 : ∀ v, (F1 v).cf = (F v).cf := fun v => cf_congr (Cn.e0 v) (Cn.e1 v) (Cn.e2 v)
  have monoF : ∀ v, (F v).sub (F' v) = true := fun v => sub_trans (Cn.sb v) (Q.mono v)
  have S0 : ∀ c, (F' c).b0 = true → Rch (Ed Pt Tm ms) c1 c := fun c h => by
    rcases Q.ch c with e | ⟨e, h2, h3, _⟩
    · rw [e, Cn.e0] at h; exact I.s0 c h
    · rw [e] at h
      rcases Bool.or_eq_true _ _ |>.mp h with h | h
      · rw [Cn.e0] at h; exact I.s0 c h
      · exact .step (I.s0 _ (cf_back0 h)) (edge c h2 h3)
  have S1 : ∀ c, (F' c).b1 = true → ∃ d ∈ c2s, Rch (Ed Pt Tm ms) d c := fun c h => by
    rcases Q.ch c with e | ⟨e, h2, h3, _⟩
    · rw [e, Cn.e1] at h; exact I.s1 c h
    · rw [e] at h
      rcases Bool.or_eq_true _ _ |>.mp h with h | h
      · rw [Cn.e1] at h; exact I.s1 c h
      · refine ex1_2 (I.s1 _ (cf_back1 h)) fun d hd r => ?_
        exact ⟨d, hd, .step r (edge c h2 h3)⟩
  have S2 : ∀ c, (F' c).b2 = true → (F' c).b0 = true ∧ (F' c).b1 = true ∧ Dom Pt Tm ms c1 c2s c := fun c h => by
    have old : (F c).b2 = true → (F' c).b0 = true ∧ (F' c).b1 = true ∧ Dom Pt Tm ms c1 c2s c := fun z => by
      refine ex0_3 (I.s2 c z) fun a b d => ?_
      have := sub_iff.mp (monoF c)
      exact ⟨this.1 a, this.2.1 b, d⟩
    rcases Q.ch c with e | ⟨e, h2, h3, _⟩
    · rw [e, Cn.e2] at h; exact old h
    · have h' := h
      rw [e] at h'
      rcases Bool.or_eq_true _ _ |>.mp h' with h' | h'
      · rw [Cn.e2] at h'; exact old h'
      · have ed := edge c h2 h3
        have al := sub_iff.mp (by obtain ⟨t, h5, h6⟩ := h3; exact Q.al c h2 t h5 h6)
        rcases cf_back2 h' with hh | hb
        · refine ex0_3 (hit_iff.mp hh) fun a0 a1 _ => ?_
          exact ⟨al.1 (cf_b0 _ a0), al.2.1 (cf_b1 _ a1), Dom.down G (.inl ⟨I.s0 _ a0, I.s1 _ a1⟩) ed⟩
        · refine ex0_3 (I.s2 _ hb) fun a0 a1 d => ?_
          exact ⟨al.1 (cf_b0 _ a0), al.2.1 (cf_b1 _ a1), Dom.down G (.inr d) ed⟩
  refine ⟨⟨F', Q.fl, Q.ho, fun x hx => ?_, S0, S1, S2, fun v => ?_, fun v hv => ?_, fun v => ?_, Cn.cx, Cn.co, fun x hx y hy => ?_, (sub_iff.mp (monoF c1)).1 I.i1, fun c hc => (sub_iff.mp (monoF c)).2.1 (I.i2 c hc), ?_, ?_, ?_⟩, ?_⟩
  · rcases Q.it x hx with h | ⟨h1, h2, h3, h4⟩
    · refine ex0_3 (I.hi x (.tail _ (pl.mem_iff.mp h))) fun a b c => ?_
      have := sub_iff.mp (monoF x.2)
      exact ⟨a, b, c.imp this.1 this.2.1⟩
    · have := sub_iff.mp h4
      exact ⟨h1, hU _ h2, hi3.imp (fun z => this.1 (cf_b0 _ z)) fun z => this.2.1 (cf_b1 _ z)⟩
  · by_cases hv : v = it.2
    · subst hv
      refine .inr fun p e => ?_
      refine ex0_2 (edge' p e) fun h1 zq2 => ?_; refine ex1_2 zq2 fun t h2 h3 => ?_; try clear zq2
      rw [selfF, cfF1]
      exact Q.al p h1 t h2 h3
    · rcases Q.ch v with e | ⟨_, _, _, h4⟩
      · rcases I.pr v with h | h
        · refine ex1_2 (List.mem_map.mp h) fun x hx zq3 => ?_; subst zq3
          rcases List.mem_cons.mp hx with rfl | hx
          · exact absurd rfl hv
          · exact .inl (hpm _ (List.mem_map.mpr ⟨x, hx, rfl⟩))
        · refine .inr fun p e' => ?_
          rw [e, cfF1]
          exact sub_trans (h p e') (monoF p)
      · exact .inl h4
  · rcases Q.ch v with e | ⟨_, _, _, h4⟩
    · rw [e] at hv ⊢
      have hvF : (F v).hit = true := by
        rw [hit_iff] at hv ⊢
        rw [Cn.e0, Cn.e1, Cn.e2] at hv; exact hv
      by_cases hvi : v = it.2
      · subst hvi; exact .inr (Cn.ht hvF)
      · rcases I.cn v hvF with h | h
        · refine ex1_2 (List.mem_map.mp h) fun x hx zq4 => ?_; subst zq4
          rcases List.mem_cons.mp hx with rfl | hx
          · exact absurd rfl hvi
          · exact .inl (hpm _ (List.mem_map.mpr ⟨x, hx, rfl⟩))
        · exact .inr ((sub_iff.mp (Cn.sb v)).2.2.2 h)
    · exact .inl h4
  · rw [← Cn.c3]
    rcases Q.ch v with e | ⟨e, _⟩
    · rw [e]
    · rw [e]
      show ((F1 v).b3 || (F it.2).cf.b3) = true ↔ _
      rw [cf_b3, Bool.or_false]
  · rcases Q.it y hy with h | ⟨h1, h2, h3, _⟩
    · have hy' : y ∈ it :: l := .tail _ (pl.mem_iff.mp h)
      exact leI_trans (Cn.cl x hx) (I.ho.least y hy')
    · have := (edge _ h2 h3).hr G
      exact leI_trans (Cn.cl x hx) (leI_of_lt (ltI_iff.mpr (.inl (by lia))))
  · dsimp only; lia
  · dsimp only; lia
  · dsimp only; lia
  · show hp'.length + PhiC U cst' < (it :: l).length + PhiC U cst
    rw [List.length_cons]; lia

theorem start_ok (G : Gr Pt Tm U) (h1 : c1 ∈ U) (h2 : ∀ c ∈ c2s, c ∈ U) (hl : c2s.length ≤ 10) : ∃ F, Iv Pt Tm ms U c1 c2s 200 (start Tm c1 c2s) F := by
  have hP : ∀ cst, PhiC U cst ≤ 105 := fun cst => Nat.le_trans Phi_le (by have := G.len; lia)
  have key : ∀ (r : List B8) (cst : List (B8 × Int)) (hp : List Itm) (F : B8 → Fl4) (n : Nat), (∀ c ∈ r, c ∈ U) → (∀ c, flg cst c = enc (F c)) → HO hp → (∀ x ∈ hp, x.1 = -(hr Tm x.2) ∧ x.2 ∈ U ∧ ((F x.2).b0 = true ∨ (F x.2).b1 = true)) →
      (∀ c, (F c).b0 = true ↔ c = c1) → (∀ c, (F c).b2 = false ∧ (F c).b3 = false) → (∀ c, (F c).b0 = true ∨ (F c).b1 = true → c ∈ hp.map (·.2)) → cst.length ≤ n → hp.length ≤ n →
      ∃ F' : B8 → Fl4, (∀ c, flg (r.foldl (c2step Tm) (cst, hp)).1 c = enc (F' c)) ∧ HO (r.foldl (c2step Tm) (cst, hp)).2 ∧ (∀ x ∈ (r.foldl (c2step Tm) (cst, hp)).2, x.1 = -(hr Tm x.2) ∧ x.2 ∈ U ∧ ((F' x.2).b0 = true ∨ (F' x.2).b1 = true)) ∧
        (∀ c, (F' c).b0 = true ↔ c = c1) ∧ (∀ c, (F' c).b2 = false ∧ (F' c).b3 = false) ∧ (∀ c, (F' c).b0 = true ∨ (F' c).b1 = true → c ∈ (r.foldl (c2step Tm) (cst, hp)).2.map (·.2)) ∧ (r.foldl (c2step Tm) (cst, hp)).1.length ≤ n + r.length ∧ (r.foldl (c2step Tm) (cst, hp)).2.length ≤ n + r.length ∧
        (∀ c, (F' c).b1 = true ↔ (F c).b1 = true ∨ c ∈ r) := by
    intro r
    induction r with
    | nil => exact fun cst hp F n _ a b c d e f g h => ⟨F, a, b, c, d, e, f, g, h, fun c => by simp⟩
    | cons p r ih =>
      intro cst hp F n hU a b c d e f g h
      have hpU := hU p (.head _)
      have pm := pushL_perm hp (-(hr Tm p), p)
      have hlen := pm.length_eq
      rw [List.length_cons] at hlen
      have e2 : (2 : Int) = enc ⟨false, true, false, false⟩ := rfl
      obtain ⟨f3, hf3⟩ : ∃ f3 : Fl4, f3 = (F p).or ⟨false, true, false, false⟩ := ⟨_, rfl⟩
      have hst : c2step Tm (cst, hp) p = (dputI cst p (enc f3), pushL hp (-(hr Tm p), p)) := by
        unfold c2step
        dsimp only
        rw [a, e2, enc_or, hf3]
      have q2 : ∀ c, flg (dputI cst p (enc f3)) c = enc (updF F p f3 c) := fun c => by
        rw [flg_dputI]; unfold updF
        split
        · rfl
        · exact a c
      have u0 : ∀ c, (updF F p f3 c).b0 = (F c).b0 := fun c => by
        unfold updF; split
        · rename_i z; subst z; rw [hf3]; simp [Fl4.or]
        · rfl
      have u1 : ∀ c, (updF F p f3 c).b1 = true ↔ (F c).b1 = true ∨ c = p := fun c => by
        unfold updF; split
        · rename_i z; subst z; rw [hf3]; simp [Fl4.or]
        · rename_i z; simp [z]
      have u23 : ∀ c, (updF F p f3 c).b2 = (F c).b2 ∧ (updF F p f3 c).b3 = (F c).b3 := fun c => by
        unfold updF; split
        · rename_i z; subst z; rw [hf3]; simp [Fl4.or]
        · exact ⟨rfl, rfl⟩
      have hz := dputI_len cst p (enc f3)
      rw [List.foldl_cons, hst]
      obtain ⟨F', k1, k2, k3, k4, k5, k6, k7, k8, k9⟩ := ih (dputI cst p (enc f3)) (pushL hp (-(hr Tm p), p)) (updF F p f3) (n + 1) (fun c hc => hU c (.tail _ hc)) q2 (pushL_heap b _) (fun x hx => by
        rcases List.mem_cons.mp (pm.mem_iff.mp hx) with rfl | hx
        · exact ⟨rfl, hpU, .inr ((u1 _).mpr (.inr rfl))⟩
        · refine ex0_3 (c x hx) fun i j m => ?_
          exact ⟨i, j, m.imp (fun z => by rw [u0]; exact z) fun z => (u1 _).mpr (.inl z)⟩) (fun c => by rw [u0]; exact d c) (fun c => by rw [(u23 c).1, (u23 c).2]; exact e c) (fun c hc => by
        by_cases z : c = p
        · subst z
          exact List.mem_map.mpr ⟨_, pm.mem_iff.mpr (.head _), rfl⟩
        · have := f c (hc.imp (fun w => by rw [u0] at w; exact w) fun w => ((u1 c).mp w).elim id fun w => absurd w z)
          refine ex1_2 (List.mem_map.mp this) fun x hx zq5 => ?_; subst zq5
          exact List.mem_map.mpr ⟨x, pm.mem_iff.mpr (.tail _ hx), rfl⟩) (by lia) (by lia)
      refine ⟨F', k1, k2, k3, k4, k5, k6, by rw [List.length_cons]; lia, by rw [List.length_cons]; lia, fun c => ?_⟩
      rw [k9, u1, List.mem_cons]
      exact or_assoc
  have f0 : ∀ c, flg (dputI [] c1 1) c = enc (updF (fun _ => Fl4.zero) c1 ⟨true, false, false, false⟩ c) := fun c => by
    rw [flg_dputI]; unfold updF
    split <;> rfl
  obtain ⟨F, k1, k2, k3, k4, k5, k6, k7, k8, k9⟩ := key c2s (dputI [] c1 1) (pushL [] (-(hr Tm c1), c1)) (updF (fun _ => Fl4.zero) c1 ⟨true, false, false, false⟩) 1 h2 f0 (pushL_heap HO.nil _) (fun x hx => by
      have := (pushL_perm [] (-(hr Tm c1), c1)).mem_iff.mp hx
      simp at this
      subst this
      exact ⟨rfl, h1, .inl (by unfold updF; rw [if_pos rfl])⟩) (fun c => by
      unfold updF; split
      · rename_i z; simp [z]
      · rename_i z; simp [z, Fl4.zero]) (fun c => by
      unfold updF; split <;> exact ⟨rfl, rfl⟩) (fun c hc => by
      have : c = c1 := by
        unfold updF at hc; split at hc
        · assumption
        · simp [Fl4.zero] at hc
      subst this
      exact List.mem_map.mpr ⟨_, (pushL_perm [] (-(hr Tm c), c)).mem_iff.mpr (.head _), rfl⟩) (dputI_len [] c1 1) (by rw [(pushL_perm [] (-(hr Tm c1), c1)).length_eq]; exact Nat.le_refl _)
  have b1 : ∀ c, (F c).b1 = true ↔ c ∈ c2s := fun c => by
    rw [k9]
    have : (updF (fun _ => Fl4.zero) c1 ⟨true, false, false, false⟩ c).b1 = false := by unfold updF; split <;> rfl
    rw [this]; simp
  refine ⟨F, k1, k2, k3, fun c h => ?_, fun c h => ⟨c, (b1 c).mp h, .refl⟩, (fun c h => by rw [(k5 c).1] at h; cases h), fun c => ?_, fun c h => .inl (k6 c (.inl (hit_iff.mp h).1)), fun c => ?_, (fun x h => by cases h), .nil, (fun x h => by cases h), (k4 c1).mpr rfl, fun c hc => (b1 c).mpr hc, ?_, ?_, ?_⟩
  · rw [k4] at h; subst h; exact .refl
  · by_cases h : (F c).b0 = true ∨ (F c).b1 = true
    · exact .inl (k6 c h)
    · refine .inr fun p _ => ?_
      have z0 : (F c).b0 = false := by cases e : (F c).b0 <;> simp_all
      have z1 : (F c).b1 = false := by cases e : (F c).b1 <;> simp_all
      have z2 := (k5 c).1
      have : (F c).cf = Fl4.zero := by
        unfold Fl4.cf
        rw [if_neg (by rw [hit_iff, z0]; simp)]
        unfold Fl4.m7; rw [z0, z1, z2]; rfl
      rw [this]; rfl
  · rw [(k5 c).2]
    show false = true ↔ c ∈ ([] : List Itm).map (·.2)
    simp
  · have := hP (start Tm c1 c2s).cst
    show (start Tm c1 c2s).cst.length + _ ≤ _
    have : (start Tm c1 c2s).cst.length ≤ 1 + c2s.length := k7
    lia
  · have := hP (start Tm c1 c2s).cst
    show (start Tm c1 c2s).hp.length + _ ≤ _
    have : (start Tm c1 c2s).hp.length ≤ 1 + c2s.length := k8
    lia
  · have := hP (start Tm c1 c2s).cst
    show ([] : List Itm).length + _ ≤ _
    rw [List.length_nil]; lia
end
end Mine
namespace Mine

section
variable {Pt : B8 → Option (List B8)} {Tm : B8 → Option Int} {ms : Int} {U : List B8} {c1 : B8} {c2s : List B8} {K : Nat} {F : B8 → Fl4}

theorem Dom.path {u v : B8} (G : Gr Pt Tm U) (h : Dom Pt Tm ms c1 c2s u) (r : Rch (Ed Pt Tm ms) u v) : Dom Pt Tm ms c1 c2s v := by
  refine ex1_3 h fun w hw hn rw' => ?_; try clear h
  refine ⟨w, hw, fun z => ?_, rw'.trans r⟩
  subst z
  rcases r.hr G with h | h
  · exact hn h.symm
  · rcases rw'.hr G with k | k
    · exact hn k
    · lia

theorem flg_some {cst : List (B8 × Int)} {c : B8} (h : flg cst c ≠ 0) : (cst.lookup c).isSome = true := by
  unfold flg at h
  cases e : cst.lookup c with
  | none => rw [e] at h; exact absurd rfl h
  | some _ => rfl
theorem enc_ne {f : Fl4} (h : f.b0 = true ∨ f.b1 = true ∨ f.b3 = true) : enc f ≠ 0 := by
  obtain ⟨a, b, c, d⟩ := f
  revert h
  cases a <;> cases b <;> cases c <;> cases d <;> decide

theorem Iv.cold {S : LS} (I : Iv Pt Tm ms U c1 c2s K S F) (hb : hot S = false) : ∀ c ∈ S.hp.map (·.2), (F c).b2 = true := fun c hc => by
  refine ex1_2 (List.mem_map.mp hc) fun x hx zq1 => ?_; subst zq1
  unfold hot at hb
  have h := List.any_eq_false.mp hb x hx
  have hs := flg_some (cst := S.cst) (c := x.2) (by rw [I.fl]; exact enc_ne ((I.hi x hx).2.2.imp id .inl))
  rw [← enc_b2, ← I.fl]
  unfold hotB at h
  unfold flg
  cases e : S.cst.lookup x.2 with
  | none => rw [e] at hs; cases hs
  | some f =>
    rw [e] at h
    simpa using h

theorem Iv.mem {S : LS} (G : Gr Pt Tm U) (I : Iv Pt Tm ms U c1 c2s K S F) (hb : hot S = false) (v : B8) : v ∈ S.cands.map (·.2) ↔ Mx Pt Tm ms c1 c2s v := by
  constructor
  · intro h
    refine ex1_2 (List.mem_map.mp h) fun x hx zq2 => ?_; subst zq2
    exact (I.cx x hx).2.2
  · intro zi1; refine ex0_2 zi1 fun zq3 hnd => ?_; try clear zi1; refine ex0_2 zq3 fun r1 zq1 => ?_; try clear zq3; refine ex1_2 zq1 fun d hd r2 => ?_; try clear zq1
    have dn : ∀ u, Rch (Ed Pt Tm ms) u v → ∀ p, Ed Pt Tm ms u p → (F u).cf.sub (F p) = true := fun u r => by
      rcases I.pr u with h | h
      · exact absurd (Dom.path G (I.s2 u (I.cold hb u h)).2.2 r) hnd
      · exact h
    have v0 : (F v).b0 = true := prop_flag (fun f => f.b0 = true) cf_b0 (fun g f h => (sub_iff.mp h).1) G r1 I.i1 fun u _ k2 _ => dn u k2
    have v1 : (F v).b1 = true := prop_flag (fun f => f.b1 = true) cf_b1 (fun g f h => (sub_iff.mp h).2.1) G r2 (I.i2 d hd) fun u _ k2 _ => dn u k2
    have v2 : (F v).b2 = false := by
      cases e : (F v).b2 with
      | false => rfl
      | true => exact absurd (I.s2 v e).2.2 hnd
    rcases I.cn v (hit_iff.mpr ⟨v0, v1, v2⟩) with h | h
    · have := I.cold hb v h
      rw [v2] at this; cases this
    · exact (I.c3 v).mp h

noncomputable def Rs (Tm : B8 → Option Int) (x y : B8) : Prop := hr Tm x < hr Tm y ∨ (hr Tm x = hr Tm y ∧ ltB x y = true)
theorem Rs_as (Tm : B8 → Option Int) (x y : B8) (h : Rs Tm x y) : ¬ Rs Tm y x := by
  intro k
  rcases h with h | ⟨h, h'⟩ <;> rcases k with k | ⟨k, k'⟩
  · lia
  · lia
  · lia
  · have := ltB_trans h' k'
    rw [ltB_irrefl] at this; cases this

theorem keep_all {cst : List (B8 × Int)} : ∀ (l res : List Itm), (∀ x ∈ l, Builtin.bitAnd (flg cst x.2) 4 ≠ 4) → (res ++ l).Nodup → l.foldl (keepR cst) res = res ++ l
  | [], res, _, _ => by simp
  | x :: l, res, h, nd => by
    have e : keepR cst res x = res ++ [x] := by
      unfold keepR
      rw [if_pos]
      rw [decide_eq_false (h x (.head _))]
      have : res.any (fun y => decide (y.1 = x.1) && decide (y.2 = x.2)) = false := by
        rw [List.any_eq_false]
        intro y hy z
        rw [Bool.and_eq_true, decide_eq_true_iff, decide_eq_true_iff] at z
        have : y = x := Prod.ext z.1 z.2
        subst this
        exact (List.nodup_append.mp nd).2.2 y hy y (.head _) rfl
      rw [this]; rfl
    rw [List.foldl_cons, e, keep_all l (res ++ [x]) (fun y hy => h y (.tail _ hy)) (by rw [List.append_assoc]; exact nd), List.append_assoc]
    rfl

theorem lc_ok (G : Gr Pt Tm U) (h1 : c1 ∈ U) (h2 : ∀ c ∈ c2s, c ∈ U) (hl : c2s.length ≤ 10) {rl : List B8} (hrl : rl.Pairwise (Rs Tm)) (hmem : ∀ v, v ∈ rl ↔ Mx Pt Tm ms c1 c2s v) (hlen : rl.length ≤ 10) :
    LcOk Pt Tm ms (· ∈ U) (fun S => ∃ F, Iv Pt Tm ms U c1 c2s 200 S F) (muS U) c1 c2s rl where
  init := start_ok G h1 h2 hl
  step := fun S zq5 => ex1_1 zq5 fun F I hb => I.step G hb
  bound := fun S zq6 => ex1_1 zq6 fun F I => by
    have a := I.p1; have b := I.p2; have c := I.p3
    exact ⟨by lia, by lia, by lia⟩
  keys := fun S zq7 => ex1_1 zq7 fun F I => ⟨fun x hx => ⟨flg_some (by rw [I.fl]; exact enc_ne ((I.hi x hx).2.2.imp id .inl)), (I.hi x hx).2.1⟩, fun x hx => flg_some (by rw [I.fl]; exact enc_ne (.inr (.inr ((I.c3 _).mpr (List.mem_map.mpr ⟨x, hx, rfl⟩)))))⟩
  par := fun c l hc h => ⟨by have := (G.par c l hc h).1; lia, (G.par c l hc h).2⟩
  d1 := h1
  d2 := h2
  len2 := by lia
  lenr := by lia
  fin := fun S zq8 => ex1_1 zq8 fun F I hb => by
    have hw : S.cands.Pairwise fun x y => y.1 < x.1 ∨ (x.1 = y.1 ∧ ltB x.2 y.2 = true) := I.co.imp fun {x y} h => by
      rcases ltI_iff.mp h with h | ⟨h, h'⟩
      · dsimp only at h; exact .inl (by lia)
      · dsimp only at h; exact .inr ⟨by lia, h'⟩
    have hne : ∀ x y : Itm, (x.1 = hr Tm x.2) → (y.1 = hr Tm y.2) → (y.1 < x.1 ∨ (x.1 = y.1 ∧ ltB x.2 y.2 = true)) → x.2 ≠ y.2 := fun x y e1 e2 h z => by
      rcases h with h | ⟨_, h⟩
      · rw [z] at e1; lia
      · rw [z, ltB_irrefl] at h; cases h
    have hnd : (S.cands.map (·.2)).Nodup := by
      refine List.pairwise_map.mpr ?_
      refine hw.imp_of_mem fun {x y} hx hy h => hne x y (I.cx x hx).1 (I.cx y hy).1 h
    have h7 : S.cands.length ≤ 7 := by
      have := nodup_sub (m := U) hnd fun v hv => by
        refine ex1_2 (List.mem_map.mp hv) fun x hx zq4 => ?_; subst zq4
        exact (I.cx x hx).2.1
      rw [List.length_map] at this
      exact Nat.le_trans this G.len
    have hres : resF S = S.cands := by
      unfold resF
      rw [keep_all S.cands [] (fun x hx => ?_) ?_, List.nil_append]
      · rw [List.nil_append]
        exact (List.pairwise_map.mp hnd).imp fun {x y} h z => h (by rw [z])
      · rw [I.fl]
        intro z
        exact (I.cx x hx).2.2.2 (I.s2 _ ((enc_b2 _).mp z)).2.2
    refine ex0_3 (srt_down (f := fun x : Itm => x.1) hw h7) fun a1 a2 a3 => ?_
    rw [hres]
    refine ⟨a1, by lia, ?_⟩
    refine sorted_unique (Rs_as Tm) ?_ hrl fun v => ?_
    · refine List.pairwise_map.mpr ?_
      refine List.Pairwise.imp_of_mem (fun {x y} hx hy h => ?_) a3
      have ex := (I.cx x ((a2 x).mp hx)).1
      have ey := (I.cx y ((a2 y).mp hy)).1
      rcases h with h | ⟨h, h'⟩
      · exact .inl (by lia)
      · exact .inr ⟨by lia, h'⟩
    · rw [hmem, ← I.mem G hb]
      simp only [List.mem_map]
      exact ⟨fun zq9 => ex1_2 zq9 fun x hx e => ⟨x, (a2 x).mp hx, e⟩, fun zq10 => ex1_2 zq10 fun x hx e => ⟨x, (a2 x).mpr hx, e⟩⟩
end
end Mine
namespace Mine

section
variable {sc : List Int}
noncomputable def Rw (sc : List Int) (i : Nat) : List Nat := rowF (hN sc i) i
noncomputable def Tt (sc : List Int) (i : Nat) : Int := timF (histF sc i).2 (hN sc i) (Rw sc i)
theorem hist_get (sc : List Int) : ∀ m i, i < m → (histF sc m).1[i]? = some (Rw sc i) ∧ (histF sc m).2[i]? = some (Tt sc i)
  | 0, i, h => by lia
  | m + 1, i, h => by
    refine ex0_2 (hist_len sc m) fun l1 l2 => ?_
    show ((histF sc m).1 ++ [_])[i]? = _ ∧ ((histF sc m).2 ++ [_])[i]? = _
    rcases Nat.lt_or_ge i m with h' | h'
    · rw [List.getElem?_append_left (by lia), List.getElem?_append_left (by lia)]
      exact hist_get sc m i h'
    · have : i = m := by lia
      subst this
      rw [List.getElem?_append_right (by lia), List.getElem?_append_right (by lia), l1, l2, Nat.sub_self]
      exact ⟨rfl, rfl⟩
theorem Tt_gt {i q : Nat} (h : q ∈ Rw sc i) : Tt sc q < Tt sc i := by
  have hq : q < i := rowF_in _ _ q h
  have h1 := (foldmax ((Rw sc i).map fun q => (histF sc i).2[q]?.getD 0) (-1)).2 (Tt sc q) (.tail _ (List.mem_map.mpr ⟨q, h, by rw [(hist_get sc i q hq).2]; rfl⟩))
  show Tt sc q < 1 + maxL _ + _
  unfold maxL
  lia
theorem Tt_nn (i : Nat) : 0 ≤ Tt sc i := by
  have h1 := (foldmax ((Rw sc i).map fun q => (histF sc i).2[q]?.getD 0) (-1)).2 (-1) (.head _)
  show 0 ≤ 1 + maxL _ + _
  unfold maxL
  lia
end

section
variable {α : Type}
theorem dputT_lookup (k c : B8) (f : α) : ∀ (cst : List (B8 × α)), (dputT cst k f).lookup c = if c = k then some f else cst.lookup c := by
  intro cst
  have hmap : ∀ (l : List (B8 × α)), (l.map fun kv => if kv.1 = k then (kv.1, f) else kv).lookup c = if c = k ∧ l.any (fun kv => decide (kv.1 = k)) = true then some f else l.lookup c := by
    intro l
    induction l with
    | nil => simp
    | cons kv l ih =>
      obtain ⟨a, b⟩ := kv
      rw [List.map_cons]
      by_cases ha : a = k
      · subst ha
        simp only [if_true, List.lookup_cons, List.any_cons, decide_true, Bool.true_or, and_true]
        by_cases hc : c = a
        · subst hc; simp
        · have : (c == a) = false := by simpa using hc
          rw [this, if_neg hc]
          simp only
          rw [ih]; simp [hc]
      · rw [if_neg ha]
        simp only [List.lookup_cons, List.any_cons, decide_eq_false ha, Bool.false_or]
        by_cases hc : c = a
        · subst hc
          simp [ha]
        · have : (c == a) = false := by simpa using hc
          rw [this]
          simp only
          rw [ih]
  unfold dputT
  by_cases h : cst.any (fun kv => decide (kv.1 = k)) = true
  · rw [if_pos h, hmap, h]; simp
  · rw [if_neg h]
    have happ : ∀ (l : List (B8 × α)), l.any (fun kv => decide (kv.1 = k)) ≠ true → (l ++ [(k, f)]).lookup c = if c = k then some f else l.lookup c := by
      intro l
      induction l with
      | nil =>
        intro _
        simp only [List.nil_append, List.lookup_cons, List.lookup_nil]
        by_cases hc : c = k
        · subst hc; simp
        · have : (c == k) = false := by simpa using hc
          rw [this, if_neg hc]
      | cons kv l ih =>
        intro hn
        obtain ⟨a, b⟩ := kv
        have hn : ¬ a = k ∧ ¬ l.any (fun kv => decide (kv.1 = k)) = true := by
          refine ⟨fun z => hn ?_, fun z => hn ?_⟩
          · rw [List.any_cons, z]; simp
          · rw [List.any_cons, z]; simp
        rw [List.cons_append]
        simp only [List.lookup_cons]
        by_cases hc : c = a
        · subst hc
          simp [hn.1]
        · have : (c == a) = false := by simpa using hc
          rw [this]
          exact ih hn.2
    exact happ cst h
noncomputable def kvF (g : Nat → α) (gone : List Nat) : Nat → List (B8 × α)
  | 0 => []
  | m + 1 => if m ∈ gone then kvF g gone m else dputT (kvF g gone m) (nm m) (g m)
theorem kv_some {g : Nat → α} {gone : List Nat} {c : B8} {v : α} : ∀ {m : Nat}, (kvF g gone m).lookup c = some v → ∃ k, k < m ∧ k ∉ gone ∧ c = nm ((k : Nat) : Int) ∧ v = g k
  | 0, h => by cases h
  | m + 1, h => by
    unfold kvF at h
    split at h
    · refine ex1_2 (kv_some h) fun k a b => ?_
      exact ⟨k, by lia, b⟩
    · rename_i hm
      rw [dputT_lookup] at h
      split at h
      · rename_i e; cases h
        exact ⟨m, by lia, hm, e, rfl⟩
      · refine ex1_2 (kv_some h) fun k a b => ?_
        exact ⟨k, by lia, b⟩
theorem kv_nm {g : Nat → α} {gone : List Nat} {k : Nat} (hk : k ∉ gone) : ∀ {m : Nat}, m ≤ 8 → k < m → (kvF g gone m).lookup (nm ((k : Nat) : Int)) = some (g k)
  | 0, _, h => by lia
  | m + 1, h8, h => by
    unfold kvF
    split
    · rename_i hm
      have : k ≠ m := fun z => hk (z ▸ hm)
      exact kv_nm hk (by lia) (by lia)
    · rw [dputT_lookup]
      split
      · rename_i e
        have := nm_inj8 k (by lia) m (by lia) e
        rw [this]
      · rename_i e
        have : k ≠ m := fun z => e (by rw [z])
        exact kv_nm hk (by lia) (by lia)
theorem kv_none {g : Nat → α} {gone : List Nat} {k m : Nat} (hk : k ∈ gone) (h8 : k < 8) (hm : m ≤ 8) : (kvF g gone m).lookup (nm ((k : Nat) : Int)) = none := by
  cases e : (kvF g gone m).lookup (nm ((k : Nat) : Int)) with
  | none => rfl
  | some v =>
    refine ex1_4 (kv_some e) fun j a b c _ => ?_
    have := nm_inj8 k h8 j (by lia) c
    exact absurd (this ▸ hk) b
end
theorem tabF_kv (ps : List (List Nat)) (gone : List Nat) : ∀ m, tabF ps gone m = kvF (fun k => nmsF (atL ps k)) gone m
  | 0 => rfl
  | m + 1 => by unfold tabF kvF; rw [tabF_kv ps gone m]
theorem clkF_kv (ts : List Int) (gone : List Nat) : ∀ m, clkF ts gone m = kvF (fun k => ts[k]?.getD 0) gone m
  | 0 => rfl
  | m + 1 => by unfold clkF kvF; rw [clkF_kv ts gone m]

inductive RN (R : Nat → Nat → Prop) (a : Nat) : Nat → Prop
  | refl : RN R a a
  | step {q p : Nat} : RN R a q → R q p → RN R a p
noncomputable def EN (ps : List (List Nat)) (gone : List Nat) (i j : Nat) : Prop := i ∉ gone ∧ j ∈ atL ps i ∧ j ∉ gone

section
variable {ps : List (List Nat)} {gone : List Nat} {M k : Nat}
theorem fold_spec : ∀ (r line : List Nat), ∃ ext, r.foldl (qS gone) line = line ++ ext ∧ (∀ x ∈ ext, x ∈ r ∧ x ∉ gone) ∧ ∀ q ∈ r, q ∉ gone → q ∈ line ++ ext
  | [], line => ⟨[], by simp, (fun x h => by cases h), fun q h => by cases h⟩
  | q :: r, line => by
    refine ex1_3 (fold_spec r (qS gone line q)) fun e1 h1 h2 h3 => ?_
    by_cases hq : q ∉ gone ∧ q ∉ line
    · have e : qS gone line q = line ++ [q] := by unfold qS; rw [if_pos hq]
      rw [e] at h1 h3
      refine ⟨q :: e1, by rw [List.foldl_cons, e, h1]; simp, fun x hx => ?_, fun x hx hg => ?_⟩
      · rcases List.mem_cons.mp hx with rfl | hx
        · exact ⟨.head _, hq.1⟩
        · exact ⟨.tail _ (h2 x hx).1, (h2 x hx).2⟩
      · rcases List.mem_cons.mp hx with rfl | hx
        · simp
        · have := h3 x hx hg
          simpa using this
    · have e : qS gone line q = line := by unfold qS; rw [if_neg hq]
      rw [e] at h1 h3
      refine ⟨e1, by rw [List.foldl_cons, e, h1], fun x hx => ⟨.tail _ (h2 x hx).1, (h2 x hx).2⟩, fun x hx hg => ?_⟩
      rcases List.mem_cons.mp hx with rfl | hx
      · refine List.mem_append.mpr (.inl ?_)
        cases Classical.em (x ∈ line) with
        | inl h => exact h
        | inr h => exact absurd ⟨hg, h⟩ hq
      · exact h3 x hx hg

theorem lineG_ok (hp : ∀ (i : Nat) (r : List Nat), ps[i]? = some r → ∀ x ∈ r, x < M) : ∀ (f : Nat) (line : List Nat) (place : Nat), LnOk M line → f + place = M + 1 → (∀ x ∈ line, RN (EN ps gone) k x) → (∀ i x, i < place → line[i]? = some x → ∀ q, EN ps gone x q → q ∈ line) →
    (∀ x ∈ line, x ∈ lineG ps gone f line place) ∧ (∀ x ∈ lineG ps gone f line place, RN (EN ps gone) k x) ∧ (∀ x ∈ lineG ps gone f line place, ∀ q, EN ps gone x q → q ∈ lineG ps gone f line place) ∧ LnOk M (lineG ps gone f line place)
  | 0, line, place, L, hf, hs, hc => by
    refine ⟨fun x h => h, hs, fun x hx q e => ?_, L⟩
    have hx : x ∈ line := hx
    refine ex1_1 (List.getElem?_of_mem hx) fun i hi => ?_
    have hil : i < line.length := by
      rcases Nat.lt_or_ge i line.length with h | h
      · exact h
      · exact no_some (List.getElem?_eq_none h) hi
    have := L.len
    exact hc i x (by lia) hi q e
  | f + 1, line, place, L, hf, hs, hc => by
    by_cases hp' : place < line.length
    · have e : lineG ps gone (f + 1) line place = lineG ps gone f (placeS ps gone line place) (place + 1) := by show (if _ then _ else _) = _; rw [if_pos hp']
      have hget : line[place]? = some (line[place]?.getD 0) := by rw [List.getElem?_eq_getElem hp']; rfl
      have Lp := L.place (gone := gone) hp place
      have spec : ∃ ext, placeS ps gone line place = line ++ ext ∧ (∀ x ∈ ext, EN ps gone (line[place]?.getD 0) x) ∧ ∀ q, EN ps gone (line[place]?.getD 0) q → q ∈ line ++ ext := by
        unfold placeS
        by_cases hg : line[place]?.getD 0 ∉ gone
        · rw [if_pos hg]
          refine ex1_3 (fold_spec (gone := gone) (ps[line[place]?.getD 0]?.getD []) line) fun ext h1 h2 h3 => ?_
          exact ⟨ext, h1, fun x hx => ⟨hg, h2 x hx⟩, fun q hq => h3 q hq.2.1 hq.2.2⟩
        · rw [if_neg hg]
          exact ⟨[], by simp, (fun x h => by cases h), fun q hq => absurd hq.1 hg⟩
      refine ex1_3 spec fun ext h1 h2 h3 => ?_; try clear spec
      rw [e]
      have hm : line[place]?.getD 0 ∈ line := List.mem_of_getElem? hget
      obtain ⟨a1, a2, a3, a4⟩ := lineG_ok hp f (placeS ps gone line place) (place + 1) Lp (by lia) (fun x hx => by
        rw [h1] at hx
        rcases List.mem_append.mp hx with hx | hx
        · exact hs x hx
        · exact .step (hs _ hm) (h2 x hx)) (fun i x hi hx q eq => by
        rw [h1]
        rw [h1, List.getElem?_append_left (by lia)] at hx
        rcases Nat.lt_or_ge i place with h | h
        · exact List.mem_append.mpr (.inl (hc i x h hx q eq))
        · have : i = place := by lia
          subst this
          rw [hx] at h3
          exact h3 q eq)
      exact ⟨fun x hx => a1 x (by rw [h1]; exact List.mem_append.mpr (.inl hx)), a2, a3, a4⟩
    · have e : lineG ps gone (f + 1) line place = line := lineG_stop (by lia)
      rw [e]
      refine ⟨fun x h => h, hs, fun x hx q e => ?_, L⟩
      refine ex1_1 (List.getElem?_of_mem hx) fun i hi => ?_
      have hil : i < line.length := by
        rcases Nat.lt_or_ge i line.length with h | h
        · exact h
        · exact no_some (List.getElem?_eq_none h) hi
      exact hc i x (by lia) hi q e

theorem line_ok (hM : ps.length = M) (hp : ∀ (i : Nat) (r : List Nat), ps[i]? = some r → ∀ x ∈ r, x < M) (hk : k < M) : LnOk M (lineF ps gone k) ∧ ∀ j, j ∈ lineF ps gone k ↔ RN (EN ps gone) k j := by
  refine ex0_4 (lineG_ok (gone := gone) (k := k) hp (M + 1) [k] 0 ⟨by simp, fun x hx => by simp at hx; subst hx; exact hk⟩ rfl (fun x hx => by simp at hx; subst hx; exact .refl) (fun i x hi => by lia)) fun a1 a2 a3 a4 => ?_
  unfold lineF
  rw [hM]
  refine ⟨a4, fun j => ⟨a2 j, fun r => ?_⟩⟩
  induction r with
  | refl => exact a1 k (.head _)
  | step _ e ih => exact a3 _ ih _ e
end
end Mine
namespace Mine

structure Bs (s0 : List Int) (ps : List (List Nat)) (ts : List Int) (M : Nat) (gone : List Nat) : Prop where
  m7 : M ≤ 7
  lp : ps.length = M
  lt : ts.length = M
  gp : ∀ i, i < M → ps[i]? = some (Rw s0 i)
  gt : ∀ i, i < M → ts[i]? = some (Tt s0 i)
  gg : ∀ x ∈ gone, x < M

section
variable {s0 : List Int} {ps : List (List Nat)} {ts : List Int} {M : Nat} {gone : List Nat}

noncomputable abbrev PtF (ps : List (List Nat)) (gone : List Nat) (M : Nat) : B8 → Option (List B8) := fun c => (tabF ps gone M).lookup c
noncomputable abbrev TmF (ts : List Int) (gone : List Nat) (M : Nat) : B8 → Option Int := fun c => (clkF ts gone M).lookup c
noncomputable abbrev UF (M : Nat) : List B8 := nmsF (List.range M)

theorem mem_nms {l : List Nat} {v : B8} : v ∈ nmsF l ↔ ∃ q ∈ l, v = nm ((q : Nat) : Int) := by
  unfold nmsF
  rw [List.mem_map]
  exact ⟨fun zq18 => ex1_2 zq18 fun q h e => ⟨q, h, e.symm⟩, fun zq19 => ex1_2 zq19 fun q h e => ⟨q, h, e.symm⟩⟩
theorem mem_U {v : B8} : v ∈ UF M ↔ ∃ q, q < M ∧ v = nm ((q : Nat) : Int) := by
  rw [mem_nms]
  exact ⟨fun zq20 => ex1_2 zq20 fun q h e => ⟨q, List.mem_range.mp h, e⟩, fun zq21 => ex1_2 zq21 fun q h e => ⟨q, List.mem_range.mpr h, e⟩⟩
theorem nm_eq (hM : M ≤ 7) {a b : Nat} (ha : a < M) (hb : b < M) : nm ((a : Nat) : Int) = nm ((b : Nat) : Int) ↔ a = b :=
  ⟨fun h => nm_inj8 a (by lia) b (by lia) h, fun h => by rw [h]⟩

theorem Bs.at_ (B : Bs s0 ps ts M gone) {i : Nat} (h : i < M) : atL ps i = Rw s0 i := by unfold atL; rw [B.gp i h]; rfl
theorem Bs.ti (B : Bs s0 ps ts M gone) {i : Nat} (h : i < M) : ts[i]?.getD 0 = Tt s0 i := by rw [B.gt i h]; rfl
theorem Bs.hp (B : Bs s0 ps ts M gone) : ∀ (i : Nat) (r : List Nat), ps[i]? = some r → ∀ x ∈ r, x < M := fun i r h x hx => by
  have hi : i < M := by
    rcases Nat.lt_or_ge i M with h' | h'
    · exact h'
    · exact no_some (List.getElem?_eq_none (by rw [B.lp]; exact h')) h
  obtain rfl := is_some (B.gp i hi) h
  have := rowF_in _ _ x hx
  lia
theorem Bs.EN_lt (B : Bs s0 ps ts M gone) {i j : Nat} (h : i < M) (e : EN ps gone i j) : j < i := by
  have := e.2.1
  rw [B.at_ h] at this
  exact rowF_in _ _ j this
theorem Bs.RN_le (B : Bs s0 ps ts M gone) {i j : Nat} (h : i < M) (r : RN (EN ps gone) i j) : j < M := by
  induction r with
  | refl => exact h
  | step _ e ih => have := B.EN_lt ih e; lia
theorem Bs.pt (B : Bs s0 ps ts M gone) {i : Nat} (h : i < M) : PtF ps gone M (nm ((i : Nat) : Int)) = if i ∈ gone then none else some (nmsF (Rw s0 i)) := by
  show (tabF ps gone M).lookup _ = _
  rw [tabF_kv]
  have hm := B.m7
  split
  · rename_i g; exact kv_none g (by lia) (by lia)
  · rename_i g; rw [kv_nm g (by lia) h, B.at_ h]
theorem Bs.tm (B : Bs s0 ps ts M gone) {i : Nat} (h : i < M) : TmF ts gone M (nm ((i : Nat) : Int)) = if i ∈ gone then none else some (Tt s0 i) := by
  show (clkF ts gone M).lookup _ = _
  rw [clkF_kv]
  have hm := B.m7
  split
  · rename_i g; exact kv_none g (by lia) (by lia)
  · rename_i g; rw [kv_nm g (by lia) h, B.ti h]
theorem Bs.pt_some (B : Bs s0 ps ts M gone) {c : B8} {l : List B8} (h : PtF ps gone M c = some l) : ∃ k, k < M ∧ k ∉ gone ∧ c = nm ((k : Nat) : Int) ∧ l = nmsF (Rw s0 k) := by
  have h : (tabF ps gone M).lookup c = some l := h
  rw [tabF_kv] at h
  refine ex1_4 (kv_some h) fun k a b c d => ?_
  exact ⟨k, a, b, c, by rw [d, B.at_ a]⟩
theorem Bs.tm_some (B : Bs s0 ps ts M gone) {c : B8} {t : Int} (h : TmF ts gone M c = some t) : ∃ k, k < M ∧ k ∉ gone ∧ c = nm ((k : Nat) : Int) ∧ t = Tt s0 k := by
  have h : (clkF ts gone M).lookup c = some t := h
  rw [clkF_kv] at h
  refine ex1_4 (kv_some h) fun k a b c d => ?_
  exact ⟨k, a, b, c, by rw [d, B.ti a]⟩
theorem Bs.hr_ (B : Bs s0 ps ts M gone) {i : Nat} (h : i < M) : hr (TmF ts gone M) (nm ((i : Nat) : Int)) = if i ∈ gone then 0 else Tt s0 i := by
  unfold hr
  rw [B.tm h]
  split <;> rfl

theorem Bs.gr (B : Bs s0 ps ts M gone) : Gr (PtF ps gone M) (TmF ts gone M) (UF M) where
  par := fun c l hc h => by
    refine ex1_4 (B.pt_some h) fun k a b zq1 zq2 => ?_; subst zq1; subst zq2
    refine ⟨by unfold nmsF; rw [List.length_map]; exact rowF_len _ _, fun p hp => ?_⟩
    refine ex1_2 (mem_nms.mp hp) fun q hq zq3 => ?_; subst zq3
    have := rowF_in _ _ q hq
    exact mem_U.mpr ⟨q, by lia, rfl⟩
  tm := fun c l p t h hp ht => by
    refine ex1_4 (B.pt_some h) fun k a b zq4 zq5 => ?_; subst zq4; subst zq5
    refine ex1_2 (mem_nms.mp hp) fun q hq zq6 => ?_; subst zq6
    have hqk := rowF_in _ _ q hq
    rw [B.tm (show q < M by lia)] at ht
    split at ht
    · cases ht
    · cases ht
      rw [B.hr_ a, if_neg b]
      exact Tt_gt hq
  len := by show (nmsF (List.range M)).length ≤ 7; unfold nmsF; rw [List.length_map, List.length_range]; exact B.m7

theorem Bs.ed (B : Bs s0 ps ts M gone) {i : Nat} (h : i < M) {ms : Int} {v : B8} : Ed (PtF ps gone M) (TmF ts gone M) ms (nm ((i : Nat) : Int)) v ↔ ∃ j, j < M ∧ v = nm ((j : Nat) : Int) ∧ EN ps gone i j ∧ ms ≤ Tt s0 j := by
  constructor
  · intro zi1; refine ex2_4 zi1 fun l t h1 h2 h3 h4 => ?_; try clear zi1
    rw [B.pt h] at h1
    split at h1
    · cases h1
    · rename_i g
      cases h1
      refine ex1_2 (mem_nms.mp h2) fun q hq zq7 => ?_; subst zq7
      have hqi := rowF_in _ _ q hq
      have hqM : q < M := by lia
      rw [B.tm hqM] at h3
      split at h3
      · cases h3
      · rename_i g2; cases h3
        exact ⟨q, hqM, rfl, ⟨g, by rw [B.at_ h]; exact hq, g2⟩, h4⟩
  · intro zi2; refine ex1_4 zi2 fun j hj zq8 zq9 h4 => ?_; try clear zi2; subst zq8; refine ex0_3 zq9 fun e1 e2 e3 => ?_; try clear zq9
    rw [B.at_ h] at e2
    exact ⟨nmsF (Rw s0 i), Tt s0 j, by rw [B.pt h, if_neg e1], mem_nms.mpr ⟨j, e2, rfl⟩, by rw [B.tm hj, if_neg e3], h4⟩

theorem Bs.rch (B : Bs s0 ps ts M gone) {i : Nat} (h : i < M) {v : B8} : Rch (Ed (PtF ps gone M) (TmF ts gone M) 0) (nm ((i : Nat) : Int)) v ↔ ∃ j, j < M ∧ v = nm ((j : Nat) : Int) ∧ RN (EN ps gone) i j := by
  constructor
  · intro r
    induction r with
    | refl => exact ⟨i, h, rfl, .refl⟩
    | step _ e ih =>
      refine ex1_3 ih fun j hj zq10 r => ?_; try clear ih; subst zq10
      refine ex1_4 ((B.ed hj).mp e) fun q hq zq11 en _ => ?_; subst zq11
      exact ⟨q, hq, rfl, .step r en⟩
  · intro zi3; refine ex1_3 zi3 fun j hj zq12 r => ?_; try clear zi3; subst zq12
    clear hj
    induction r with
    | refl => exact .refl
    | @step q p r e ih =>
      have hq := B.RN_le h r
      have hp := B.EN_lt hq e
      exact .step ih ((B.ed hq).mpr ⟨p, by omega, rfl, e, Tt_nn p⟩)

theorem Bs.lines (B : Bs s0 ps ts M gone) {i : Nat} (h : i < M) : atL (linesF ps gone M) i = lineF ps gone i := by
  unfold atL linesF
  rw [List.getElem?_map, List.getElem?_range h]; rfl
theorem lines_off {i : Nat} (h : M ≤ i) : atL (linesF ps gone M) i = [] := by
  unfold atL linesF
  rw [List.getElem?_eq_none (by rw [List.length_map, List.length_range]; exact h)]; rfl
theorem Bs.line (B : Bs s0 ps ts M gone) {i : Nat} (h : i < M) : LnOk M (atL (linesF ps gone M) i) ∧ ∀ j, j ∈ atL (linesF ps gone M) i ↔ RN (EN ps gone) i j := by
  rw [B.lines h]
  exact line_ok B.lp B.hp h
theorem Bs.lineR (B : Bs s0 ps ts M gone) {i j : Nat} (h : i < M) (hj : j < M) : Rch (Ed (PtF ps gone M) (TmF ts gone M) 0) (nm ((i : Nat) : Int)) (nm ((j : Nat) : Int)) ↔ j ∈ atL (linesF ps gone M) i := by
  rw [B.rch h, (B.line h).2]
  constructor
  · intro zi4; refine ex1_3 zi4 fun q hq e r => ?_; try clear zi4
    rw [(nm_eq B.m7 hj hq).mp e]; exact r
  · exact fun r => ⟨j, hj, rfl, r⟩

theorem cm_mem {lines : List (List Nat)} {i : Nat} {o : List Nat} {j : Nat} : j ∈ cmF lines i o ↔ j ∈ atL lines i ∧ ∃ d ∈ o, j ∈ atL lines d := by
  unfold cmF
  rw [List.mem_filter]
  refine and_congr Iff.rfl ?_
  unfold cmT
  rw [decide_eq_true_iff, List.length_pos_iff_exists_mem]
  constructor
  · intro zi5; refine ex1_1 zi5 fun d hd => ?_; try clear zi5
    rw [List.mem_filter, decide_eq_true_iff] at hd
    exact ⟨d, hd⟩
  · intro zi6; refine ex1_1 zi6 fun d hd => ?_; try clear zi6
    exact ⟨d, List.mem_filter.mpr ⟨hd.1, decide_eq_true hd.2⟩⟩
theorem bs_mem {lines : List (List Nat)} {common : List Nat} {j : Nat} : j ∈ bsF lines common ↔ j ∈ common ∧ ¬ ∃ d ∈ common, d ≠ j ∧ j ∈ atL lines d := by
  unfold bsF
  rw [List.mem_filter]
  refine and_congr Iff.rfl ?_
  unfold bsT
  rw [decide_eq_true_iff, List.length_eq_zero_iff, List.filter_eq_nil_iff]
  constructor
  · intro h zi7; refine ex1_3 zi7 fun d h1 h2 h3 => ?_; try clear zi7
    exact h d h1 (by rw [Bool.and_eq_true, decide_eq_true_iff, decide_eq_true_iff]; exact ⟨h2, h3⟩)
  · intro h d h1 h2
    rw [Bool.and_eq_true, decide_eq_true_iff, decide_eq_true_iff] at h2
    exact h ⟨d, h1, h2⟩

structure BestOk (ps : List (List Nat)) (ts : List Int) (M : Nat) (gone : List Nat) (i : Nat) (o : List Nat) : Prop where
  ask : Askd (ltN (hoursF ts gone M)) (bsF (linesF ps gone M) (cmF (linesF ps gone M) i o))
  len : (bsF (linesF ps gone M) (cmF (linesF ps gone M) i o)).length ≤ 6
  mem : ∀ j, j ∈ bestF (linesF ps gone M) (hoursF ts gone M) i o ↔ j ∈ bsF (linesF ps gone M) (cmF (linesF ps gone M) i o)
  pw : (bestF (linesF ps gone M) (hoursF ts gone M) i o).Pairwise fun x y => ltN (hoursF ts gone M) x y = true
  lt : ∀ j ∈ bestF (linesF ps gone M) (hoursF ts gone M) i o, j < M

theorem Bs.best (B : Bs s0 ps ts M gone) {i : Nat} (h : i < M) {o : List Nat} (ho : ∀ d ∈ o, d < M) : BestOk ps ts M gone i o := by
  refine ex0_2 (B.line h) fun L hL => ?_
  have cnd : (cmF (linesF ps gone M) i o).Nodup := L.nd.filter _
  have clt : ∀ j ∈ cmF (linesF ps gone M) i o, j < M := fun j hj => L.lt j (cm_mem.mp hj).1
  have bnd : (bsF (linesF ps gone M) (cmF (linesF ps gone M) i o)).Nodup := cnd.filter _
  have blt : ∀ j ∈ bsF (linesF ps gone M) (cmF (linesF ps gone M) i o), j < M := fun j hj => clt j (bs_mem.mp hj).1
  have len : (bsF (linesF ps gone M) (cmF (linesF ps gone M) i o)).length ≤ 6 := by
    by_cases hi : i ∈ cmF (linesF ps gone M) i o
    · have : (bsF (linesF ps gone M) (cmF (linesF ps gone M) i o)).length ≤ [i].length := by
        have all : ∀ x ∈ bsF (linesF ps gone M) (cmF (linesF ps gone M) i o), x = i := fun x hx => by
          refine ex0_2 (bs_mem.mp hx) fun h1 h2 => ?_
          cases Classical.em (x = i) with
          | inl h => exact h
          | inr hne => exact absurd ⟨i, hi, fun z => hne z.symm, (cm_mem.mp h1).1⟩ h2
        match hb : bsF (linesF ps gone M) (cmF (linesF ps gone M) i o), bnd, all with
        | [], _, _ => exact Nat.zero_le _
        | [a], _, _ => exact Nat.le_refl _
        | a :: b :: r, nd, all =>
          have h1 := all a (.head _)
          have h2 := all b (.tail _ (.head _))
          rw [List.nodup_cons] at nd
          exact absurd (by rw [h1, ← h2]; exact .head _) nd.1
      exact Nat.le_trans this (by simp)
    · have h1 : (i :: cmF (linesF ps gone M) i o).length ≤ M := nodup_len M _ (List.nodup_cons.mpr ⟨hi, cnd⟩) fun x hx => by
        rcases List.mem_cons.mp hx with rfl | hx
        · exact h
        · exact clt x hx
      have h2 : (bsF (linesF ps gone M) (cmF (linesF ps gone M) i o)).length ≤ (cmF (linesF ps gone M) i o).length := List.length_filter_le _ _
      have := B.m7
      rw [List.length_cons] at h1
      lia
  obtain ⟨a1, a2, a3⟩ := srt_strict (lt := ltN (hoursF ts gone M)) (l := bsF (linesF ps gone M) (cmF (linesF ps gone M) i o)) (fun x y z h1 h2 => ltI_trans h1 h2) (fun x => ltI_irrefl _) (fun x hx y hy hne => by
    have hxy : nm ((x : Nat) : Int) ≠ nm ((y : Nat) : Int) := fun z => hne ((nm_eq B.m7 (blt x hx) (blt y hy)).mp z)
    cases hl : ltN (hoursF ts gone M) x y with
    | true => exact .inl rfl
    | false => exact .inr (ltI_total hl fun z => hxy (congrArg Prod.snd z))) bnd len
  exact ⟨a1, len, a2, a3, fun j hj => blt j ((a2 j).mp hj)⟩

theorem Bs.mx (B : Bs s0 ps ts M gone) {i : Nat} (h : i < M) {o : List Nat} (ho : ∀ d ∈ o, d < M) (v : B8) : v ∈ nmsF (bestF (linesF ps gone M) (hoursF ts gone M) i o) ↔ Mx (PtF ps gone M) (TmF ts gone M) 0 (nm ((i : Nat) : Int)) (nmsF o) v := by
  have Bt := B.best h ho
  refine ex0_2 (B.line h) fun L hL => ?_
  have com : ∀ j, j < M → (Com (PtF ps gone M) (TmF ts gone M) 0 (nm ((i : Nat) : Int)) (nmsF o) (nm ((j : Nat) : Int)) ↔ j ∈ cmF (linesF ps gone M) i o) := fun j hj => by
    rw [cm_mem]
    unfold Com
    rw [B.lineR h hj]
    refine and_congr Iff.rfl ⟨?_, ?_⟩
    · intro zi8; refine ex1_2 zi8 fun c hc r => ?_; try clear zi8
      refine ex1_2 (mem_nms.mp hc) fun d hd zq13 => ?_; subst zq13
      exact ⟨d, hd, (B.lineR (ho d hd) hj).mp r⟩
    · intro zi9; refine ex1_2 zi9 fun d hd r => ?_; try clear zi9
      exact ⟨_, mem_nms.mpr ⟨d, hd, rfl⟩, (B.lineR (ho d hd) hj).mpr r⟩
  have comM : ∀ v, Com (PtF ps gone M) (TmF ts gone M) 0 (nm ((i : Nat) : Int)) (nmsF o) v → ∃ j, j < M ∧ v = nm ((j : Nat) : Int) := fun v hv => by
    refine ex1_3 ((B.rch h).mp hv.1) fun j hj e _ => ?_
    exact ⟨j, hj, e⟩
  rw [mem_nms]
  constructor
  · intro zi10; refine ex1_2 zi10 fun j hj zq14 => ?_; try clear zi10; subst zq14
    refine ex0_2 (bs_mem.mp ((Bt.mem j).mp hj)) fun h1 h2 => ?_
    have hjM := Bt.lt j hj
    refine ⟨(com j hjM).mpr h1, ?_⟩
    intro zi11; refine ex1_3 zi11 fun w hw hn r => ?_; try clear zi11
    refine ex1_2 (comM w hw) fun d hd zq15 => ?_; subst zq15
    exact h2 ⟨d, (com d hd).mp hw, fun z => hn (by rw [z]), (B.lineR hd hjM).mp r⟩
  · intro zi12; refine ex0_2 zi12 fun hc hd => ?_; try clear zi12
    refine ex1_2 (comM v hc) fun j hj zq16 => ?_; subst zq16
    refine ⟨j, (Bt.mem j).mpr (bs_mem.mpr ⟨(com j hj).mp hc, ?_⟩), rfl⟩
    intro zi13; refine ex1_3 zi13 fun d h1 h2 h3 => ?_; try clear zi13
    have hdM : d < M := L.lt d (cm_mem.mp h1).1
    exact hd ⟨nm ((d : Nat) : Int), (com d hdM).mpr h1, fun z => h2 ((nm_eq B.m7 hdM hj).mp z), (B.lineR hdM hj).mpr h3⟩

theorem Bs.hours (B : Bs s0 ps ts M gone) {i : Nat} (h : i < M) : (hoursF ts gone M)[i]?.getD 0 = hr (TmF ts gone M) (nm ((i : Nat) : Int)) := by
  unfold hoursF
  rw [List.getElem?_map, List.getElem?_range h, B.hr_ h]
  show (if i ∈ gone then 0 else ts[i]?.getD 0) = _
  rw [B.ti h]

theorem Bs.lcok (B : Bs s0 ps ts M gone) {i : Nat} (h : i < M) {o : List Nat} (ho : ∀ d ∈ o, d < M) (hlo : o.length ≤ 10) : LcOk (PtF ps gone M) (TmF ts gone M) 0 (· ∈ UF M) (fun S => ∃ F, Iv (PtF ps gone M) (TmF ts gone M) 0 (UF M) (nm ((i : Nat) : Int)) (nmsF o) 200 S F) (muS (UF M)) (nm ((i : Nat) : Int)) (nmsF o) (nmsF (bestF (linesF ps gone M) (hoursF ts gone M) i o)) := by
  have Bt := B.best h ho
  have blen : (bestF (linesF ps gone M) (hoursF ts gone M) i o).length ≤ M := nodup_len M _ (Bt.pw.imp fun {x y} h z => by
    subst z
    have := ltI_irrefl ((hoursF ts gone M)[x]?.getD 0, nm ((x : Nat) : Int))
    unfold ltN at h
    rw [this] at h; cases h) Bt.lt
  have hm := B.m7
  refine lc_ok B.gr (mem_U.mpr ⟨i, h, rfl⟩) (fun c hc => ?_) (by unfold nmsF; rw [List.length_map]; exact hlo) ?_ (fun v => B.mx h ho v) (by unfold nmsF; rw [List.length_map]; lia)
  · refine ex1_2 (mem_nms.mp hc) fun d hd zq17 => ?_; subst zq17
    exact mem_U.mpr ⟨d, ho d hd, rfl⟩
  · unfold nmsF
    refine List.pairwise_map.mpr (Bt.pw.imp_of_mem fun {x y} hx hy hxy => ?_)
    have := ltI_iff.mp hxy
    dsimp only at this
    rw [B.hours (Bt.lt x hx), B.hours (Bt.lt y hy)] at this
    exact this
end
end Mine
namespace Mine

noncomputable def idx (b : B8) : Nat := ((List.range 8).find? fun k : Nat => decide (nm k = b)).getD 0
theorem idx_nm : ∀ k < 8, idx (nm ((k : Nat) : Int)) = k := by decide +kernel
theorem idx_nms : ∀ {l : List Nat}, (∀ x ∈ l, x < 8) → (nmsF l).map idx = l
  | [], _ => rfl
  | a :: l, h => by
    show idx (nm ((a : Nat) : Int)) :: (nmsF l).map idx = _
    rw [idx_nm a (h a (.head _)), idx_nms fun x hx => h x (.tail _ hx)]

section
variable {s0 : List Int} {ps : List (List Nat)} {ts : List Int} {M : Nat} {gone : List Nat}

noncomputable def lcLF (ps : List (List Nat)) (ts : List Int) (M : Nat) (gone : List Nat) (c1 : B8) (c2s : List B8) : List B8 := nmsF (bestF (linesF ps gone M) (hoursF ts gone M) (idx c1) (c2s.map idx))
noncomputable def lcMF (ps : List (List Nat)) (M : Nat) (gone : List Nat) (c1 c2 : B8) : List B8 := if idx c1 ∈ atL (linesF ps gone M) (idx c2) then [c1] else []

theorem U_nms : ∀ {l : List B8}, (∀ c ∈ l, c ∈ UF M) → ∃ o, (∀ d ∈ o, d < M) ∧ l = nmsF o ∧ o.length = l.length
  | [], _ => ⟨[], (fun d h => by cases h), rfl, rfl⟩
  | a :: l, h => by
    refine ex1_2 (mem_U.mp (h a (.head _))) fun q hq zq1 => ?_; subst zq1
    refine ex1_3 (U_nms (l := l) fun c hc => h c (.tail _ hc)) fun o h1 h2 h3 => ?_
    exact ⟨q :: o, fun d hd => by
      rcases List.mem_cons.mp hd with rfl | hd
      · exact hq
      · exact h1 d hd, by rw [h2]; rfl, by rw [List.length_cons, List.length_cons, h3]⟩

theorem Bs.lcL (B : Bs s0 ps ts M gone) {i : Nat} (h : i < M) {o : List Nat} (ho : ∀ d ∈ o, d < M) : lcLF ps ts M gone (nm ((i : Nat) : Int)) (nmsF o) = nmsF (bestF (linesF ps gone M) (hoursF ts gone M) i o) := by
  have hm := B.m7
  unfold lcLF
  rw [idx_nm i (by lia), idx_nms fun x hx => by have := ho x hx; lia]

theorem Bs.mxM (B : Bs s0 ps ts M gone) {i j : Nat} (h : i < M) (hj : j < M) (hg : i ∉ gone) (v : B8) : v ∈ lcMF ps M gone (nm ((i : Nat) : Int)) (nm ((j : Nat) : Int)) ↔ Mx (PtF ps gone M) (TmF ts gone M) (Tt s0 i) (nm ((i : Nat) : Int)) [nm ((j : Nat) : Int)] v := by
  have hm := B.m7
  have G := B.gr
  have hr1 : hr (TmF ts gone M) (nm ((i : Nat) : Int)) = Tt s0 i := by rw [B.hr_ h, if_neg hg]
  have own : ∀ v, Rch (Ed (PtF ps gone M) (TmF ts gone M) (Tt s0 i)) (nm ((i : Nat) : Int)) v → v = nm ((i : Nat) : Int) := fun v r => by
    induction r with
    | refl => rfl
    | step _ e ih =>
      subst ih
      have h1 := e.hr G
      refine ex2_4 e fun l t _ _ h3 h4 => ?_; try clear e
      unfold hr at h1 hr1
      rw [h3] at h1
      rw [hr1] at h1
      simp only [Option.getD_some] at h1
      lia
  have low : ∀ v, Rch (Ed (PtF ps gone M) (TmF ts gone M) (Tt s0 i)) (nm ((j : Nat) : Int)) v → Rch (Ed (PtF ps gone M) (TmF ts gone M) 0) (nm ((j : Nat) : Int)) v := fun v r => by
    induction r with
    | refl => exact .refl
    | step _ e ih =>
      refine ex2_4 e fun l t h1 h2 h3 h4 => ?_; try clear e
      exact .step ih ⟨l, t, h1, h2, h3, Int.le_trans (Tt_nn i) h4⟩
  have high : ∀ v, Rch (Ed (PtF ps gone M) (TmF ts gone M) 0) (nm ((j : Nat) : Int)) v → Tt s0 i ≤ hr (TmF ts gone M) v → Rch (Ed (PtF ps gone M) (TmF ts gone M) (Tt s0 i)) (nm ((j : Nat) : Int)) v := fun v r => by
    induction r with
    | refl => exact fun _ => .refl
    | step _ e ih =>
      intro hv
      have h1 := e.hr G
      refine ex2_4 e fun l t k1 k2 k3 k4 => ?_; try clear e
      refine .step (ih (by lia)) ⟨l, t, k1, k2, k3, ?_⟩
      unfold hr at hv
      rw [k3] at hv
      exact hv
  have key : Rch (Ed (PtF ps gone M) (TmF ts gone M) (Tt s0 i)) (nm ((j : Nat) : Int)) (nm ((i : Nat) : Int)) ↔ i ∈ atL (linesF ps gone M) j := by
    rw [← B.lineR hj h]
    exact ⟨low _, fun r => high _ r (by rw [hr1]; exact Int.le_refl _)⟩
  have mx : Mx (PtF ps gone M) (TmF ts gone M) (Tt s0 i) (nm ((i : Nat) : Int)) [nm ((j : Nat) : Int)] v ↔ v = nm ((i : Nat) : Int) ∧ i ∈ atL (linesF ps gone M) j := by
    rw [← key]
    constructor
    · intro zi1; refine ex0_2 zi1 fun zq2 _ => ?_; try clear zi1; refine ex0_2 zq2 fun r1 zq1 => ?_; try clear zq2; refine ex1_2 zq1 fun c hc r2 => ?_; try clear zq1
      have e := own v r1
      subst e
      simp at hc; subst hc
      exact ⟨rfl, r2⟩
    · intro zi2; refine ex0_2 zi2 fun zq3 r => ?_; try clear zi2; subst zq3
      refine ⟨⟨.refl, _, .head _, r⟩, ?_⟩
      intro zi3; refine ex1_3 zi3 fun w hw hn _ => ?_; try clear zi3
      exact hn (own w hw.1)
  rw [mx]
  unfold lcMF
  rw [idx_nm i (by lia), idx_nm j (by lia)]
  split
  · rename_i z; simp [z]
  · rename_i z; simp [z]

theorem Bs.hg (B : Bs s0 ps ts M gone) {u : D} (hu : gone ≠ [] → u = .set 1) : Hg (PtF ps gone M) (TmF ts gone M) (· ∈ UF M) u (lcLF ps ts M gone) (lcMF ps M gone) where
  hu := fun c hc h => by
    refine ex1_2 (mem_U.mp hc) fun q hq zq4 => ?_; subst zq4
    rw [B.pt hq, B.tm hq] at h
    refine hu fun z => ?_
    rw [z] at h
    simp at h
  ok := fun c1 c2s h1 h2 hne hl => by
    refine ex1_2 (mem_U.mp h1) fun i hi zq5 => ?_; subst zq5
    refine ex1_3 (U_nms h2) fun o ho zq6 hlo => ?_; subst zq6
    rw [B.lcL hi ho]
    exact ⟨_, _, B.lcok hi ho (by lia)⟩
  okM := fun c1 c2 t h1 h2 ht hne => by
    refine ex1_2 (mem_U.mp h1) fun i hi zq7 => ?_; subst zq7
    refine ex1_2 (mem_U.mp h2) fun j hj zq8 => ?_; subst zq8
    refine ex1_4 (B.tm_some ht) fun k hk hkg e zq9 => ?_; subst zq9
    have := (nm_eq B.m7 hi hk).mp e
    subst this
    refine ⟨_, _, lc_ok B.gr h1 (fun c hc => by simp at hc; subst hc; exact h2) (by simp) ?_ (fun v => B.mxM hi hj hkg v) ?_⟩
    · unfold lcMF; split
      · exact List.pairwise_singleton _ _
      · exact .nil
    · unfold lcMF; split <;> simp
  inD := fun c1 c2s h1 h2 c hc => by
    refine ex1_2 (mem_U.mp h1) fun i hi zq10 => ?_; subst zq10
    refine ex1_3 (U_nms h2) fun o ho zq11 hlo => ?_; subst zq11
    rw [B.lcL hi ho] at hc
    refine ex1_2 (mem_nms.mp hc) fun q hq zq12 => ?_; subst zq12
    exact mem_U.mpr ⟨q, (B.best hi ho).lt q hq, rfl⟩
  len := fun c1 c2s h1 h2 => by
    refine ex1_2 (mem_U.mp h1) fun i hi zq13 => ?_; subst zq13
    refine ex1_3 (U_nms h2) fun o ho zq14 hlo => ?_; subst zq14
    rw [B.lcL hi ho]
    have Bt := B.best hi ho
    have blen : (bestF (linesF ps gone M) (hoursF ts gone M) i o).length ≤ M := nodup_len M _ (Bt.pw.imp fun {x y} h z => by
      subst z
      have := ltI_irrefl ((hoursF ts gone M)[x]?.getD 0, nm ((x : Nat) : Int))
      unfold ltN at h
      rw [this] at h; cases h) Bt.lt
    have hm := B.m7
    unfold nmsF; rw [List.length_map]; lia

theorem Bs.self (B : Bs s0 ps ts M gone) {i : Nat} (h : i < M) {o : List Nat} (ho : ∀ d ∈ o, d < M) : bestF (linesF ps gone M) (hoursF ts gone M) i o = [i] ↔ ∃ d ∈ o, i ∈ atL (linesF ps gone M) d := by
  have Bt := B.best h ho
  refine ex0_2 (B.line h) fun L hL => ?_
  have hii : i ∈ atL (linesF ps gone M) i := (hL i).mpr .refl
  constructor
  · intro e
    have := (Bt.mem i).mp (by rw [e]; exact .head _)
    exact (cm_mem.mp (bs_mem.mp this).1).2
  · intro hd
    have hc : i ∈ cmF (linesF ps gone M) i o := cm_mem.mpr ⟨hii, hd⟩
    have asym : ∀ x y, ltN (hoursF ts gone M) x y = true → ¬ ltN (hoursF ts gone M) y x = true := fun x y h1 h2 => by
      have := ltI_trans h1 h2
      rw [ltI_irrefl] at this; cases this
    refine sorted_unique asym Bt.pw (List.pairwise_singleton _ _) fun j => ?_
    rw [Bt.mem, bs_mem]
    constructor
    · intro zi4; refine ex0_2 zi4 fun h1 h2 => ?_; try clear zi4
      cases Classical.em (j = i) with
      | inl z => rw [z]; exact .head _
      | inr z => exact absurd ⟨i, hc, fun w => z w.symm, (cm_mem.mp h1).1⟩ h2
    · intro z
      simp at z; subst z
      refine ⟨hc, ?_⟩
      intro zi5; refine ex1_3 zi5 fun d hd1 hd2 hd3 => ?_; try clear zi5
      have hdl := (cm_mem.mp hd1).1
      have hdM := L.lt d hdl
      have r1 := (B.lineR h hdM).mpr hdl
      have r2 := (B.lineR hdM h).mpr hd3
      have hn : nm ((j : Nat) : Int) ≠ nm ((d : Nat) : Int) := fun z => hd2 ((nm_eq B.m7 h hdM).mp z).symm
      rcases r1.hr B.gr with e | e
      · exact hn e
      · rcases r2.hr B.gr with e' | e'
        · exact hn e'.symm
        · lia
end
end Mine
namespace Mine

section
variable {s0 : List Int} {ps : List (List Nat)} {ts : List Int} {M : Nat} {gone : List Nat}

theorem Bs.in_nms (B : Bs s0 ps ts M gone) {a : Nat} (ha : a < M) {o : List Nat} (ho : ∀ d ∈ o, d < M) : nm ((a : Nat) : Int) ∈ nmsF o ↔ a ∈ o := by
  rw [mem_nms]
  constructor
  · intro zi1; refine ex1_2 zi1 fun q hq e => ?_; try clear zi1
    rw [(nm_eq B.m7 ha (ho q hq)).mp e]; exact hq
  · exact fun h => ⟨a, h, rfl⟩
theorem Bs.refl_line (B : Bs s0 ps ts M gone) {a : Nat} (ha : a < M) : a ∈ atL (linesF ps gone M) a := ((B.line ha).2 a).mpr .refl

theorem Bs.e1 (B : Bs s0 ps ts M gone) : ∀ {row : List Nat}, (∀ x ∈ row, x < M) → mbL (lcLF ps ts M gone) (nmsF row) = base1 (linesF ps gone M) (hoursF ts gone M) row
  | [], _ => rfl
  | [a], _ => rfl
  | a :: b :: l, h => by
    have ha := h a (.head _)
    have ho : ∀ d ∈ b :: l, d < M := fun d hd => h d (.tail _ hd)
    have e : base1 (linesF ps gone M) (hoursF ts gone M) (a :: b :: l) = nmsF (bestF (linesF ps gone M) (hoursF ts gone M) a (b :: l)) := by
      unfold base1
      rw [if_neg (by simp)]
      rfl
    rw [e]
    show (if nm ((a : Nat) : Int) ∈ nmsF (b :: l) then [nm ((a : Nat) : Int)] else lcLF ps ts M gone (nm ((a : Nat) : Int)) (nmsF (b :: l))) = _
    split
    · rename_i hm
      have := (B.in_nms ha ho).mp hm
      rw [(B.self ha ho).mpr ⟨a, this, B.refl_line ha⟩]; rfl
    · exact B.lcL ha ho

theorem Bs.mb2 (B : Bs s0 ps ts M gone) {a b : Nat} (ha : a < M) (hb : b < M) : mbL (lcLF ps ts M gone) [nm ((a : Nat) : Int), nm ((b : Nat) : Int)] = [nm ((a : Nat) : Int)] ↔ a ∈ atL (linesF ps gone M) b := by
  have ho : ∀ d ∈ [b], d < M := fun d hd => by simp at hd; subst hd; exact hb
  have h := B.e1 (row := [a, b]) (fun x hx => by
    simp at hx
    rcases hx with rfl | rfl
    · exact ha
    · exact hb)
  have e : base1 (linesF ps gone M) (hoursF ts gone M) [a, b] = nmsF (bestF (linesF ps gone M) (hoursF ts gone M) a [b]) := by
    unfold base1
    rw [if_neg (by simp)]
    rfl
  rw [e] at h
  have h' : mbL (lcLF ps ts M gone) [nm ((a : Nat) : Int), nm ((b : Nat) : Int)] = nmsF (bestF (linesF ps gone M) (hoursF ts gone M) a [b]) := h
  rw [h']
  have s := B.self ha ho
  have s2 : (∃ d ∈ [b], a ∈ atL (linesF ps gone M) d) ↔ a ∈ atL (linesF ps gone M) b := by simp
  rw [← s2, ← s]
  have Bt := B.best ha ho
  constructor
  · intro z
    match hb : bestF (linesF ps gone M) (hoursF ts gone M) a [b], Bt.lt, z with
    | [], _, z => cases z
    | [q], lt, z =>
      have z' : [nm ((q : Nat) : Int)] = [nm ((a : Nat) : Int)] := z
      have : nm ((q : Nat) : Int) = nm ((a : Nat) : Int) := (List.cons.inj z').1
      rw [(nm_eq B.m7 (lt q (.head _)) ha).mp this]
    | q :: r :: l, _, z =>
      have := congrArg List.length z
      unfold nmsF at this
      simp at this
  · intro z; rw [z]; rfl

theorem Bs.oct (B : Bs s0 ps ts M gone) : ∀ {r f : List Nat}, (∀ x ∈ r, x < M) → (∀ x ∈ f, x < M) → (nmsF r).foldl (ocStep (lcLF ps ts M gone)) (nmsF f) = nmsF (r.foldl (octS (linesF ps gone M) (hoursF ts gone M)) f)
  | [], _, _, _ => rfl
  | c :: r, f, hr, hf => by
    have hc := hr c (.head _)
    have step : ∀ (f : List Nat), (∀ x ∈ f, x < M) → ocStep (lcLF ps ts M gone) (nmsF f) (nm ((c : Nat) : Int)) = nmsF (octS (linesF ps gone M) (hoursF ts gone M) f c) ∧ ∀ x ∈ octS (linesF ps gone M) (hoursF ts gone M) f c, x < M := by
      intro f
      induction f with
      | nil => exact fun _ => ⟨rfl, fun x h => by cases h⟩
      | cons a f ih =>
        intro hf
        refine ex0_2 (ih fun x hx => hf x (.tail _ hx)) fun i1 i2 => ?_
        have ha := hf a (.head _)
        have ho : ∀ d ∈ [a], d < M := fun d hd => by simp at hd; subst hd; exact ha
        constructor
        · show lcLF ps ts M gone (nm ((c : Nat) : Int)) (nmsF [a]) ++ ocStep (lcLF ps ts M gone) (nmsF f) (nm ((c : Nat) : Int)) = nmsF (bestF (linesF ps gone M) (hoursF ts gone M) c [a] ++ octS (linesF ps gone M) (hoursF ts gone M) f c)
          rw [i1, B.lcL hc ho]
          unfold nmsF; rw [List.map_append]
        · intro x hx
          have hx : x ∈ bestF (linesF ps gone M) (hoursF ts gone M) c [a] ++ octS (linesF ps gone M) (hoursF ts gone M) f c := hx
          rcases List.mem_append.mp hx with hx | hx
          · exact (B.best hc ho).lt x hx
          · exact i2 x hx
    refine ex0_2 (step f hf) fun s1 s2 => ?_
    show (nmsF r).foldl (ocStep (lcLF ps ts M gone)) (ocStep (lcLF ps ts M gone) (nmsF f) (nm ((c : Nat) : Int))) = _
    rw [s1]
    exact B.oct (fun x hx => hr x (.tail _ hx)) s2

theorem Bs.e2 (B : Bs s0 ps ts M gone) : ∀ {row : List Nat}, (∀ x ∈ row, x < M) → ocL (lcLF ps ts M gone) (nmsF row) = base2 (linesF ps gone M) (hoursF ts gone M) row
  | [], _ => rfl
  | [a], _ => rfl
  | [a, b], h => by
    have := B.e1 h
    show mbL (lcLF ps ts M gone) (nmsF [a, b]) = _
    rw [this]
    unfold base2
    rw [if_neg (by simp)]
  | a :: b :: c :: l, h => by
    have e : base2 (linesF ps gone M) (hoursF ts gone M) (a :: b :: c :: l) = nmsF ((b :: c :: l).foldl (octS (linesF ps gone M) (hoursF ts gone M)) [a]) := by
      unfold base2
      rw [if_pos (by simp)]
      rfl
    rw [e]
    exact B.oct (r := b :: c :: l) (f := [a]) (fun x hx => h x (.tail _ hx)) fun x hx => by simp at hx; subst hx; exact h _ (.head _)

theorem Bs.bad (B : Bs s0 ps ts M gone) {row : List Nat} (h : ∀ x ∈ row, x < M) {i a : Nat} (hi : row[i]? = some a) : badAt (lcLF ps ts M gone) (nmsF row) i (nm ((a : Nat) : Int)) = !lefT (linesF ps gone M) row i := by
  have hla : ∀ j, (nmsF row)[j]? = (row[j]?).map fun q : Nat => nm ((q : Nat) : Int) := fun j => by unfold nmsF; rw [List.getElem?_map]
  have hlen : (nmsF row).length = row.length := by unfold nmsF; rw [List.length_map]
  have ha : a < M := h a (List.mem_of_getElem? hi)
  have key : (badAt (lcLF ps ts M gone) (nmsF row) i (nm ((a : Nat) : Int)) = true) ↔ ¬ (lefT (linesF ps gone M) row i = true) := by
    unfold badAt lefT
    rw [List.any_eq_true, decide_eq_true_iff, List.length_eq_zero_iff, List.filter_eq_nil_iff]
    constructor
    · intro zi2 hall; refine ex1_2 zi2 fun j hj hb => ?_; try clear zi2
      rw [hlen] at hj
      have hjl := List.mem_range.mp hj
      rw [hla, List.getElem?_eq_getElem hjl, Bool.and_eq_true] at hb
      have hjM := h _ (List.getElem_mem hjl)
      have hm : a ∈ atL (linesF ps gone M) row[j] := (B.mb2 ha hjM).mp (of_decide_eq_true hb.2)
      refine hall j hj ?_
      rw [hi, List.getElem?_eq_getElem hjl, Bool.and_eq_true]
      refine ⟨?_, decide_eq_true hm⟩
      have := hb.1
      simp at this
      simp
      exact fun z => this z.symm
    · intro hall
      have : ∃ j, j ∈ List.range row.length ∧ (!decide (j = i) && decide (row[i]?.getD 0 ∈ atL (linesF ps gone M) (row[j]?.getD 0))) = true := by
        refine Classical.byContradiction fun hn => hall fun j hj z => hn ⟨j, hj, z⟩
      refine ex1_2 this fun j hj hb => ?_; try clear this
      have hjl := List.mem_range.mp hj
      refine ⟨j, by rw [hlen]; exact hj, ?_⟩
      rw [hi, List.getElem?_eq_getElem hjl, Bool.and_eq_true] at hb
      have hjM := h _ (List.getElem_mem hjl)
      rw [hla, List.getElem?_eq_getElem hjl, Bool.and_eq_true]
      refine ⟨?_, decide_eq_true ((B.mb2 ha hjM).mpr (of_decide_eq_true hb.2))⟩
      have := hb.1
      simp at this
      simp
      exact fun z => this z.symm
  cases h1 : badAt (lcLF ps ts M gone) (nmsF row) i (nm ((a : Nat) : Int)) <;> cases h2 : lefT (linesF ps gone M) row i <;> simp_all

theorem Bs.ind (B : Bs s0 ps ts M gone) {row : List Nat} (h : ∀ x ∈ row, x < M) : ∀ (r : List Nat) (i : Nat), row.drop i = r → indR (lcLF ps ts M gone) (nmsF row) i (nmsF r) = ((List.range' i r.length).filter (lefT (linesF ps gone M) row)).map fun k => nm ((row[k]?.getD 0 : Nat) : Int)
  | [], i, _ => rfl
  | a :: r, i, hd => by
    have hi : row[i]? = some a := by
      have : (row.drop i)[0]? = some a := by rw [hd]; rfl
      rwa [List.getElem?_drop, Nat.add_zero] at this
    have hd' : row.drop (i + 1) = r := by rw [← List.drop_drop, hd]; rfl
    have ih := B.ind h r (i + 1) hd'
    have hb := B.bad h hi
    show (if badAt (lcLF ps ts M gone) (nmsF row) i (nm ((a : Nat) : Int)) = true then [] else [nm ((a : Nat) : Int)]) ++ indR (lcLF ps ts M gone) (nmsF row) (i + 1) (nmsF r) = _
    rw [ih, hb, List.length_cons, List.range'_succ]
    cases hl : lefT (linesF ps gone M) row i with
    | true => rw [List.filter_cons_of_pos hl, List.map_cons, hi]; rfl
    | false => rw [List.filter_cons_of_neg (by rw [hl]; decide)]; rfl

theorem Bs.e3 (B : Bs s0 ps ts M gone) {row : List Nat} (h : ∀ x ∈ row, x < M) : indL (lcLF ps ts M gone) (nmsF row) = leftF (linesF ps gone M) row := by
  have main : indR (lcLF ps ts M gone) (nmsF row) 0 (nmsF row) = leftF (linesF ps gone M) row := by
    rw [B.ind h row 0 rfl]
    unfold leftF
    rw [List.range_eq_range']
  rw [← main]
  match row with
  | [] => rfl
  | [a] => rfl
  | a :: b :: l => rfl

theorem Bs.e4 (B : Bs s0 ps ts M gone) {a b : Nat} (ha : a < M) (hb : b < M) : cfB (TmF ts gone M) (lcMF ps M gone) (nm ((a : Nat) : Int)) (nm ((b : Nat) : Int)) = expF (linesF ps gone M) gone a b := by
  have hm := B.m7
  unfold cfB expF
  by_cases hab : a = b
  · subst hab
    rw [if_pos rfl]; simp
  · rw [if_neg fun z => hab ((nm_eq B.m7 ha hb).mp z), B.tm ha]
    by_cases hg : a ∈ gone
    · rw [if_pos hg]; simp [hab, hg]
    · rw [if_neg hg]
      show decide (lcMF ps M gone (nm ((a : Nat) : Int)) (nm ((b : Nat) : Int)) = [nm ((a : Nat) : Int)]) = _
      unfold lcMF
      rw [idx_nm a (by lia), idx_nm b (by lia)]
      by_cases hc : a ∈ atL (linesF ps gone M) b
      · rw [if_pos hc]; simp [hab, hg, hc]
      · rw [if_neg hc]; simp [hab, hc]
end

theorem law_ok (s0 : List Int) {ps : List (List Nat)} {ts : List Int} {M mix : Nat} (hM : M = manyF s0) (hps : ps = (histF s0 M).1) (hts : ts = (histF s0 M).2) : LawOk ps ts M mix (· ∈ UF M) (lcLF ps ts M (goneF mix M)) (lcMF ps M (goneF mix M)) ∧ (∀ d, (atL ps d).length ≤ 5) ∧ ∀ (i : Nat) (r : List Nat), ps[i]? = some r → ∀ x ∈ r, x < ps.length := by
  have h7 : M ≤ 7 := by rw [hM]; unfold manyF; lia
  have h0 : 0 < M := by rw [hM]; unfold manyF; lia
  have B : Bs s0 ps ts M (goneF mix M) := {
    m7 := h7
    lp := by rw [hps]; exact (hist_len s0 _).1
    lt := by rw [hts]; exact (hist_len s0 _).2
    gp := fun i h => by rw [hps]; exact (hist_get s0 M i h).1
    gt := fun i h => by rw [hts]; exact (hist_get s0 M i h).2
    gg := fun x hx => by
      unfold goneF at hx
      split at hx
      · exact List.mem_range.mp (List.mem_filter.mp hx).1
      · cases hx }
  have hrow : ∀ x ∈ rowN mix M, x < M := row_lt h0
  refine ⟨{
    H := B.hg fun hne => by
      unfold goneF at hne
      split at hne
      · rename_i h2; unfold uF; rw [h2]; rfl
      · exact absurd rfl hne
    dm := fun q hq => mem_U.mpr ⟨q, hq, rfl⟩
    lin := fun d c hc => by
      rcases Nat.lt_or_ge d M with h | h
      · exact (B.line h).1.lt c hc
      · rw [lines_off h] at hc; cases hc
    len := fun d => by
      rcases Nat.lt_or_ge d M with h | h
      · have := (B.line h).1.len; lia
      · rw [lines_off h]; exact Nat.zero_le _
    bst := fun c o hc ho => by
      have Bt := B.best hc ho
      have blen : (bestF (linesF ps (goneF mix M) M) (hoursF ts (goneF mix M) M) c o).length ≤ M := nodup_len M _ (Bt.pw.imp fun {x y} h z => by
        subst z
        have := ltI_irrefl ((hoursF ts (goneF mix M) M)[x]?.getD 0, nm ((x : Nat) : Int))
        unfold ltN at h
        rw [this] at h; cases h) Bt.lt
      have := Bt.len
      exact ⟨Bt.ask, by lia, by lia, Bt.lt⟩
    e1 := B.e1 hrow
    e2 := B.e2 hrow
    e3 := B.e3 hrow
    e4 := fun first hf => B.e4 hf (Nat.mod_lt _ h0) }, fun d => ?_, fun i r h x hx => by rw [B.lp]; exact B.hp i r h x hx⟩
  rcases Nat.lt_or_ge d M with h | h
  · rw [B.at_ h]; exact rowF_len _ _
  · unfold atL
    rw [List.getElem?_eq_none (by rw [B.lp]; exact h)]; exact Nat.zero_le _

theorem law_true {C : Cx} {k : Nat} (w : Wd C) {sc : List Int} (hz : sc.length ≤ 1000) : Hs C ⟨k + 6, false⟩ (scLaw w) [("script", .val (.list (sc.map .int)))] (bodyOf 13) (RetQ (.bool true)) := by
  refine ex0_3 (law_ok (sc.take 24) (mix := mixF (sc.take 24)) rfl rfl rfl) fun LO h1 h2 => ?_
  exact law_walk w hz rfl rfl rfl rfl rfl h1 h2 LO
end Mine
set_option maxHeartbeats 8000000
namespace Mine

noncomputable def tqF (P : Addr) (line : Nat) : Str :=
  if P = 87 then (if line = 30 then Str.ofString "_find_lcas.<locals>." ++ Str.ofString "_has_candidates" else Str.ofString "_find_lcas.<locals>." ++ Str.ofString "<lambda>")
  else if P = 139 then Str.ofString "_law_best.<locals>." ++ Str.ofString "<lambda>" else Str.ofString "law.<locals>." ++ Str.ofString "<lambda>"

noncomputable def KA : List Addr := [2, 3, 6, 50, 52, 53, 55, 56, 57, 59, 60, 62, 63, 64, 66, 67, 69, 70, 71, 73, 74, 76, 77, 78, 79, 80, 81, 82, 85, 86, 89, 90, 91, 93, 94, 96, 97, 98, 100, 101, 103, 104, 105, 107, 108, 110, 111, 112, 114, 115, 117, 118, 119, 121, 122, 124, 125, 126, 129, 130, 131, 133, 134, 136, 137, 138, 141, 142, 143, 146, 147]
theorem ka_eq (P : Params) : (hd.heap_39 P).map (·.1) = KA := by kernel_rfl
theorem ka_tabs : ∀ a ∈ KA, a ∉ tabs := by decide
theorem lookup_key {α β : Type} [BEq α] [LawfulBEq α] : ∀ {l : List (α × β)} {a : α} {b : β}, l.lookup a = some b → a ∈ l.map (·.1)
  | [], _, _, h => by cases h
  | (x, y) :: r, a, b, h => by
    rw [List.lookup_cons] at h
    cases e : a == x with
    | true => rw [eq_of_beq e]; exact .head _
    | false => rw [e] at h; exact .tail _ (lookup_key h)
theorem k_tabs (P : Params) : ∀ a o, (hd.heap_39 P).lookup a = some o → a ∉ tabs := fun a o h => ka_tabs a (by rw [← ka_eq P]; exact lookup_key h)

theorem bi_mem : ∀ {l : List (Str × Value)} {x : Str} {v : Value}, l.lookup x = some v → (x, v) ∈ l
  | [], _, _, h => by cases h
  | (y, u) :: r, x, v, h => by
    rw [List.lookup_cons] at h
    cases e : x == y with
    | true => rw [e] at h; cases h; rw [eq_of_beq e]; exact .head _
    | false => rw [e] at h; exact .tail _ (bi_mem h)

theorem bi_boot : ∀ p ∈ biList, bootBuiltins p.1 = some p.2 := by
  intro p hp
  simp only [biList, List.mem_cons, List.not_mem_nil, or_false] at hp
  rcases hp with rfl | rfl | rfl | rfl | rfl | rfl | rfl | rfl | rfl | rfl | rfl | rfl | rfl <;> kernel_rfl
theorem bi_name : ∀ p ∈ biList, p.1 ≠ "__name__" := by decide
theorem bi_off (P : Params) : ∀ p ∈ biList, nsIn (hd.heap_39 P) mainGlobals p.1 = some none := by
  intro p hp
  simp only [biList, List.mem_cons, List.not_mem_nil, or_false] at hp
  rcases hp with rfl | rfl | rfl | rfl | rfl | rfl | rfl | rfl | rfl | rfl | rfl | rfl | rfl <;> kernel_rfl

section
variable {w : World} {h : Heap} {os : OsState} {mg mb : Str → Option Value} {p : Program} {loose : List Str} {mean : ExcName → Option Value}

noncomputable def mkC (w : World) (h : Heap) (os : OsState) (mg mb : Str → Option Value) (KX : (hd.heap_39 w.params).In h) (hT : ∀ P ∈ tabs, h.get? P = some (tabObj #[])) (T : PyProof.Rows.Top p loose mean mg mb h) : Cx where
  prog := PySem.Challenge.rw_jg0024_01.row.prog
  w := w
  h₁ := h
  os₁ := os
  mg := mg
  mb := mb
  tq := tqF
  wlC := 80
  tabIn := fun P hP => ⟨_, hT P hP⟩
  nsG := T.g
  nsB := T.b
  nolim := T.nolimit
  bm := by
    refine ex2_6 T.bmain fun bm ob h1 h2 h3 h4 h5 h6 => ?_
    have e : mg "__builtins__" = some (.ref 4) := mg_of KX T.g (by kernel_rfl)
    have : bm = 4 := by rw [e] at h1; cases h1; rfl
    subst this
    exact ⟨4, ob, h1, h2, by decide, by decide, h3, h4, h5, h6⟩
  K := hd.heap_39 w.params
  xin := KX
  kt := k_tabs w.params
  bi := fun x v hx => ⟨mg_none_of KX T.g (bi_off w.params _ (bi_mem hx)), by rw [T.builtins x (bi_name _ (bi_mem hx))]; exact bi_boot _ (bi_mem hx)⟩
  im := fun x v hx => by
    have := bi_mem hx
    simp only [imList, List.mem_cons, List.not_mem_nil, or_false, Prod.mk.injEq] at this
    rcases this with ⟨rfl, rfl⟩ | ⟨rfl, rfl⟩
    · exact mg_of KX T.g (by kernel_rfl)
    · exact mg_of KX T.g (by kernel_rfl)
  G := AllBare
  gb := fun _ x => x
end
end Mine
namespace Mine

theorem GFn.mk' {C : Cx} {a c : Addr} {name : Str} {params : Arguments} {body : List Stmt} {scope : Scope} {dV : Value} {cp : Option (Addr × Addr)} {doc pm ct kV : Value} {an : Option Addr} (e1 : nsIn C.K mainGlobals name = some (some (.ref a)))
    (e2 : C.K.lookup a = some { cls := .type "function", data := .func (fnX name name params body scope [] dV kV doc pm an (.ref c) ct) }) (e3 : codeIn C.K (.ref c) name = true) (e4 : c ∉ tabs) (e5 : ∀ c' P, cp = some (c', P) → c' = c ∧ P ∈ tabs ∧ CodeHd C.h₁ c P)
    (k1 : scope.kind = .function) (k2 : scope.isCoroutine = false) (k3 : scope.isGenerator = false) : GFn C a name name params body scope dV cp :=
  ⟨mg_of C.xin C.nsG e1, ⟨c, doc, pm, an, ct, kV, C.xin _ _ e2, codeRec_of C.xin e3, e4, e5⟩, k1, k2, k3⟩
theorem MFn.mk' {C : Cx} {f c : Addr} {k : Nat} {name qual : Str} {kV doc pm ct : Value} {an : Option Addr} (e2 : C.K.lookup f = some { cls := .type "function", data := .func (fnX name qual (defArgs (mAt k)) (defBody (mAt k)) (defScope (mAt k)) [] .none kV doc pm an (.ref c) ct) })
    (e3 : codeIn C.K (.ref c) qual = true) (e4 : c ∉ tabs) : MFn C f k name qual := ⟨c, kV, doc, pm, an, ct, C.xin _ _ e2, codeRec_of C.xin e3, e4⟩
theorem cp_none {C : Cx} {c : Addr} : ∀ c' P, (none : Option (Addr × Addr)) = some (c', P) → c' = c ∧ P ∈ tabs ∧ CodeHd C.h₁ c P := fun _ _ h => by cases h
theorem cp_some {C : Cx} {c P : Addr} (h1 : P ∈ tabs) (h2 : codeHdIn C.K c P = true) : ∀ c' P', some (c, P) = some (c', P') → c' = c ∧ P' ∈ tabs ∧ CodeHd C.h₁ c P' := fun _ _ h => by cases h; exact ⟨rfl, h1, codeHd_of_K C.xin h2⟩

section
variable {w : World} {h : Heap} {os : OsState} {mg mb : Str → Option Value} {p : Program} {loose : List Str} {mean : ExcName → Option Value} {KX : (hd.heap_39 w.params).In h} {hT : ∀ P ∈ tabs, h.get? P = some (tabObj #[])} {T : PyProof.Rows.Top p loose mean mg mb h}

theorem mkWLF : WLF (mkC w h os mg mb KX hT T) 56 63 70 77 where
  ga := by kernel_rfl
  gt := by kernel_rfl
  init := by kernel_rfl
  add := by kernel_rfl
  get := by kernel_rfl
  rows := by kernel_rfl
  ti := by kernel_rfl
  ta := by kernel_rfl
  tg := by kernel_rfl
  tr := by kernel_rfl
  pq := fun hk tk p n => by kernel_rfl
  sa := fun hk tk p n => by kernel_rfl
  sg := fun hk tk p n => by kernel_rfl
  sr := fun hk tk p n => by kernel_rfl
  made := by kernel_rfl
  set := by kernel_rfl
  over := by kernel_rfl
  taker := by kernel_rfl
  hasd := by kernel_rfl
  keep := by kernel_rfl

noncomputable def mkWd : Wd (mkC w h os mg mb KX hT T) where
  fi := 56
  fa := 63
  fg := 70
  fr := 77
  qi := Str.ofString "WorkList.__init__"
  qa := Str.ofString "WorkList.add"
  qg := Str.ofString "WorkList.get"
  qr := Str.ofString "WorkList.rows"
  W := mkWLF
  mi := MFn.mk' (c := 55) (doc := .none) (pm := .str (Str.ofString "dulwich.graph") 322) (ct := .none) (kV := .none) (an := none) (by kernel_rfl) (by kernel_rfl) (by decide)
  ma := MFn.mk' (c := 62) (doc := .none) (pm := .str (Str.ofString "dulwich.graph") 322) (ct := .none) (kV := .none) (an := none) (by kernel_rfl) (by kernel_rfl) (by decide)
  mg := MFn.mk' (c := 69) (doc := .none) (pm := .str (Str.ofString "dulwich.graph") 322) (ct := .none) (kV := .none) (an := none) (by kernel_rfl) (by kernel_rfl) (by decide)
  mr := MFn.mk' (c := 76) (doc := .none) (pm := .str (Str.ofString "dulwich.graph") 322) (ct := .none) (kV := .none) (an := none) (by kernel_rfl) (by kernel_rfl) (by decide)
  wl := mg_of KX T.g (by kernel_rfl)
  hG := fun _ x => x
  a3 := 90
  a4 := 97
  a5 := 104
  a6 := 111
  a7 := 118
  a9 := 125
  a10 := 130
  a11 := 137
  a12 := 142
  T3 := 85
  n3 := 0
  t3 := 381
  c3 := 89
  P3 := 87
  c12 := 141
  P12 := 139
  hT3 := KX _ _ (by kernel_rfl)
  g3 := GFn.mk' (c := 89) (doc := .none) (pm := .str (Str.ofString "dulwich.graph") 322) (ct := .none) (kV := .none) (an := none) (by kernel_rfl) (by kernel_rfl) (by kernel_rfl) (by decide) (cp_some (by decide) (by kernel_rfl)) rfl rfl rfl
  g4 := GFn.mk' (c := 96) (doc := .none) (pm := .str (Str.ofString "dulwich.graph") 322) (ct := .none) (kV := .none) (an := none) (by kernel_rfl) (by kernel_rfl) (by kernel_rfl) (by decide) cp_none rfl rfl rfl
  g5 := GFn.mk' (c := 103) (doc := .none) (pm := .str (Str.ofString "dulwich.graph") 322) (ct := .none) (kV := .none) (an := none) (by kernel_rfl) (by kernel_rfl) (by kernel_rfl) (by decide) cp_none rfl rfl rfl
  g6 := GFn.mk' (c := 110) (doc := .none) (pm := .str (Str.ofString "dulwich.graph") 322) (ct := .none) (kV := .none) (an := none) (by kernel_rfl) (by kernel_rfl) (by kernel_rfl) (by decide) cp_none rfl rfl rfl
  g7 := GFn.mk' (c := 117) (doc := .none) (pm := .str (Str.ofString "dulwich.graph") 322) (ct := .none) (kV := .none) (an := none) (by kernel_rfl) (by kernel_rfl) (by kernel_rfl) (by decide) cp_none rfl rfl rfl
  g9 := GFn.mk' (c := 124) (doc := .none) (pm := .str (Str.ofString "law_jg0024_01") 447) (ct := .none) (kV := .none) (an := none) (by kernel_rfl) (by kernel_rfl) (by kernel_rfl) (by decide) cp_none rfl rfl rfl
  g10 := GFn.mk' (c := 129) (doc := .none) (pm := .str (Str.ofString "law_jg0024_01") 447) (ct := .none) (kV := .none) (an := none) (by kernel_rfl) (by kernel_rfl) (by kernel_rfl) (by decide) cp_none rfl rfl rfl
  g11 := GFn.mk' (c := 136) (doc := .none) (pm := .str (Str.ofString "law_jg0024_01") 447) (ct := .none) (kV := .none) (an := none) (by kernel_rfl) (by kernel_rfl) (by kernel_rfl) (by decide) cp_none rfl rfl rfl
  g12 := GFn.mk' (c := 141) (doc := .none) (pm := .str (Str.ofString "law_jg0024_01") 447) (ct := .none) (kV := .none) (an := none) (by kernel_rfl) (by kernel_rfl) (by kernel_rfl) (by decide) (cp_some (by decide) (by kernel_rfl)) rfl rfl rfl
  tq30 := rfl
  tq89 := rfl
  tq174 := rfl
  c13 := 146
  P13 := 144
  tq190 := rfl
  tq191 := rfl
  kd13 := by kernel_rfl

theorem mkLaw : GFn (mkC w h os mg mb KX hT T) 147 "law" "law" (argsOf 13) (bodyOf 13) (scopeOf 13) .none (some (146, 144)) :=
  GFn.mk' (c := 146) (doc := .none) (pm := .str (Str.ofString "law_jg0024_01") 447) (ct := .none) (kV := .none) (an := none) (by kernel_rfl) (by kernel_rfl) (by kernel_rfl) (by decide) (cp_some (by decide) (by kernel_rfl)) rfl rfl rfl
end
end Mine
namespace Mine

theorem rdl_ints {C : Cx} {h : Heap} {X : Addr → Prop} : ∀ {vs : List Value} {l : List Int}, IntsAre vs l → RdL C h X vs (l.map .int)
  | _, _, .nil => .nil
  | _, _, .cons n t r => .cons (.int n t) (rdl_ints r)

section
variable {w : World} {s₀ s₁ : Shared} {mg mb : Str → Option Value} {p : Program} {loose : List Str} {mean : ExcName → Option Value}

theorem fin_law (KX : (hd.heap_39 w.params).In s₁.heap) (hT : ∀ P ∈ tabs, s₁.heap.get? P = some (tabObj #[])) (T : PyProof.Rows.Top p loose mean mg mb s₁.heap) {fa la : Addr} {vs : List Value} {ns : List Int} (hm : mg "law" = some (.ref fa)) (hg : s₁.gens = #[])
    (hw : Well w.params s₁.heap (.ref la) (ofPy (PyData.list (ns.map PyData.int)))) (hL : s₁.heap.IsList la vs.toArray) (hI : IntsAre vs ns) (hz : ¬ ((63 : Nat) : Int) < (ns.length : Int)) :
    wpAny (model PySem.Challenge.rw_jg0024_01.row.prog w) callerA (PySem.call (.ref fa) [.ref la])
      (fun v s' => GoodWG PySem.Challenge.rw_jg0024_01.row.claim (classAt s₀.heap) (ExcName.means s₀.heap) [ofPy (PyData.list (ns.map PyData.int))] s₁ (.ok (.ret v)) s')
      (fun e s' => GoodWG PySem.Challenge.rw_jg0024_01.row.claim (classAt s₀.heap) (ExcName.means s₀.heap) [ofPy (PyData.list (ns.map PyData.int))] s₁ (.error e) s') s₁ := by
  have efa : fa = 147 := by
    have e : mg "law" = some (.ref 147) := mg_of KX T.g (by kernel_rfl)
    rw [e] at hm; cases hm; rfl
  subst efa
  have ok : Ok (mkC w s₁.heap s₁.os mg mb KX hT T) s₁ := ⟨Kq.refl, fun P hP => ⟨#[], hT P hP, trivial, fun pos cv h => by cases h⟩, fun y hy => by rw [hg] at hy; simp at hy, rfl⟩
  have S : Sit (mkC w s₁.heap s₁.os mg mb KX hT T) ⟨7, false⟩ callerA s₁ := ⟨fun _ => rfl, (fun z => by cases z), (by decide), (by decide), ⟨[], rfl, fun e h => by cases h⟩, ok⟩
  have hlen : ns.length ≤ 63 := by omega
  have hvl : vs.length = ns.length := hI.length
  have rl : Rd (mkC w s₁.heap s₁.os mg mb KX hT T) s₁.heap (fun _ => False) (.ref la) (.list (ns.map .int)) := by
    have hwl : ofPy (PyData.list (ns.map PyData.int)) = .list (ofPys (ns.map PyData.int)) := by rw [ofPy]
    rw [hwl] at hw
    refine ex1_3 hL fun o e hc zq1 => ?_; try clear hL; refine ex1_1 zq1 fun n hd => ?_; try clear zq1
    cases hw with
    | @list _ vs' _ e' _ =>
      obtain rfl := is_some e' e
      have : vs' = vs := by
        have hd : Data.seq vs'.toArray 0 = Data.seq vs.toArray n := hd
        injection hd with h1 _
        exact congrArg Array.toList h1
      subst this
      exact .list (n := 0) (fun z => z) e' (by show vs'.length ≤ 1048576; omega) (rdl_ints hI)
  have call : CallB (mkC w s₁.heap s₁.os mg mb KX hT T) ⟨7, false⟩ (.ref 147) [.list (ns.map .int)] (.bool true) :=
    CallB_fn (n := ⟨6, false⟩) (names := [Str.ofString "script"]) mkLaw (fun {kV doc pm ct an c vs} hv => by
      refine ex1_1 (len1 hv) fun a zq2 => ?_; subst zq2; exact rfl) rfl (by rfl) (law_true (k := 0) mkWd (by omega))
  refine wpAny_mono (call callerA (fun _ => False) s₁ [.ref la] S (fun a z => z.elim) (.cons rl .nil)) (fun v s' h => ?_) (fun _ _ z => z.elim)
  refine ex0_2 h fun n r => ?_; try clear h
  cases r with
  | bool b =>
  refine ⟨.inl ⟨.bool true, .bool true, [], rfl, fun _ => rfl, .bool true, ?_, fun _ => ⟨.nil, fun a h => by cases h⟩⟩, ⟨fun b o e => ?_, fun b o e => ?_⟩, n.ok.o, n.ok.g⟩
  · first | kernel_rfl | wrow_post
  · by_cases hb : b ∈ tabs
    · obtain rfl := is_some (hT b hb) e
      refine ex1_2 (n.ok.t b hb) fun ps e2 _ => ?_
      have hcode : CodeHd s₁.heap (if b = 87 then 89 else if b = 139 then 141 else 146) b := by
        simp only [tabs, List.mem_cons, List.not_mem_nil, or_false] at hb
        rcases hb with rfl | rfl | rfl
        · exact codeHd_of_K KX (by kernel_rfl)
        · exact codeHd_of_K KX (by kernel_rfl)
        · exact codeHd_of_K KX (by kernel_rfl)
      obtain ⟨o, vs, file, tf, flags, tg, inF, text, tt, h1, h2, h3, h4, _⟩ := hcode
      exact .inr (.inl ⟨⟨_, o, vs, h1, h2, h3, h4⟩, rfl, #[], ps, rfl, by rw [e2]; simp⟩)
    · exact .inl (by
        refine ex1_2 (n.k.same b o id hb e) fun sl e1 k1 => ?_
        rw [k1 (.inr (by show s₁.heap.get? b ≠ none; rw [e]; simp))] at e1
        exact e1)
  · by_cases hb : b ∈ tabs
    · refine ex1_2 (n.ok.t b hb) fun ps e2 _ => ?_
      exact ⟨_, e2⟩
    · refine ex1_2 (n.k.same b o id hb e) fun sl e1 _ => ?_
      exact ⟨_, e1⟩
end
end Mine

theorem PySem.Challenge.cw_jg0024_01_holds : PySem.Challenge.rw_jg0024_01.Holds := by
  refine Mine.hd ?_
  k_fill
  intro w s₀ s₁ mg mb G Y fa o pm cd doc dV kV ho hd' hcd hD hmg hg args vals as hpre hlay hrd hwl hlo
  have KX := km_in_of Y
  have hT := km_tabs_of Y
  refine Ground.open G ?_
  intro T B D TE TW
  wrow_args hpre hlay hrd hwl hlo
  all_goals exact Mine.fin_law KX hT T hmg hg (by assumption) (by assumption) (by assumption) (by assumption)
