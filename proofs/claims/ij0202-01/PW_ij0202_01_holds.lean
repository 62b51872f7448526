import PyProof.Rows.All
import Wide.All
import OpenK.AllK
import Wide.FinOn
import PySem.Challenge.RW_ij0202_01
set_option Elab.async false
set_option maxRecDepth 100000
set_option bootstrap.genMatcherCode false
set_option genSizeOf false
set_option compiler.extract_closed false
set_option linter.unusedVariables false
set_option linter.unusedSimpArgs false

namespace Mine
theorem zS {α : Type} {a : α} {as : List α} {i : Nat} : (a :: as)[i + 1]? = as[i]? := rfl
theorem zZ {α : Type} {a : α} {as : List α} : (a :: as)[0]? = some a := rfl
theorem zB {α β : Type} {a : α} {f : α → Option β} : (some a).bind f = f a := rfl
theorem zM {α β : Type} {a : α} {f : α → β} : (some a).map f = some (f a) := rfl
theorem zU {α : Type} {a b : α} {as : List α} {i : Nat} : (a :: as).set (i + 1) b = a :: as.set i b := rfl
theorem zA {α β : Type} {o : Option α} {f : α → Option β} {b : β} (h : o.bind f = some b) : ∃ a, o = some a ∧ f a = some b := Option.bind_eq_some_iff.mp h
theorem zC {α : Type} {l : List α} {i : Nat} {a : α} (h : l[i]? = some a) : ∃ h : i < l.length, l[i] = a := List.getElem?_eq_some_iff.mp h
theorem zD {α β : Type} {o : Option α} {f : α → β} {b : β} (h : o.map f = some b) : ∃ a, o = some a ∧ f a = b := Option.map_eq_some_iff.mp h
theorem zK {a b c : Nat} (h : a < b) (k : b ≤ c) : a < c := Nat.lt_of_lt_of_le h k
theorem zF {a b c : Nat} (h : a ≤ b) (k : b < c) : a < c := Nat.lt_of_le_of_lt h k
theorem zG {a b c : Nat} (h : a ≤ b) (k : b ≤ c) : a ≤ c := Nat.le_trans h k
theorem zH {α : Type} {l : List α} {i : Nat} (h : i < l.length) : l[i]? = some l[i] := List.getElem?_eq_getElem h
theorem zI {α : Type} {l : List α} {i : Nat} {a : α} (h : l[i]? = some a) : a ∈ l := List.mem_of_getElem? h
theorem zJ {α : Type} {l : List α} {i : Nat} {a : α} : l.getD i a = l[i]?.getD a := List.getD_eq_getElem?_getD
theorem zL {α : Type} {a b : α} (h : a ∈ [b]) : a = b := List.mem_singleton.mp h
theorem zN {α : Type} {a b : α} {l : List α} (h : a ∈ b :: l) : a = b ∨ a ∈ l := List.mem_cons.mp h
theorem zV {α : Type} {a b : α} {as : List α} : (a :: as).set 0 b = b :: as := rfl
noncomputable section TO

theorem o0 {v0 v1 v2 : Nat} (h1 : v0 + 4 * v1 + 200 < v2) : v0 + 100 < v2 := zF (zG (Nat.add_le_add_right (Nat.le_add_right v0 (4 * v1)) 100) (Nat.le_add_right _ 100)) h1
theorem oh {a b : Nat} (h1 : (a - 1) / 2 = b) (h2 : 0 < b) : b < a := h1 ▸ zF (Nat.div_le_self _ _) (Nat.sub_lt (Nat.pos_of_ne_zero fun e => by subst e; subst h1; exact absurd h2 (by decide)) (by decide))
theorem ohp {b : Nat} (h2 : 0 < b) : (b - 1) / 2 < b := zF (Nat.div_le_self _ _) (Nat.sub_lt h2 (by decide))
theorem o1 {v0 v1 : Nat} (h1 : (v0 - 1) / 2 = v1) (h2 : 0 < v1) : ¬ v1 = (v1 - 1) / 2 := Nat.ne_of_gt (ohp h2)
theorem o2 {v0 v1 v2 : Nat} (h1 : v0 < v1) (h2 : (v2 - 1) / 2 = v0) (h3 : 0 < v0) : ¬ v1 = (v0 - 1) / 2 := Nat.ne_of_gt (Nat.lt_trans (ohp h3) h1)
theorem o3 {v0 v1 : Nat} (h1 : 0 < v0) (h2 : (v0 - 1) / 2 = v1) : v0 = 2 * v1 + 1 ∨ v0 = 2 * v1 + 2 := by lia
theorem o5 {v0 v1 : Nat} (h1 : 0 < v0) (h2 : (v0 - 1) / 2 = v1) : ¬ v1 = v0 := Nat.ne_of_lt (h2 ▸ ohp h1)
theorem o4 {v0 v1 v2 : Nat} (h1 : v0 < v1) (h2 : (v1 - 1) / 2 = v0) (h3 : 0 < v2) (h4 : (v2 - 1) / 2 = v1) : ¬ v0 = v2 := Nat.ne_of_lt (Nat.lt_trans h1 (h4 ▸ ohp h3))
theorem o6 {v0 : Nat} (h1 : v0 < 1000) : Int.toNat (max 0 (min 1 ((v0 : Int) + 1))) = 1 := by lia
theorem o7 {v0 v1 v2 v3 : Nat} (h1 : v0 < v1) (h2 : v2 < v0) (h3 : v3 = v2) : v3 < v1 + 1 + 1 := h3 ▸ Nat.lt_succ_of_lt (Nat.lt_succ_of_lt (Nat.lt_trans h2 h1))
theorem o8 {v0 v1 v2 : Nat} (h1 : v0 + (v1 + 1) = v2) : v0 + 1 + v1 = v2 := (Nat.add_right_comm _ _ _).trans h1
theorem o9 {v0 v1 v2 : Nat} (h1 : v0 + v1 < v2) : v0 < v2 := zF (Nat.le_add_right _ _) h1
theorem o10 {v0 v1 : Nat} (h1 : v0 ≤ 1000000) (h2 : v1 = v0) : v1 ≤ 16777216 := h2 ▸ zG h1 (by decide)
theorem o11 {v0 v1 : Nat} (h1 : v0 + (v1 + 1) ≤ 1000) : v0 + 1 + v1 ≤ 1000 := zG (Nat.le_of_eq (Nat.add_right_comm _ _ _)) h1
theorem o12 {v0 v1 : Nat} (h1 : ¬ v0 < v1) (h2 : v0 < v1 + 1) : v0 = v1 := Nat.le_antisymm (Nat.le_of_lt_succ h2) (Nat.ge_of_not_lt h1)
theorem o13 {v0 : Nat} (h1 : ¬ v0 = 0) : (v0 - 1) / 2 < v0 := ohp (Nat.pos_of_ne_zero h1)
theorem o15 {v0 v1 : Nat} (h1 : v0 + (v1 + 1) ≤ 1000) : v0 ≤ 1000 := zG (Nat.le_add_right _ _) h1
theorem o16 {v0 v1 v2 : Nat} : min v0 v1 - v2 ≤ v1 := zG (Nat.sub_le _ _) (Nat.min_le_right _ _)
theorem o17 {v0 v1 : Nat} (h1 : v0 + 1 ≤ v1) : v1 = v1 - 1 + 1 := (Nat.sub_add_cancel (Nat.zero_lt_of_lt h1)).symm
theorem o18 {v0 v1 v2 : Nat} (h1 : v0 ≤ 2 * v1) (h2 : v2 ≤ 2) : v2 + v0 ≤ 2 * (v1 + 1) := zG (Nat.add_le_add h2 h1) (Nat.le_of_eq (Nat.add_comm _ _))
theorem o20 {v0 v1 v2 : Nat} (h1 : v0 + (v1 + 1) = v2) : v0 < v2 := h1 ▸ Nat.lt_add_of_pos_right (Nat.succ_pos _)
theorem o21 {v0 v1 v2 : Nat} (h1 : v0 ≤ v1 * (v2 + 1)) (h2 : v1 * (v2 + 1) ≤ 10000 * 101) : v0 ≤ 16777216 := zG h1 (zG h2 (by decide))
theorem o23 {v0 : Nat} (h1 : 0 < v0) : (v0 : Int) - 1 = ((v0 - 1 : Nat) : Int) := (Int.natCast_sub h1).symm
theorem o24 {v0 v1 : Nat} (h1 : v0 < v1) (h2 : 0 < v0) : v0 - 1 < v1 := zF (Nat.sub_le _ _) h1
theorem o25 {v0 v1 v2 : Nat} (h1 : v0 ≤ 10000) (h2 : v1 * v2 ≤ 10001 * 100) : ¬ (v0 + v1 * v2 > 16777216) := Nat.not_lt_of_le (zG (Nat.add_le_add h1 h2) (by decide))
theorem o26 {v0 v1 : Nat} (h1 : v0 < v1) : v0 ≠ v1 := Nat.ne_of_lt h1
theorem o27 {v0 v1 : Nat} (h1 : v0 ≤ v1) (h2 : ¬ v1 = v0) : v0 + 1 ≤ v1 := Nat.lt_of_le_of_ne h1 (Ne.symm h2)
theorem o29 {v0 v1 : Nat} (h1 : v0 < 90) (h2 : v1 < 4) : 34 + v0 + v1 < 128 := zF (Nat.add_le_add (Nat.add_le_add_left (Nat.le_of_lt_succ h1) 34) (Nat.le_of_lt_succ h2)) (by decide)
theorem o30 {v0 : Nat} (h1 : v0 = 4) : v0 ≤ 1000000 := h1 ▸ (by decide)
theorem o31 {v0 v1 v2 v3 : Nat} {P4 : Prop} (h1 : v0 < v1) (h2 : v2 < v1) (h3 : v0 < v2) (h4 : v0 = v3) (h5 : v2 = v3) : P4 := absurd (h4.trans h5.symm) (Nat.ne_of_lt h3)
theorem o32 {v0 v1 v2 : Nat} (h1 : v0 = v1) (h2 : v1 ≤ v2) : v0 ≤ v2 := h1 ▸ h2
theorem o33 {v0 v1 v2 : Nat} (h1 : v0 ≤ 100) (h2 : v1 = v2) (h3 : v2 = v0) : v1 ≤ 16777216 := h2 ▸ h3 ▸ zG h1 (by decide)
theorem o34 {v0 v1 v2 : Nat} (h1 : v0 < v1) (h2 : v0 = v2) : v2 ≠ v1 := h2 ▸ Nat.ne_of_lt h1
theorem o35 {v0 v1 : Nat} : v0 + (v1 + 1) = v0 + 1 + v1 := (o8 rfl).symm
theorem o36 {v0 v1 v2 : Nat} (h1 : v0 + v1 + v2 ≤ 1000000) : v0 + (v1 + v2) ≤ 16777216 := zG (Nat.le_of_eq (Nat.add_assoc _ _ _).symm) (zG h1 (by decide))
theorem o37 {v0 v1 : Nat} (h1 : v0 < 80000) (h2 : v1 = v0 + 7) : v1 ≤ 1000000 := h2 ▸ zG (Nat.add_le_add_right (Nat.le_of_lt h1) 7) (by decide)
theorem o38 {v0 v1 : Nat} (h1 : v0 ≤ 1000000) (h2 : v1 = v0) : (v1 : Int) < 9223372036854775808 := h2 ▸ Int.ofNat_lt.mpr (zF h1 (by decide))
theorem o39 {v0 v1 : Nat} (h1 : 2 * v0 + 2 < v1) : ((2 * v0 + 2 : Nat) : Int) < (v1 : Int) := Int.ofNat_lt.mpr h1
theorem o40 {v0 v1 : Nat} (h1 : v0 + 100 < v1) : v0 + 64 < v1 := zF (Nat.add_le_add_left (by decide) _) h1
theorem o41 {v0 : Nat} (h1 : v0 < 1000000000) : v0 < 1073741824 := Nat.lt_trans h1 (by decide)
theorem o42 {v0 : Nat} : ((v0 + 1 : Nat) : Int) - 1 = (v0 : Int) := Int.add_sub_cancel (v0 : Int) 1
theorem o43 {v0 : Nat} : ¬ ((v0 : Int) < (v0 : Int)) := Int.lt_irrefl _
theorem o44 {v0 v1 : Nat} (h1 : v0 < v1) : (v0 : Int) < (v1 : Int) := Int.ofNat_lt.mpr h1
theorem o50 {a b : Nat} (h : a ≤ b) : (a : Int) ≤ (b : Int) := Int.ofNat_le.mpr h
theorem o51 {a b c : Nat} (h : a = b) (k : b < c) : a < c := h ▸ k
theorem o52 {a b c : Nat} (h : a < b) (k : b = c) : a < c := k ▸ h
theorem o53 {a b c : Nat} (h : a ≤ b) (k : b = c) : a ≤ c := k ▸ h
theorem o54 {a b c : Nat} (h : a + b = c) : a ≤ c := h ▸ Nat.le_add_right _ _
theorem o55 {a b c : Nat} (h : a + b = c) : b ≤ c := h ▸ Nat.le_add_left _ _
theorem o56 {a b c : Nat} (h : a + b ≤ c) : a ≤ c := zG (Nat.le_add_right _ _) h
theorem o57 {a b c : Nat} (h : a + b ≤ c) : b ≤ c := zG (Nat.le_add_left _ _) h
theorem o58 {a b c : Nat} (h : a + b < c) : b < c := zF (Nat.le_add_left _ _) h
theorem o59 {a b c : Nat} (h : a ≤ min b c) : a ≤ b := zG h (Nat.min_le_left _ _)
theorem o60 {a b c : Nat} (h : a ≤ min b c) : a ≤ c := zG h (Nat.min_le_right _ _)
theorem o61 {a b c : Nat} (h : a < b - c) : c + a < b := Nat.add_lt_of_lt_sub' h
theorem o62 {a b c : Nat} (h : c ≤ a) (k : a < b) : a - c < b := zF (Nat.sub_le _ _) k
theorem o63 {a b c : Nat} (k : a < b) : a - c < b := zF (Nat.sub_le _ _) k
theorem o64 {a b c : Nat} (k : a ≤ b) : a - c ≤ b := zG (Nat.sub_le _ _) k
theorem o65 {a b : Nat} (k : a < b) : b = b - 1 + 1 := (Nat.sub_add_cancel (Nat.zero_lt_of_lt k)).symm
theorem o66 {a b : Nat} (k : a < b) : (a : Int) + 1 ≤ (b : Int) := Int.ofNat_le.mpr k
theorem o67 {a : Nat} : (0 : Int) ≤ (a : Int) := Int.natCast_nonneg a
theorem o68 {a b : Nat} (k : a < b) : (a - 1) / 2 < b := zF (Nat.div_le_self _ _) (o63 k)
theorem o69 {a b c : Nat} (k : b ≤ a) (h : a - b = c) : a = b + c := by rw [← h]; exact (Nat.add_sub_cancel' k).symm
theorem o70 {a b c : Nat} (h : a = b + c) : b ≤ a := h ▸ Nat.le_add_right _ _
theorem o71 {a b c : Nat} (h : a = b + (c + 1)) : b < a := h ▸ Nat.lt_add_of_pos_right (Nat.succ_pos _)
theorem o72 {a : Nat} : a ≤ a + 1 := Nat.le_succ a
theorem o73 {a b : Nat} (h : a = b + 1) : b < a := h ▸ Nat.lt_succ_self b
theorem o74 {a b c : Nat} (h : a ≤ b) (k : c = a) : c ≤ b := k ▸ h
theorem len1 {α : Type} {l : List α} (h : l.length = 1) : ∃ a, l = [a] := List.length_eq_one_iff.mp h
theorem len2 {α : Type} {l : List α} (h : l.length = 2) : ∃ a b, l = [a, b] := by
 obtain ⟨a, l, rfl⟩ := List.exists_cons_of_length_eq_add_one h
 obtain ⟨b, rfl⟩ := len1 (Nat.succ.inj h)
 exact ⟨a, b, rfl⟩
theorem len3 {α : Type} {l : List α} (h : l.length = 3) : ∃ a b c, l = [a, b, c] := by
 obtain ⟨a, l, rfl⟩ := List.exists_cons_of_length_eq_add_one h
 obtain ⟨b, c, rfl⟩ := len2 (Nat.succ.inj h)
 exact ⟨a, b, c, rfl⟩
theorem nn {α : Type} {a : α} {p : Prop} (h : none = some a) : p := absurd h (fun e => nomatch e)
theorem xAEEA {α β : Sort _} {P1 : Prop} {P2 P3 : α → β → Prop} {p : Prop} (h : P1 ∧ (∃ a : α, ∃ b : β, P2 a b ∧ P3 a b)) (k : P1 → ∀ a : α, ∀ b : β, P2 a b → P3 a b → p) : p := h.2.elim fun a h1 => h1.elim fun b h2 => k h.1 a b h2.1 h2.2
theorem xEA {α : Sort _} {P1 P2 : α → Prop} {p : Prop} (h : ∃ a : α, P1 a ∧ P2 a) (k : ∀ a : α, P1 a → P2 a → p) : p := h.elim fun a h0 => k a h0.1 h0.2
theorem xEAA {α : Sort _} {P1 P2 P3 : α → Prop} {p : Prop} (h : ∃ a : α, P1 a ∧ P2 a ∧ P3 a) (k : ∀ a : α, P1 a → P2 a → P3 a → p) : p := h.elim fun a h0 => k a h0.1 h0.2.1 h0.2.2
theorem xEEA {α β : Sort _} {P1 P2 : α → β → Prop} {p : Prop} (h : ∃ a : α, ∃ b : β, P1 a b ∧ P2 a b) (k : ∀ a : α, ∀ b : β, P1 a b → P2 a b → p) : p := h.elim fun a h0 => h0.elim fun b h1 => k a b h1.1 h1.2
theorem xEEAA {α β : Sort _} {P1 P2 P3 : α → β → Prop} {p : Prop} (h : ∃ a : α, ∃ b : β, P1 a b ∧ P2 a b ∧ P3 a b) (k : ∀ a : α, ∀ b : β, P1 a b → P2 a b → P3 a b → p) : p := h.elim fun a h0 => h0.elim fun b h1 => k a b h1.1 h1.2.1 h1.2.2
theorem xEEAAEEA {α β γ δ : Sort _} {P1 P2 : α → β → Prop} {P3 P4 : α → β → γ → δ → Prop} {p : Prop} (h : ∃ a : α, ∃ b : β, P1 a b ∧ P2 a b ∧ (∃ c : γ, ∃ d : δ, P3 a b c d ∧ P4 a b c d)) (k : ∀ a : α, ∀ b : β, P1 a b → P2 a b → ∀ c : γ, ∀ d : δ, P3 a b c d → P4 a b c d → p) : p := h.elim fun a h0 => h0.elim fun b h1 => h1.2.2.elim fun c h4 => h4.elim fun d h5 => k a b h1.1 h1.2.1 c d h5.1 h5.2
theorem xEEEEAA {α β γ δ : Sort _} {P1 P2 P3 : α → β → γ → δ → Prop} {p : Prop} (h : ∃ a : α, ∃ b : β, ∃ c : γ, ∃ d : δ, P1 a b c d ∧ P2 a b c d ∧ P3 a b c d) (k : ∀ a : α, ∀ b : β, ∀ c : γ, ∀ d : δ, P1 a b c d → P2 a b c d → P3 a b c d → p) : p := h.elim fun a h0 => h0.elim fun b h1 => h1.elim fun c h2 => h2.elim fun d h3 => k a b c d h3.1 h3.2.1 h3.2.2
theorem bindP3 {α β γ δ : Type} {o : Option (α × β × γ)} {f : α × β × γ → Option δ} {r : δ} {p : Prop} (e : o.bind f = some r) (k : ∀ a b c, o = some (a, b, c) → f (a, b, c) = some r → p) : p :=
 (zA e).elim fun a h => k a.1 a.2.1 a.2.2 h.1 h.2
theorem mapP3 {α β γ δ : Type} {o : Option (α × β × γ)} {f : α × β × γ → δ} {r : δ} {p : Prop} (e : o.map f = some r) (k : ∀ a b c, o = some (a, b, c) → f (a, b, c) = r → p) : p :=
 (zD e).elim fun a h => k a.1 a.2.1 a.2.2 h.1 h.2
theorem t1 {α : Type} {a b : α} (h : some a = some b) : b = a := (Option.some.inj h).symm
theorem r2a {α β : Type} {a a' : α} {b b' : β} (h : (a, b) = (a', b')) : a' = a := (congrArg Prod.fst h).symm
theorem r2b {α β : Type} {a a' : α} {b b' : β} (h : (a, b) = (a', b')) : b' = b := (congrArg Prod.snd h).symm
theorem r3a {α β γ : Type} {a a' : α} {b b' : β} {c c' : γ} (h : (a, b, c) = (a', b', c')) : a' = a := r2a h
theorem r3b {α β γ : Type} {a a' : α} {b b' : β} {c c' : γ} (h : (a, b, c) = (a', b', c')) : b' = b := r2a (r2b h).symm
theorem r3c {α β γ : Type} {a a' : α} {b b' : β} {c c' : γ} (h : (a, b, c) = (a', b', c')) : c' = c := r2b (r2b h).symm
theorem t2a {α β : Type} {a a' : α} {b b' : β} (h : some (a, b) = some (a', b')) : a' = a := r2a (Option.some.inj h)
theorem t2b {α β : Type} {a a' : α} {b b' : β} (h : some (a, b) = some (a', b')) : b' = b := r2b (Option.some.inj h)
theorem t3a {α β γ : Type} {a a' : α} {b b' : β} {c c' : γ} (h : some (a, b, c) = some (a', b', c')) : a' = a := r3a (Option.some.inj h)
theorem t3b {α β γ : Type} {a a' : α} {b b' : β} {c c' : γ} (h : some (a, b, c) = some (a', b', c')) : b' = b := r3b (Option.some.inj h)
theorem t3c {α β γ : Type} {a a' : α} {b b' : β} {c c' : γ} (h : some (a, b, c) = some (a', b', c')) : c' = c := r3c (Option.some.inj h)
theorem len4 {α : Type} {l : List α} (h : l.length = 4) : ∃ a b c d, l = [a, b, c, d] := by
 obtain ⟨a, l, rfl⟩ := List.exists_cons_of_length_eq_add_one h
 obtain ⟨b, c, d, rfl⟩ := len3 (Nat.succ.inj h)
 exact ⟨a, b, c, d, rfl⟩
end TO
noncomputable section TH
open PySem PySem.W PySem.Calls PyProof.Rows
set_option maxHeartbeats 8000000
noncomputable def vQ : Program := { PySem.Challenge.pw_ij0202_01 with main := { PySem.Challenge.pw_ij0202_01.main with body := [0, 2, 4, 5, 7, 8, 10, 11, 13, 14, 15, 16, 18, 19, 20, 21, 22, 23, 24, 25, 26, 27, 28].filterMap (PySem.Challenge.pw_ij0202_01.main.body[·]?) } }
noncomputable def codeOf (o : Obj) : Option Value := match o.data with | .func fd => some fd.code | _ => none
noncomputable def namesOf (o : Obj) : Value × List (Option Value) := (o.cls, match o.data with | .dict es _ => ([("_twin_re_1" : Str), "_translate", "len", "ord", "chr", "sorted", "list", "object", "int", "range", "enumerate", "zip", "ValueError"] : List Str).map (nsFind es) | _ => [])
noncomputable def patO : Obj := { cls := .type "re.Pattern", data := .fields #[.str "([&~|])" 297, .int 32 332, .int 1 0, .none, .none, .ref 42, .int 0 0] }
noncomputable def prgO : Obj := { cls := .type "tuple", data := .seq (([14, 14, 4, 1, 1, 9, 0, 64, 0, 1342177280, 0, 0, 0, 0, 0, 17, 0, 13, 11, 9, 0, 64, 0, 1342177280, 0, 0, 0, 0, 0, 17, 1, 1] : List Int).map fun i => Value.int i 0).toArray }
noncomputable def hOf (h : Heap) : Option Obj × Option Obj × Option Obj × Option Value × Option (Option Value) × Option (Value × List (Option Value)) :=
 (h.get? 64, h.get? 43, h.get? 42, (h.get? 68).map (fun o => .bool (codeHdIn [(68, o)] 68 64)), (h.get? 69).map codeOf, (h.get? mainGlobals).map namesOf)
noncomputable def hV : Option Obj × Option Obj × Option Obj × Option Value × Option (Option Value) × Option (Value × List (Option Value)) :=
 (some (tabObj #[]), some patO, some prgO, some (.bool true), some (some (.ref 68)), some (.type "dict", [some (.ref 43), some (.ref 69), none, none, none, none, none, none, none, none, none, none, none]))
noncomputable abbrev lsO : List Str := ["_twin_re_1", "_special_chars_map"]
noncomputable abbrev rwR : RowW := PySem.Challenge.rw_ij0202_01.row.toRowW
noncomputable def leftP (w : World) : Prop := (openEnds treeTable PySem.Challenge.pw_ij0202_01 w 4200).map (fun s => (openSeen vQ lsO (importedModules PySem.Challenge.pw_ij0202_01.main.body) (fun s => xlAt vQ [] s && recOk rwR.records s) true s, hOf s.heap)) = some (openGood vQ lsO, hV)
theorem left_ff (w : World) : leftP ((w.withFollow "special-get-raises" false).withFollow "comprehension-iter-twice" false) := by
 unfold leftP
 kernel_rfl
theorem left_ft (w : World) : leftP ((w.withFollow "special-get-raises" false).withFollow "comprehension-iter-twice" true) := by
 unfold leftP
 kernel_rfl
theorem left_tf (w : World) : leftP ((w.withFollow "special-get-raises" true).withFollow "comprehension-iter-twice" false) := by
 unfold leftP
 kernel_rfl
theorem left_tt (w : World) : leftP ((w.withFollow "special-get-raises" true).withFollow "comprehension-iter-twice" true) := by
 unfold leftP
 kernel_rfl
theorem left_all (w : World) : leftP w :=
 byRow2 "comprehension-iter-twice" (P := leftP) (byRow2 "special-get-raises" (P := fun w => leftP (w.withFollow "comprehension-iter-twice" false)) left_ff left_tf)
  (byRow2 "special-get-raises" (P := fun w => leftP (w.withFollow "comprehension-iter-twice" true)) left_ft left_tt) w
structure Said (h : Heap) : Prop where
 tab : h.get? 64 = some (tabObj #[])
 pat : h.get? 43 = some patO
 prg : h.get? 42 = some prgO
 code : CodeHd h 68 64
 tr : ∃ o fd, h.get? 69 = some o ∧ o.data = .func fd ∧ fd.code = .ref 68
 main : ∃ o es n, h.get? mainGlobals = some o ∧ o.cls = .type "dict" ∧ o.data = .dict es n ∧ [("_twin_re_1" : Str), "_translate", "len", "ord", "chr", "sorted", "list", "object", "int", "range", "enumerate", "zip", "ValueError"].map (nsFind es) = [some (.ref 43), some (.ref 69), none, none, none, none, none, none, none, none, none, none, none]
theorem Said.of {h : Heap} (e : hOf h = hV) : Said h := by
 unfold hOf hV at e
 simp only [Prod.mk.injEq] at e
 obtain ⟨e1, e2, e3, e4, e5, e6⟩ := e
 obtain ⟨o4, h4, c4⟩ := zD e4
 obtain ⟨o5, h5, c5⟩ := zD e5
 obtain ⟨o6, h6, c6⟩ := zD e6
 refine ⟨e1, e2, e3, codeHd_of_K (K := [(68, o4)]) (fun a o q => ?_) (by injection c4), ?_, ?_⟩
 ·simp only [List.lookup] at q
  split at q
  ·rename_i hb
   rw [beq_iff_eq.mp hb, h4]; exact q
  ·cases q
 ·unfold codeOf at c5
  split at c5
  ·rename_i fd hd
   exact ⟨o5, fd, h5, hd, by injection c5⟩
  ·cases c5
 ·unfold namesOf at c6
  simp only [Prod.mk.injEq] at c6
  obtain ⟨c7, c8⟩ := c6
  split at c8
  ·rename_i es n hd
   exact ⟨o6, es, n, h6, c7, hd, c8⟩
  ·cases c8
theorem Said.keeps {h h' : Heap} (x : Said h) (k : ∀ b o, h.get? b = some o → h'.get? b = some o) : Said h' :=
 ⟨k _ _ x.tab, k _ _ x.pat, k _ _ x.prg, x.code.keeps k, let ⟨o, fd, e, r⟩ := x.tr; ⟨o, fd, k _ _ e, r⟩, let ⟨o, es, n, e, r⟩ := x.main; ⟨o, es, n, k _ _ e, r⟩⟩
theorem hdM (walk : WalkO vQ lsO (XL vQ []) (fun _ h => Said h) rwR
   (match defOf vQ "law" with | some d => d.1 | none => ⟨"", ⟨[], [], none, [], [], none, []⟩, [], default, default⟩) [] fun f vs => PySem.call f vs) : PySem.Challenge.rw_ij0202_01.Holds := by
 have ok : PySem.Challenge.rw_ij0202_01.wellSaid = true := by kernel_rfl
 refine holds_law ok fun said => ?_
 refine holds_open (q := vQ) (loose := lsO) (Xt := fun s => xlAt vQ [] s && recOk rwR.records s) (XP := XL vQ []) (Yf := fun s => hOf s.heap) (Ya := fun _ => hV) (YP := fun _ h => Said h) (N := 4200) left_all (fun w s e => Said.of e) (fun w h h' x k => x.keeps k)
  (fun s e => xl_of s (Bool.and_eq_true_iff.mp e).1) XL.keeps (by kernel_rfl) (by kernel_rfl) (by kernel_rfl) (fun s e => recFacts_of (Bool.and_eq_true_iff.mp e).2) (by rfl) said (by decide +kernel) ⟨rfl, rfl, rfl, rfl, rfl, by decide +kernel⟩ ?hw walk
 exact ⟨[.list []], by decide +kernel, by decide +kernel⟩
end TH
noncomputable section LA
open PySem PySem.W PySem.Calls PyProof.Rows
theorem bindP {α β γ : Type} {o : Option (α × β)} {f : α × β → Option γ} {r : γ} {p : Prop} (e : o.bind f = some r) (k : ∀ a b, o = some (a, b) → f (a, b) = some r → p) : p :=
 (zA e).elim fun a h => k a.1 a.2 h.1 h.2
theorem mapP {α β γ : Type} {o : Option (α × β)} {f : α × β → γ} {r : γ} {p : Prop} (e : o.map f = some r) (k : ∀ a b, o = some (a, b) → f (a, b) = r → p) : p :=
 (zD e).elim fun a h => k a.1 a.2 h.1 h.2
theorem bindQ {α γ : Type} {o : Option α} {f : α → Option γ} {r : γ} {p : Prop} (e : o.bind f = some r) (k : ∀ a, o = some a → f a = some r → p) : p :=
 (zA e).elim fun a h => k a h.1 h.2
theorem mapQ {α γ : Type} {o : Option α} {f : α → γ} {r : γ} {p : Prop} (e : o.map f = some r) (k : ∀ a, o = some a → f a = r → p) : p :=
 (zD e).elim fun a h => k a h.1 h.2
inductive AV where
 | undef | none | bool (b : Bool) | int (i : Int) | str (s : List Nat) | ref (n : Nat) | fn (a : Nat) | bi (id : String) | ty (n : String)
deriving DecidableEq
inductive AObj where
 | list (xs : List AV) | tup (xs : List AV) | meth (n : Nat) | obj | tab (P : Addr) (pos : Pos) (lam : Option Nat) | code
noncomputable abbrev AH := List AObj
noncomputable def Le (ρ ρ' : List Addr) : Prop := ∀ (i : Nat) (a : Addr), ρ[i]? = some a → ρ'[i]? = some a
theorem Le.refl (ρ : List Addr) : Le ρ ρ := fun _ _ e => e
theorem Le.trans {a b c : List Addr} (x : Le a b) (y : Le b c) : Le a c := fun i r e => y i r (x i r e)
theorem Le.app (ρ x : List Addr) : Le ρ (ρ ++ x) := fun i a e => by
 have : i < ρ.length := (zC e).1
 rw [List.getElem?_append_left this]; exact e
noncomputable def VR (ρ : List Addr) : AV → Value → Prop
 | .undef, _ => True
 | .none, v => v = .none
 | .bool b, v => v = .bool b
 | .int i, v => ∃ t, v = .int i t
 | .str s, v => ∃ t, v = .str ⟨s.toArray⟩ t
 | .ref n, v => ∃ a, ρ[n]? = some a ∧ v = .ref a
 | .fn a, v => v = .ref a
 | .bi id, v => v = .builtin id
 | .ty n, v => v = .type n
theorem VR.mono {ρ ρ' : List Addr} (h : Le ρ ρ') : ∀ {v : AV} {c : Value}, VR ρ v c → VR ρ' v c
 | .undef, _, _ => trivial
 | .none, _, e => e
 | .bool _, _, e => e
 | .int _, _, e => e
 | .str _, _, e => e
 | .ref _, _, ⟨a, h1, h2⟩ => ⟨a, h _ _ h1, h2⟩
 | .fn _, _, e => e
 | .bi _, _, e => e
 | .ty _, _, e => e
noncomputable def VRs (ρ : List Addr) : List AV → List Value → Prop
 | [], [] => True
 | x :: xs, v :: vs => VR ρ x v ∧ VRs ρ xs vs
 | _, _ => False
theorem VRs.ind {ρ : List Addr} {P : List AV → List Value → Prop} (h0 : P [] []) (h1 : ∀ x xs v vs, VR ρ x v → VRs ρ xs vs → P xs vs → P (x :: xs) (v :: vs)) : ∀ {xs : List AV} {vs : List Value}, VRs ρ xs vs → P xs vs := by
 intro xs
 induction xs with
 | nil => intro vs h; cases vs with | nil => exact h0 | cons _ _ => exact h.elim
 | cons x xs ih => intro vs h; cases vs with | nil => exact h.elim | cons v vs => exact h1 x xs v vs h.1 h.2 (ih h.2)
theorem VRs.mono {ρ ρ' : List Addr} (h : Le ρ ρ') {xs : List AV} {vs : List Value} (r : VRs ρ xs vs) : VRs ρ' xs vs := VRs.ind (P := VRs ρ') trivial (fun _ _ _ _ a _ c => ⟨a.mono h, c⟩) r
theorem VRs.length {ρ : List Addr} {xs : List AV} {vs : List Value} (r : VRs ρ xs vs) : vs.length = xs.length := VRs.ind (P := fun xs vs => vs.length = xs.length) rfl (fun _ _ _ _ _ _ c => congrArg (· + 1) c) r
theorem VRs.app {ρ : List Addr} {xs ys : List AV} {vs us : List Value} (r : VRs ρ xs vs) (h : VRs ρ ys us) : VRs ρ (xs ++ ys) (vs ++ us) := VRs.ind (P := fun xs vs => VRs ρ (xs ++ ys) (vs ++ us)) h (fun _ _ _ _ a _ c => ⟨a, c⟩) r
theorem VRs.get {ρ : List Addr} {xs : List AV} {vs : List Value} {i : Nat} {x : AV} (r : VRs ρ xs vs) (e : xs[i]? = some x) : ∃ v, vs[i]? = some v ∧ VR ρ x v :=
 VRs.ind (P := fun xs vs => ∀ i, xs[i]? = some x → ∃ v, vs[i]? = some v ∧ VR ρ x v) (fun _ e => nn e) (fun _ _ v _ a _ c i e => by
  cases i with
  | zero => exact ⟨v, rfl, t1 e ▸ a⟩
  | succ i => exact c i e) r i e
theorem VRs.set {ρ : List Addr} : ∀ {xs : List AV} {vs : List Value} {i : Nat} {x : AV} {v : Value}, VRs ρ xs vs → VR ρ x v → VRs ρ (xs.set i x) (vs.set i v) := by
 intro xs
 induction xs with
 | nil => intro vs i x v h _; cases vs with | nil => exact trivial | cons _ _ => exact h.elim
 | cons a xs ih =>
  intro vs i x v h hx
  cases vs with
  | nil => exact h.elim
  | cons b vs => cases i with | zero => exact ⟨hx, h.2⟩ | succ i => exact ⟨h.1, ih h.2 hx⟩
theorem VRs.drop {ρ : List Addr} {xs : List AV} {vs : List Value} (n : Nat) (r : VRs ρ xs vs) : VRs ρ (xs.drop n) (vs.drop n) :=
 VRs.ind (P := fun xs vs => ∀ n, VRs ρ (xs.drop n) (vs.drop n)) (fun n => by cases n <;> exact trivial) (fun _ _ _ _ a b c n => by cases n with | zero => exact ⟨a, b⟩ | succ n => exact c n) r n
theorem VRs.take {ρ : List Addr} {xs : List AV} {vs : List Value} (n : Nat) (r : VRs ρ xs vs) : VRs ρ (xs.take n) (vs.take n) :=
 VRs.ind (P := fun xs vs => ∀ n, VRs ρ (xs.take n) (vs.take n)) (fun n => by cases n <;> exact trivial) (fun _ _ _ _ a _ c n => by cases n with | zero => exact trivial | succ n => exact ⟨a, c n⟩) r n
theorem VRs.nil_of {ρ : List Addr} {vs : List Value} (h : VRs ρ [] vs) : vs = [] := by cases vs with | nil => rfl | cons _ _ => exact h.elim
theorem VRs.cons_of {ρ : List Addr} {x : AV} {xs : List AV} {vs : List Value} (h : VRs ρ (x :: xs) vs) : ∃ v us, vs = v :: us ∧ VR ρ x v ∧ VRs ρ xs us := by
 cases vs with | nil => exact h.elim | cons v us => exact ⟨v, us, rfl, h.1, h.2⟩
noncomputable abbrev tupOf (its : Array Value) (n : Nat) : Obj := { cls := .type "tuple", data := .seq its n }
noncomputable def OR (ρ : List Addr) (o : Obj) : AObj → Prop
 | .list xs => ∃ vs n, o = listOf vs.toArray n ∧ VRs ρ xs vs
 | .tup xs => ∃ vs n, o = tupOf vs.toArray n ∧ VRs ρ xs vs
 | .meth n => ∃ b, ρ[n]? = some b ∧ o.cls = .type "builtin_function_or_method" ∧ ∃ vs, o.data = .fields vs ∧ vs[0]? = some (.builtin "list.append") ∧ vs[1]? = some (.ref b)
 | .obj => o.cls = .type "object"
 | .tab P pos lam => ρ[0]? = some P ∧ ∃ ps : Array Value, o = { cls := .none, data := .fields ps } ∧ TriplesOk ps.toList ∧
   match lam with | none => codeAmong pos ps.toList = none | some n => ∃ c', ρ[n]? = some c' ∧ codeAmong pos ps.toList = some (.ref c')
 | .code => ∃ vs q t, o.data = .fields vs ∧ vs[1]? = some (.str q t)
theorem OR.mono {ρ ρ' : List Addr} (h : Le ρ ρ') {o : Obj} : ∀ {ao : AObj}, OR ρ o ao → OR ρ' o ao := by
 intro ao q
 cases ao with
 | list _ => refine xEEA q fun vs n e r => ?_; exact ⟨vs, n, e, r.mono h⟩
 | tup _ => refine xEEA q fun vs n e r => ?_; exact ⟨vs, n, e, r.mono h⟩
 | meth _ => refine xEA q fun b e r => ?_; exact ⟨b, h _ _ e, r⟩
 | obj => exact q
 | code => exact q
 | tab _ _ u =>
  cases u with
  | none => exact ⟨h _ _ q.1, q.2⟩
  | some _ => obtain ⟨a, ps, e, t, c', r1, r2⟩ := q; exact ⟨h _ _ a, ps, e, t, c', h _ _ r1, r2⟩
inductive Loc where
 | ns (L : Addr) (x : Str) | cell (a : Addr) | raw (a : Addr) (o : Obj)
noncomputable def Loc.addr : Loc → Addr
 | .ns L _ => L
 | .cell a => a
 | .raw a _ => a
noncomputable def Loc.isRaw : Loc → Bool
 | .raw _ _ => true
 | _ => false
noncomputable def Loc.apart : Loc → Loc → Prop
 | .ns L x, .ns L' x' => L ≠ L' ∨ x ≠ x'
 | p, q => p.addr ≠ q.addr
noncomputable def LocVal (ρ : List Addr) (h : Heap) : Loc → AV → Prop
 | .ns L x, v => ∃ m, h.Ns L m ∧ (v ≠ .undef → ∃ c, m x = some c ∧ VR ρ v c)
 | .cell a, v => ∃ cv, h.IsCell a cv ∧ (v ≠ .undef → ∃ c, cv = some c ∧ VR ρ v c)
 | .raw a o, _ => h.get? a = some o
theorem LocVal.mono {ρ ρ' : List Addr} (k : Le ρ ρ') {h : Heap} : ∀ {loc : Loc} {v : AV}, LocVal ρ h loc v → LocVal ρ' h loc v
 | .ns _ _, _, ⟨m, hn, r⟩ => ⟨m, hn, fun n => let ⟨c, a, b⟩ := r n; ⟨c, a, b.mono k⟩⟩
 | .cell _, _, ⟨m, hn, r⟩ => ⟨m, hn, fun n => let ⟨c, a, b⟩ := r n; ⟨c, a, b.mono k⟩⟩
 | .raw _ _, _, e => e
noncomputable def Alike (h h' : Heap) (l : Loc) : Prop := ∀ o, h.get? l.addr = some o → ∃ o', h'.get? l.addr = some o' ∧ (o' = o ∨ (l.isRaw = false ∧ o'.cls = o.cls ∧ o'.data = o.data))
theorem Alike.of {h h' : Heap} {l : Loc} (k : ∀ o, h.get? l.addr = some o → h'.get? l.addr = some o) : Alike h h' l := fun o e => ⟨o, k o e, .inl rfl⟩
theorem alike_data {o o' : Obj} {b : Bool} (h : o' = o ∨ (b = false ∧ o'.cls = o.cls ∧ o'.data = o.data)) : o'.data = o.data := by rcases h with rfl | h; rfl; exact h.2.2
theorem LocVal.alike {ρ : List Addr} {h h' : Heap} : ∀ {loc : Loc} {v : AV}, LocVal ρ h loc v → Alike h h' loc → LocVal ρ h' loc v := by
 intro loc v x k
 cases loc with
 | ns _ _ =>
  obtain ⟨m, ⟨o, es, ep, ho, hd, q⟩, r⟩ := x
  refine xEA (k o ho) fun o' ho' hd' => ?_
  exact ⟨m, ⟨o', es, ep, ho', (alike_data hd').trans hd, q⟩, r⟩
 | cell _ =>
  obtain ⟨m, ⟨o, ho, hd⟩, r⟩ := x
  refine xEA (k o ho) fun o' ho' hd' => ?_
  exact ⟨m, ⟨o', ho', (alike_data hd').trans hd⟩, r⟩
 | raw _ _ =>
  have ho := x
  refine xEA (k _ ho) fun o' ho' e => ?_
  rcases e with rfl | ⟨e, _⟩
  ·exact ho'
  ·cases e
theorem LocVal.there {ρ : List Addr} {h : Heap} : ∀ {loc : Loc} {v : AV}, LocVal ρ h loc v → ∃ o, h.get? loc.addr = some o := by
 intro loc v x
 cases loc with
 | ns _ _ => obtain ⟨_, ⟨o, _, _, ho, _, _⟩, _⟩ := x; exact ⟨o, ho⟩
 | cell _ => obtain ⟨_, ⟨o, ho, _⟩, _⟩ := x; exact ⟨o, ho⟩
 | raw _ o => exact ⟨o, x⟩
structure Wd where
 prog : Program
 w : World
 B : Heap
 os : OsState
 mg : Str → Option Value
 mb : Str → Option Value
 g : B.Ns mainGlobals mg
 b : B.Ns builtinsNs mb
 nolimit : B.NoLimit
 builtins : ∀ x : Str, x ≠ "__name__" → mb x = bootBuiltins x
structure St (W : Wd) (ρ : List Addr) (σ : AH) (G : List (Loc × AV)) (s : Shared) : Prop where
 stays : ∀ b o, W.B.get? b = some o → s.heap.get? b = some o
 os : s.os = W.os
 gens : AllBare s.gens
 len : ρ.length = σ.length
 objs : ∀ (i : Nat) (a : Addr) (ao : AObj), ρ[i]? = some a → σ[i]? = some ao → ∃ o, s.heap.get? a = some o ∧ OR ρ o ao
 fresh : ∀ a ∈ ρ, W.B.get? a = none
 nodup : ρ.Nodup
 locs : ∀ p ∈ G, LocVal ρ s.heap p.1 p.2
 lfresh : ∀ p ∈ G, p.1.addr ∉ ρ ∧ W.B.get? p.1.addr = none
 apart : G.Pairwise fun p q => p.1.apart q.1
 tk : 0 < s.toks
variable {W : Wd} {ρ ρ' : List Addr} {σ σ' : AH} {G : List (Loc × AV)} {s s' : Shared}
theorem St.at (x : St W ρ σ G s) {i : Nat} {ao : AObj} (e : σ[i]? = some ao) : ∃ a o, ρ[i]? = some a ∧ s.heap.get? a = some o ∧ OR ρ o ao := by
 have hi : i < ρ.length := by rw [x.len]; exact (zC e).1
 have ea : ρ[i]? = some ρ[i] := zH hi
 refine xEA (x.objs i _ ao ea e) fun o ho r => ?_
 exact ⟨_, o, ea, ho, r⟩
theorem St.there (x : St W ρ σ G s) {a : Addr} (h : a ∈ ρ) : ∃ o, s.heap.get? a = some o := by
 obtain ⟨i, hi, rfl⟩ := List.getElem_of_mem h
 have hi' : i < σ.length := by rw [← x.len]; exact hi
 refine xEA (x.objs i _ _ (zH hi) (zH hi')) fun o ho _ => ?_
 exact ⟨o, ho⟩
theorem St.same (x : St W ρ σ G s) {h' : Heap} {tk : Nat} (hB : ∀ b o, W.B.get? b = some o → h'.get? b = some o) (hρ : ∀ a ∈ ρ, ∀ o, s.heap.get? a = some o → h'.get? a = some o)
  (hG : ∀ p ∈ G, Alike s.heap h' p.1) (htk : 0 < tk := by first | exact Nat.succ_pos _ | exact St.tk (by assumption) | omega) : St W ρ σ G { s with heap := h', toks := tk } :=
 ⟨hB, x.os, x.gens, x.len, fun i a ao e1 e2 => let ⟨o, ho, r⟩ := x.objs i a ao e1 e2; ⟨o, hρ a (zI e1) o ho, r⟩, x.fresh, x.nodup,
  fun p hp => (x.locs p hp).alike (hG p hp), x.lfresh, x.apart, htk⟩
theorem St.keeps (x : St W ρ σ G s) {h' : Heap} {tk : Nat} (k : ∀ b o, s.heap.get? b = some o → h'.get? b = some o) (htk : 0 < tk := by first | exact Nat.succ_pos _ | exact St.tk (by assumption) | omega) : St W ρ σ G { s with heap := h', toks := tk } :=
 x.same (fun b o e => k b o (x.stays b o e)) (fun a _ o e => k a o e) (fun _ _ => .of fun o e => k _ o e) htk
theorem St.toks (x : St W ρ σ G s) (tk : Nat) (htk : 0 < tk := by first | exact Nat.succ_pos _ | exact St.tk (by assumption) | omega) : St W ρ σ G { s with toks := tk } := x.keeps (h' := s.heap) (fun _ _ e => e) htk
theorem St.push (x : St W ρ σ G s) (o : Obj) (tk : Nat) (htk : 0 < tk := by first | exact Nat.succ_pos _ | exact St.tk (by assumption) | omega) : St W ρ σ G { s with heap := s.heap.push o, toks := tk } := x.keeps (fun _ _ e => Heap.get?_push_of_some o e) htk
theorem St.gens' (x : St W ρ σ G s) {g : Array GenState} (hg : AllBare g) : St W ρ σ G { s with gens := g } :=
 ⟨x.stays, x.os, hg, x.len, x.objs, x.fresh, x.nodup, x.locs, x.lfresh, x.apart, x.tk⟩
theorem St.newAddr (x : St W ρ σ G s) : s.heap.objs.size ∉ ρ ∧ W.B.get? s.heap.objs.size = none ∧ ∀ p ∈ G, p.1.addr ≠ s.heap.objs.size := by
 refine ⟨fun h => ?_, ?_, fun p hp e => ?_⟩
 ·obtain ⟨o, ho⟩ := x.there h
  exact Nat.lt_irrefl _ (Heap.lt_size ho)
 ·cases q : W.B.get? s.heap.objs.size with
  | none => rfl
  | some o => exact absurd (Heap.lt_size (x.stays _ _ q)) (Nat.lt_irrefl _)
 ·obtain ⟨o, ho⟩ := (x.locs p hp).there
  rw [e] at ho
  exact Nat.lt_irrefl _ (Heap.lt_size ho)
theorem St.alloc (x : St W ρ σ G s) {o : Obj} {ao : AObj} {tk : Nat} (hf : o.isFreed = false) (r : OR (ρ ++ [s.heap.objs.size]) o ao) (htk : 0 < tk := by first | exact Nat.succ_pos _ | exact St.tk (by assumption) | omega) :
  St W (ρ ++ [s.heap.objs.size]) (σ ++ [ao]) G { s with heap := s.heap.push o, toks := tk } := by
 obtain ⟨n1, n2, n3⟩ := x.newAddr
 have le := Le.app ρ [s.heap.objs.size]
 refine ⟨fun b o' e => Heap.get?_push_of_some _ (x.stays b o' e), x.os, x.gens, by simp [x.len], fun i a bo e1 e2 => ?_, fun a ha => ?_, ?_, fun p hp => ?_, fun p hp => ⟨?_, (x.lfresh p hp).2⟩, x.apart, htk⟩
 ·by_cases hi : i < ρ.length
  ·rw [List.getElem?_append_left hi] at e1
   rw [List.getElem?_append_left (by rw [← x.len]; exact hi)] at e2
   refine xEA (x.objs i a bo e1 e2) fun o' ho r' => ?_
   exact ⟨o', Heap.get?_push_of_some _ ho, r'.mono le⟩
  ·have hi' : i = ρ.length := by
    have := (zC e1).1
    simp at this; exact o12 hi this
   subst hi'
   rw [List.getElem?_append_right (Nat.le_refl _)] at e1
   rw [x.len, List.getElem?_append_right (Nat.le_refl _)] at e2
   simp at e1 e2
   subst e1 e2
   exact ⟨o, Heap.get?_push_size _ hf, r⟩
 ·rcases List.mem_append.mp ha with h | h
  ·exact x.fresh a h
  ·rw [zL h]; exact n2
 ·rw [List.nodup_append]
  exact ⟨x.nodup, by simp, fun a ha b hb e => by rw [zL hb] at e; exact n1 (e ▸ ha)⟩
 ·exact ((x.locs p hp).alike (.of fun o' e => Heap.get?_push_of_some _ e)).mono le
 ·intro h
  rcases List.mem_append.mp h with h | h
  ·exact (x.lfresh p hp).1 h
  ·exact n3 p hp (zL h)
theorem nodup_get {ρ : List Addr} (h : ρ.Nodup) {i j : Nat} {a : Addr} (hi : ρ[i]? = some a) (hj : ρ[j]? = some a) : i = j := by
 obtain ⟨h1, e1⟩ := zC hi
 obtain ⟨h2, e2⟩ := zC hj
 exact (List.getElem_inj h).mp (e1.trans e2.symm)
theorem St.setObj (x : St W ρ σ G s) {i : Nat} {a : Addr} {h' : Heap} {o' : Obj} {ao' : AObj} {tk : Nat} (ea : ρ[i]? = some a) (hs : Heap.SameBut a s.heap h') (ho : h'.get? a = some o') (r : OR ρ o' ao') (htk : 0 < tk := by first | exact Nat.succ_pos _ | exact St.tk (by assumption) | omega) :
  St W ρ (σ.set i ao') G { s with heap := h', toks := tk } := by
 have ha := zI ea
 refine ⟨fun b o e => ?_, x.os, x.gens, by simp [x.len], fun j b bo e1 e2 => ?_, x.fresh, x.nodup, fun p hp => ?_, x.lfresh, x.apart, htk⟩
 ·exact (hs.2 b fun q => by rw [q, x.fresh a ha] at e; exact nn e).trans (x.stays b o e)
 ·by_cases hj : i = j
  ·subst hj
   rw [ea] at e1; obtain rfl := Option.some.inj e1
   rw [List.getElem?_set] at e2
   simp at e2
   obtain ⟨_, rfl⟩ := e2
   exact ⟨o', ho, r⟩
  ·rw [List.getElem?_set_ne hj] at e2
   refine xEA (x.objs j b bo e1 e2) fun o ho' r' => ?_
   exact ⟨o, (hs.2 b fun q => hj (nodup_get x.nodup ea (q ▸ e1))).trans ho', r'⟩
 ·refine (x.locs p hp).alike (.of fun o e => (hs.2 _ fun q => (x.lfresh p hp).1 (by rw [q]; exact ha)).trans e)
theorem apart_ne {p q : Loc} (h : p.apart q) : (∃ L x x', p = .ns L x ∧ q = .ns L x' ∧ x ≠ x') ∨ p.addr ≠ q.addr := by
 cases p with
 | ns L x =>
  cases q with
  | ns L' x' =>
   by_cases e : L = L'
   ·subst e
    exact .inl ⟨L, x, x', rfl, rfl, h.resolve_left fun k => k rfl⟩
   ·exact .inr e
  | cell a => exact .inr h
  | raw a _ => exact .inr h
 | cell a => cases q <;> exact .inr h
 | raw a _ => cases q <;> exact .inr h
theorem apart_symm {p q : Loc} (h : p.apart q) : q.apart p := by
 cases p <;> cases q <;> first | exact Ne.symm (h : Loc.addr _ ≠ Loc.addr _) | exact h.imp Ne.symm Ne.symm
theorem apart_at {G : List (Loc × AV)} (h : G.Pairwise fun p q => p.1.apart q.1) {i j : Nat} {p q : Loc × AV} (hi : G[i]? = some p) (hj : G[j]? = some q) (n : i ≠ j) : p.1.apart q.1 := by
 obtain ⟨h1, rfl⟩ := zC hi
 obtain ⟨h2, rfl⟩ := zC hj
 rcases Nat.lt_or_gt_of_ne n with l | l
 ·exact List.pairwise_iff_getElem.mp h i j h1 h2 l
 ·exact apart_symm (List.pairwise_iff_getElem.mp h j i h2 h1 l)
theorem ns_unique {h : Heap} {L : Addr} {m m' : Str → Option Value} (a : h.Ns L m) (b : h.Ns L m') : m = m' := by
 obtain ⟨o, es, ep, ho, hd, _, hm⟩ := a
 obtain ⟨o', es', ep', ho', hd', _, hm'⟩ := b
 rw [ho] at ho'; replace hd' := t1 ho' ▸ hd'
 rw [hd] at hd'; cases hd'
 funext x
 exact (hm x).symm.trans (hm' x)
noncomputable def Stored (h h' : Heap) (c : Value) : Loc → Prop
 | .ns L x => ∀ m, h.Ns L m → h'.Ns L (fun y => if y = x then some c else m y) ∧ Heap.SameBut L h h'
 | .cell a => h'.IsCell a (some c) ∧ Heap.SameBut a h h'
 | .raw _ _ => False
theorem St.setG (x : St W ρ σ G s) {i : Nat} {loc : Loc} {v₀ v : AV} {c : Value} {h' : Heap} {tk : Nat} (e : G[i]? = some (loc, v₀)) (hs : Stored s.heap h' c loc) (hv : VR ρ v c) (htk : 0 < tk := by first | exact Nat.succ_pos _ | exact St.tk (by assumption) | omega) :
  St W ρ σ (G.set i (loc, v)) { s with heap := h', toks := tk } := by
 have hm : (loc, v₀) ∈ G := zI e
 have hsb : Heap.SameBut loc.addr s.heap h' := by
  cases loc with
  | ns L y => refine xEA (x.locs _ hm) fun m hn _ => ?_; exact (hs m hn).2
  | cell a => exact hs.2
  | raw _ _ => exact hs.elim
 have lf := x.lfresh _ hm
 have hi : i < G.length := (zC e).1
 have back : ∀ j p, (G.set i (loc, v))[j]? = some p → (j = i ∧ p = (loc, v)) ∨ (j ≠ i ∧ G[j]? = some p) := fun j p ep => by
  by_cases hj : j = i
  ·subst hj
   rw [List.getElem?_set] at ep
   simp [hi] at ep
   exact .inl ⟨rfl, ep.symm⟩
  ·rw [List.getElem?_set_ne (Ne.symm hj)] at ep
   exact .inr ⟨hj, ep⟩
 refine ⟨fun b o k => ?_, x.os, x.gens, x.len, fun j a ao e1 e2 => ?_, x.fresh, x.nodup, fun p hp => ?_, fun p hp => ?_, ?_, htk⟩
 ·exact (hsb.2 b fun q => by rw [q, lf.2] at k; exact nn k).trans (x.stays b o k)
 ·refine xEA (x.objs j a ao e1 e2) fun o ho r => ?_
  exact ⟨o, (hsb.2 a fun q => lf.1 (q ▸ zI e1)).trans ho, r⟩
 ·obtain ⟨j, hj, ej⟩ := List.getElem_of_mem hp
  rcases back j p (by rw [zH hj, ej]) with ⟨_, rfl⟩ | ⟨n, ep⟩
  ·cases loc with
   | ns L y =>
    refine xEA (x.locs _ hm) fun m hn _ => ?_
    exact ⟨_, (hs m hn).1, fun _ => ⟨c, by simp, hv⟩⟩
   | cell a => exact ⟨_, hs.1, fun _ => ⟨c, rfl, hv⟩⟩
   | raw _ _ => exact hs.elim
  ·have hp' := x.locs p (zI ep)
   rcases apart_ne (apart_at x.apart ep e n) with ⟨L, y, y', e1, e2, ne⟩ | ne
   ·obtain ⟨pl, pv⟩ := p
    simp only at e1 e2
    subst e1 e2
    refine xEA hp' fun m hn r => ?_
    exact ⟨_, (hs m hn).1, fun q => let ⟨c', a, b⟩ := r q; ⟨c', by simp [ne, a], b⟩⟩
   ·exact hp'.alike (.of fun o k => (hsb.2 _ ne).trans k)
 ·obtain ⟨j, hj, ej⟩ := List.getElem_of_mem hp
  rcases back j p (by rw [zH hj, ej]) with ⟨_, rfl⟩ | ⟨n, ep⟩
  ·exact lf
  ·exact x.lfresh p (zI ep)
 ·rw [List.pairwise_iff_getElem]
  intro j k hj hk l
  rcases back j _ (zH hj) with ⟨n1, e1⟩ | ⟨n1, e1⟩ <;> rcases back k _ (zH hk) with ⟨n2, e2⟩ | ⟨n2, e2⟩
  ·exact o31 hj hk l n1 n2
  ·rw [e1]; have := apart_at x.apart e e2 (by exact o34 l n1); exact this
  ·rw [e2]; have := apart_at x.apart e1 e (by omega); exact this
  ·exact apart_at x.apart e1 e2 (by exact Nat.ne_of_lt l)
theorem zip_set {locs : List Loc} {l : List AV} {G : List (Loc × AV)} {i : Nat} {loc : Loc} {v : AV} (e : locs[i]? = some loc) (hi : i < l.length) :
  (locs.zip l ++ G).set i (loc, v) = locs.zip (l.set i v) ++ G := by
 have h1 : i < (locs.zip l).length := by
  have := (zC e).1
  simp; lia
 rw [List.set_append_left _ _ h1]
 congr 1
 apply List.ext_getElem?
 intro j
 by_cases hj : i = j
 ·subst hj
  simp only [List.getElem?_set_self h1]
  exact (List.getElem?_zip_eq_some.mpr ⟨e, by simp [hi]⟩).symm
 ·rw [List.getElem?_set_ne hj]
  unfold List.zip
  rw [List.getElem?_zipWith, List.getElem?_zipWith, List.getElem?_set_ne hj]
theorem zip_get {locs : List Loc} {l : List AV} {G : List (Loc × AV)} {i : Nat} {loc : Loc} {v : AV} (e : locs[i]? = some loc) (k : l[i]? = some v) : (locs.zip l ++ G)[i]? = some (loc, v) := by
 have h1 := (zC e).1
 have h2 := (zC k).1
 rw [List.getElem?_append_left (by simp; lia)]
 exact List.getElem?_zip_eq_some.mpr ⟨e, k⟩
theorem St.store {locs : List Loc} {l : List AV} (x : St W ρ σ (locs.zip l ++ G) s) {i : Nat} {loc : Loc} {v : AV} {c : Value} {h' : Heap} {tk : Nat} (e : locs[i]? = some loc) (hi : i < l.length) (hs : Stored s.heap h' c loc) (hv : VR ρ v c) (htk : 0 < tk := by first | exact Nat.succ_pos _ | exact St.tk (by assumption) | omega) :
  St W ρ σ (locs.zip (l.set i v) ++ G) { s with heap := h', toks := tk } := by
 rw [← zip_set e hi]
 exact x.setG (v₀ := l[i]) (zip_get e (zH hi)) hs hv htk
end LA
noncomputable section LB
open PySem PySem.W PySem.Calls PyProof.Rows
noncomputable abbrev PE := List AV → AH → Option (AV × AH)
noncomputable abbrev PB := List AV → AH → Option (Bool × AH)
noncomputable abbrev Cont (W : Wd) {α β : Type} (rel : List Addr → β → α → Prop) (ρ : List Addr) (G : List (Loc × AV)) (v : β) (σ' : AH) (Q : α → Shared → Prop) : Prop :=
 ∀ ρ' s' c, Le ρ ρ' → rel ρ' v c → St W ρ' σ' G s' → Q c s'
theorem Cont.r2 {W : Wd} {α β : Type} {rel : List Addr → β → α → Prop} {ρ : List Addr} {G : List (Loc × AV)} {v v' : β} {σ σ' : AH} {Q : α → Shared → Prop} (h : Cont W rel ρ G v' σ' Q) (e : (v, σ) = (v', σ')) : Cont W rel ρ G v σ Q := r2a e ▸ r2b e ▸ h
theorem Cont.t2 {W : Wd} {α β : Type} {rel : List Addr → β → α → Prop} {ρ : List Addr} {G : List (Loc × AV)} {v v' : β} {σ σ' : AH} {Q : α → Shared → Prop} (h : Cont W rel ρ G v' σ' Q) (e : some (v, σ) = some (v', σ')) : Cont W rel ρ G v σ Q := h.r2 (Option.some.inj e)
noncomputable def Comp (W : Wd) {α β : Type} (rel : List Addr → β → α → Prop) (A : Around) (m : Sem α) (ρ : List Addr) (G : List (Loc × AV)) (s : Shared) (r : Option (β × AH)) : Prop :=
 ∀ v σ', r = some (v, σ') → ∀ (Q : α → Shared → Prop) (E : Value → Shared → Prop), Cont W rel ρ G v σ' Q → wpAny (model W.prog W.w) A m Q E s
noncomputable abbrev VB (_ : List Addr) (b : Bool) (c : Bool) : Prop := c = b
noncomputable abbrev VU (_ : List Addr) (_ : Unit) (_ : Unit) : Prop := True
section
variable {W : Wd} {α β α' β' : Type} {rel : List Addr → β → α → Prop} {rel' : List Addr → β' → α' → Prop} {A : Around} {ρ : List Addr} {G : List (Loc × AV)} {s : Shared}
theorem Comp.bind {m : Sem α} {k : α → Sem α'} {r : Option (β × AH)} {r' : β → AH → Option (β' × AH)} (h : Comp W rel A m ρ G s r)
  (h' : ∀ ρ₁ σ₁ s₁ x c, Le ρ ρ₁ → rel ρ₁ x c → St W ρ₁ σ₁ G s₁ → Comp W rel' A (k c) ρ₁ G s₁ (r' x σ₁)) :
  Comp W rel' A (m >>= k) ρ G s (r.bind fun p => r' p.1 p.2) := by
 intro v σ' e Q E hQ
 refine bindP e fun x σ₁ e1 e2 => ?_
 exact wpAny_bind (h x σ₁ e1 _ E fun ρ₁ s₁ c le r st => h' ρ₁ σ₁ s₁ x c le r st v σ' e2 Q E fun ρ₂ s₂ c₂ le₂ => hQ ρ₂ s₂ c₂ (le.trans le₂))
theorem Comp.none {m : Sem α} : Comp W rel A m ρ G s (none : Option (β × AH)) := fun _ _ e => by exact nn e
theorem Comp.of {m : Sem α} {r : Option (β × AH)} (h : ∀ v σ', r = some (v, σ') → ∀ (Q : α → Shared → Prop) (E : Value → Shared → Prop), Cont W rel ρ G v σ' Q → wpAny (model W.prog W.w) A m Q E s) : Comp W rel A m ρ G s r := h
end
structure Rs where
 slots : List (Str × Nat)
 globs : List Str
 loc : List Str
 cel : List Str
 capt : List Str
 code : Option Value := none
noncomputable def SlotOK (env : Env) (x : Str) : Loc → Prop
 | .ns L y => y = x ∧ L = env.locals ∧ env.kindOf x = some .local
 | .cell a => env.cells.lookup x = some a ∧ (env.kindOf x = some .cell ∨ env.kindOf x = some .free)
 | .raw _ _ => False
structure EnvOK (R : Rs) (env : Env) (locs : List Loc) : Prop where
 kind : env.scope.kind = .function
 globals : env.globals = mainGlobals
 builtins : env.builtins = builtinsNs
 notco : env.scope.isCoroutine = false
 slots : ∀ x i, R.slots.lookup x = some i → ∃ loc, locs[i]? = some loc ∧ SlotOK env x loc
 globs : ∀ x, R.globs.contains x = true → env.kindOf x = some .globalImplicit
 loc : ∀ x, R.loc.contains x = true → env.kindOf x = some .local
 cel : ∀ x, R.cel.contains x = true → env.kindOf x = some .cell
 capt : ∀ x, R.capt.contains x = true → env.kindOf x = some .cell ∨ env.kindOf x = some .free
 code : ∀ c, R.code = some c → env.code = c
structure CxA (A : Around) (k : Nat) (fs : List Env) (Ls : List Loc) : Prop where
 handled : A.handled = none
 depth : A.depth + k < recursionLimit
 units : A.units + 4 * k + 200 < cLine
 frames : A.frames = some fs
 fun' : ∀ e ∈ fs, e.scope.kind ≠ .module ∧ ∃ L x, e.frame = some L ∧ Loc.ns L x ∈ Ls
noncomputable def EvOK (W : Wd) (R : Rs) (k : Nat) (e : Expr) (f : PE) : Prop :=
 ∀ A fs env locs l G ρ σ s, CxA A k fs (locs ++ G.map (·.1)) → EnvOK R env locs → l.length = locs.length → St W ρ σ (locs.zip l ++ G) s →
  Comp W VR A (eval e env) ρ (locs.zip l ++ G) s (f l σ)
noncomputable def BtOK (W : Wd) (R : Rs) (k : Nat) (e : Expr) (f : PB) : Prop :=
 ∀ A fs env locs l G ρ σ s, CxA A k fs (locs ++ G.map (·.1)) → EnvOK R env locs → l.length = locs.length → St W ρ σ (locs.zip l ++ G) s →
  Comp W VB A (isTrue e env (eval e env)) ρ (locs.zip l ++ G) s (f l σ)
noncomputable def pConst (v : AV) : PE := fun _ h => some (v, h)
noncomputable def pVar (i : Nat) : PE := fun l h => match l[i]? with | some .undef => none | some v => some (v, h) | none => none
noncomputable abbrev AOp2 := AV → AV → AH → Option (AV × AH)
noncomputable def pBin (op : AOp2) (a b : PE) : PE := fun l h => (a l h).bind fun p => (b l p.2).bind fun q => op p.1 q.1 q.2
variable {W : Wd} {R : Rs} {k : Nat}
theorem loadName_slot {A : Around} {env : Env} {x : Str} {loc : Loc} {ρ : List Addr} {v : AV} {s : Shared} {Q : Value → Shared → Prop} {E : Value → Shared → Prop} (hk : env.scope.kind = .function) (hs : SlotOK env x loc)
  (hv : LocVal ρ s.heap loc v) (hn : v ≠ .undef) (h : ∀ c, VR ρ v c → Q c s) (hcd : (x == ("__classdict__" : Str)) = false) : wpAny (model W.prog W.w) A (loadName env x) Q E s := by
 cases loc with
 | ns L y =>
  obtain ⟨rfl, rfl, hl⟩ := hs
  refine xEA hv fun m hm r => ?_
  refine xEA (r hn) fun c e r' => ?_
  exact wpAny_loadName_local hk hl hm e (h c r')
 | cell a =>
  obtain ⟨hc, hl⟩ := hs
  refine xEA hv fun cv hm r => ?_
  refine xEA (r hn) fun c hrf r' => ?_; subst hrf
  rcases hl with hl | hl
  ·exact wpAny_loadName_cell hk hl hc hm (h c r')
  ·exact wpAny_loadName_free hk hl hc hm (h c r') hcd
 | raw _ _ => exact hs.elim
theorem EvOK.var {x : Str} {pos : Pos} {i : Nat} (e : R.slots.lookup x = some i) (hd : (x == ("__debug__" : Str)) = false) (hcd : (x == ("__classdict__" : Str)) = false) : EvOK W R k (.Name x pos) (pVar i) := by
 intro A fs env locs l G ρ σ s cx eo hl st v σ' ev Q E hQ
 refine xEA (eo.slots x i e) fun loc el hs => ?_
 unfold pVar at ev
 split at ev
 ·exact nn ev
 ·rename_i u n hu
  cases ev
  have hm : (loc, v) ∈ locs.zip l ++ G := zI (zip_get el hu)
  exact wpAny_Name (loadName_slot eo.kind hs (st.locs _ hm) (fun q => n q) (fun c r => hQ ρ s c (Le.refl _) r st) hcd) hd
 ·exact nn ev
theorem EvOK.glob {x : Str} {pos : Pos} {a : Addr} (e : R.globs.contains x = true) (hg : W.mg x = some (.ref a)) (hd : (x == ("__debug__" : Str)) = false) : EvOK W R k (.Name x pos) (pConst (.fn a)) := by
 intro A fs env locs l G ρ σ s cx eo hl st v σ' ev Q E hQ
 cases ev
 exact Name_function_global eo.kind (eo.globs x e) (loadGlobal_global (by rw [eo.globals]; exact W.g.keeps st.stays) hg (hQ ρ s _ (Le.refl _) rfl st)) hd
theorem EvOK.bltn {x : Str} {pos : Pos} {id : String} (e : R.globs.contains x = true) (hg : W.mg x = none) (hb : bootBuiltins x = some (.builtin id)) (hn : x ≠ "__name__") (hd : (x == ("__debug__" : Str)) = false) :
  EvOK W R k (.Name x pos) (pConst (.bi id)) := by
 intro A fs env locs l G ρ σ s cx eo hl st v σ' ev Q E hQ
 cases ev
 exact Name_function_global eo.kind (eo.globs x e) (loadGlobal_builtin (by rw [eo.globals]; exact W.g.keeps st.stays) hg (by rw [eo.builtins]; exact W.b.keeps st.stays) ((W.builtins x hn).trans hb) (hQ ρ s _ (Le.refl _) rfl st)) hd
theorem EvOK.bltnT {x : Str} {pos : Pos} {n : String} (e : R.globs.contains x = true) (hg : W.mg x = none) (hb : bootBuiltins x = some (.type n)) (hn : x ≠ "__name__") (hd : (x == ("__debug__" : Str)) = false) :
  EvOK W R k (.Name x pos) (pConst (.ty n)) := by
 intro A fs env locs l G ρ σ s cx eo hl st v σ' ev Q E hQ
 cases ev
 exact Name_function_global eo.kind (eo.globs x e) (loadGlobal_builtin (by rw [eo.globals]; exact W.g.keeps st.stays) hg (by rw [eo.builtins]; exact W.b.keeps st.stays) ((W.builtins x hn).trans hb) (hQ ρ s _ (Le.refl _) rfl st)) hd
theorem EvOK.int {i : Int} {j : Nat} {pos : Pos} : EvOK W R k (.Constant (.int i) j pos) (pConst (.int i)) := by
 intro A fs env locs l G ρ σ s cx eo hl st v σ' ev Q E hQ
 cases ev
 exact wpAny_Constant_int (hQ ρ _ _ (Le.refl _) ⟨_, rfl⟩ (st.toks _))
theorem EvOK.str {x : Str} {j : Nat} {pos : Pos} {t : List Nat} (e : x = ⟨t.toArray⟩) : EvOK W R k (.Constant (.str x) j pos) (pConst (.str t)) := by
 intro A fs env locs l G ρ σ s cx eo hl st v σ' ev Q E hQ
 cases ev
 subst e
 exact wpAny_Constant_str (hQ ρ _ _ (Le.refl _) ⟨_, rfl⟩ (st.toks _))
theorem EvOK.bool {b : Bool} {j : Nat} {pos : Pos} : EvOK W R k (.Constant (.bool b) j pos) (pConst (.bool b)) := by
 intro A fs env locs l G ρ σ s cx eo hl st v σ' ev Q E hQ
 cases ev
 exact wpAny_Constant_bool (hQ ρ _ _ (Le.refl _) rfl st)
noncomputable def OpOK (W : Wd) (m : Value → Value → Sem Value) (f : AOp2) : Prop :=
 ∀ A G ρ σ s x y cx cy, A.handled = none → A.units + 100 < cLine → VR ρ x cx → VR ρ y cy → St W ρ σ G s → Comp W VR A (m cx cy) ρ G s (f x y σ)
theorem EvOK.bin {a b : Expr} {op : Operator} {pos : Pos} {f g : PE} {o : AOp2} (ho : OpOK W (binaryOp op) o) (ha : EvOK W R k a f) (hb : EvOK W R k b g) : EvOK W R k (.BinOp a op b pos) (pBin o f g) := by
 intro A fs env locs l G ρ σ s cx eo hl st v σ' ev Q E hQ
 unfold pBin at ev
 refine bindP ev fun x σ₁ e1 ev => ?_
 refine bindP ev fun y σ₂ e2 e3 => ?_
 refine wpAny_BinOp (ha A fs env locs l G ρ σ s cx eo hl st x σ₁ e1 _ E fun ρ₁ s₁ c₁ le₁ r₁ st₁ => ?_)
 refine hb A fs env locs l G ρ₁ σ₁ s₁ cx eo hl st₁ y σ₂ e2 _ E fun ρ₂ s₂ c₂ le₂ r₂ st₂ => ?_
 exact ho A _ ρ₂ σ₂ s₂ x y c₁ c₂ cx.handled (o0 cx.units) (r₁.mono le₂) r₂ st₂ v σ' e3 Q E fun ρ₃ s₃ c₃ le₃ => hQ ρ₃ s₃ c₃ (le₁.trans (le₂.trans le₃))
noncomputable abbrev AOpB := AV → AV → AH → Option Bool
noncomputable def aB (f : AOpB) : AOp2 := fun x y h => (f x y h).map fun b => (.bool b, h)
noncomputable def pCmp (f : AOpB) (a b : PE) : PE := pBin (aB f) a b
noncomputable def pCmpB (f : AOpB) (a b : PE) : PB := fun l h => (a l h).bind fun p => (b l p.2).bind fun q => (f p.1 q.1 q.2).map fun c => (c, q.2)
theorem EvOK.cmp {a b : Expr} {op : CmpOp} {pos : Pos} {f g : PE} {o : AOpB} (ho : OpOK W (compareOp op) (aB o)) (ha : EvOK W R k a f) (hb : EvOK W R k b g) (hm : behindInMarks op b = false) : EvOK W R k (.Compare a [op] [b] pos) (pCmp o f g) := by
 intro A fs env locs l G ρ σ s cx eo hl st v σ' ev Q E hQ
 unfold pCmp pBin at ev
 refine bindP ev fun x σ₁ e1 ev => ?_
 refine bindP ev fun y σ₂ e2 e3 => ?_
 refine wpAny_Compare1 (ha A fs env locs l G ρ σ s cx eo hl st x σ₁ e1 _ E fun ρ₁ s₁ c₁ le₁ r₁ st₁ => ?_) hm
 refine hb A fs env locs l G ρ₁ σ₁ s₁ cx eo hl st₁ y σ₂ e2 _ E fun ρ₂ s₂ c₂ le₂ r₂ st₂ => ?_
 exact ho A _ ρ₂ σ₂ s₂ x y c₁ c₂ cx.handled (o0 cx.units) (r₁.mono le₂) r₂ st₂ v σ' e3 Q E fun ρ₃ s₃ c₃ le₃ => hQ ρ₃ s₃ c₃ (le₁.trans (le₂.trans le₃))
theorem BtOK.cmp {a b : Expr} {op : CmpOp} {pos : Pos} {f g : PE} {o : AOpB} (ho : OpOK W (compareOp op) (aB o)) (ha : EvOK W R k a f) (hb : EvOK W R k b g) (hm : behindInMarks op b = false) : BtOK W R k (.Compare a [op] [b] pos) (pCmpB o f g) := by
 intro A fs env locs l G ρ σ s cx eo hl st v σ' ev Q E hQ
 unfold pCmpB at ev
 refine bindP ev fun x σ₁ e1 ev => ?_
 refine bindP ev fun y σ₂ e2 e3 => ?_
 refine mapQ e3 fun b' e4 e5 => ?_
 cases e5
 refine wpAny_isTrue_Compare1 (ha A fs env locs l G ρ σ s cx eo hl st x σ₁ e1 _ E fun ρ₁ s₁ c₁ le₁ r₁ st₁ => ?_) hm
 refine hb A fs env locs l G ρ₁ σ₁ s₁ cx eo hl st₁ y σ₂ e2 _ E fun ρ₂ s₂ c₂ le₂ r₂ st₂ => ?_
 refine ho A _ ρ₂ σ₂ s₂ x y c₁ c₂ cx.handled (o0 cx.units) (r₁.mono le₂) r₂ st₂ (.bool v) σ₂ (by unfold aB; rw [e4]; rfl) _ E fun ρ₃ s₃ c₃ le₃ r₃ st₃ => ?_
 cases r₃
 exact wpAny_truthy_bool (hQ ρ₃ s₃ _ (le₁.trans (le₂.trans le₃)) rfl st₃)
noncomputable def aTruth : AV → AH → Option Bool
 | .none, _ => some false
 | .bool b, _ => some b
 | .int i, _ => some (i != 0)
 | .str t, _ => if t.length ≤ 1000000 then some (!t.isEmpty) else none
 | .ref n, h => match h[n]? with
  | some (.list xs) => if xs.length ≤ 1000000 then some (!xs.isEmpty) else none
  | _ => none
 | _, _ => none
theorem truth_ok {A : Around} {G : List (Loc × AV)} {ρ : List Addr} {σ : AH} {s : Shared} {x : AV} {c : Value} (r : VR ρ x c) (st : St W ρ σ G s) : Comp W VB A (truthy c) ρ G s ((aTruth x σ).map fun b => (b, σ)) := by
 intro v σ' ev Q E hQ
 refine mapQ ev fun b e1 e2 => ?_
 cases e2
 cases x with
 | none => cases r; cases e1; exact truthy_none (hQ ρ s _ (Le.refl _) rfl st)
 | bool b => cases r; cases e1; exact wpAny_truthy_bool (hQ ρ s _ (Le.refl _) rfl st)
 | int i => obtain ⟨t, rfl⟩ := r; cases e1; exact truthy_int (hQ ρ s _ (Le.refl _) rfl st)
 | str t =>
  obtain ⟨tk, rfl⟩ := r
  simp only [aTruth] at e1
  split at e1
  ·rename_i hz
   replace hQ := t1 e1 ▸ hQ
   refine P.truthy_str (by show ¬ ((t.toArray.size : Int) ≥ 2 ^ 63); simp; exact o44 (zF hz (by decide))) (hQ ρ _ _ (Le.refl _) ?_ (st.toks _))
   show ((t.toArray.size : Int) != 0) = _
   cases t <;> simp <;> lia
  ·exact nn e1
 | ref n =>
  refine xEA r fun a ea hrf => ?_; subst hrf
  simp only [aTruth] at e1
  split at e1
  ·rename_i xs hx
   split at e1
   ·rename_i hz
    replace hQ := t1 e1 ▸ hQ
    refine xEEAAEEA (st.at hx) fun a' o ea' ho vs n' hrf hv => ?_; subst hrf
    rw [ea] at ea'; replace ho := t1 ea' ▸ ho
    have hlen := hv.length
    refine wpAny_truthy_list (items := vs.toArray) ⟨_, ho, rfl, n', rfl⟩ (by simp; exact o44 (o51 hlen (zF hz (by decide)))) (hQ ρ _ _ (Le.refl _) ?_ (st.toks _))
    show (!vs.toArray.isEmpty) = !xs.isEmpty
    cases xs <;> cases vs <;> simp_all
   ·exact nn e1
  ·exact nn e1
 | _ => cases e1
theorem BtOK.val {e : Expr} {f : PE} (h : EvOK W R k e f) (hp : ∀ env whole, isTrue e env whole = (do let v ← whole; standAt e.pos; holding [v] (truthy v))) :
  BtOK W R k e (fun l h => (f l h).bind fun p => (aTruth p.1 p.2).map fun b => (b, p.2)) := by
 intro A fs env locs l G ρ σ s cx eo hl st v σ' ev Q E hQ
 refine bindP ev fun x σ₁ e1 e2 => ?_
 rw [hp]
 refine wpAny_bind (h A fs env locs l G ρ σ s cx eo hl st x σ₁ e1 _ E fun ρ₁ s₁ c₁ le₁ r₁ st₁ => wpAny_bind (wpAny_standAt (wpAny_holding ?_)))
 exact truth_ok r₁ st₁ v σ' e2 Q E fun ρ₂ s₂ c₂ le₂ => hQ ρ₂ s₂ c₂ (le₁.trans le₂)
noncomputable def pTruth (f : PE) : PB := fun l h => (f l h).bind fun p => (aTruth p.1 p.2).map fun b => (b, p.2)
theorem BtOK.val' {e : Expr} {f : PE} (h : EvOK W R k e f) (hp : ∀ env whole, isTrue e env whole = (do let v ← whole; standAt e.pos; holding [v] (truthy v))) : BtOK W R k e (pTruth f) := BtOK.val h hp
noncomputable def pNot (f : PB) : PB := fun l h => (f l h).map fun p => (!p.1, p.2)
theorem BtOK.not {e : Expr} {pos : Pos} {f : PB} (h : BtOK W R k e f) : BtOK W R k (.UnaryOp .Not e pos) (pNot f) := by
 intro A fs env locs l G ρ σ s cx eo hl st v σ' ev Q E hQ
 refine mapP ev fun x σ₁ e1 e2 => ?_
 replace hQ := hQ.r2 e2
 refine wpAny_isTrue_Not (h A fs env locs l G ρ σ s cx eo hl st x _ e1 _ E fun ρ₁ s₁ c₁ le₁ r₁ st₁ => ?_)
 cases r₁
 exact hQ ρ₁ s₁ _ le₁ rfl st₁
noncomputable def pAndB (f g : PB) : PB := fun l h => (f l h).bind fun p => if p.1 then g l p.2 else some (false, p.2)
noncomputable def pOrB (f g : PB) : PB := fun l h => (f l h).bind fun p => if p.1 then some (true, p.2) else g l p.2
theorem BtOK.and {a b : Expr} {pos : Pos} {f g : PB} (ha : BtOK W R k a f) (hb : BtOK W R k b g) : BtOK W R k (.BoolOp .And [a, b] pos) (pAndB f g) := by
 intro A fs env locs l G ρ σ s cx eo hl st v σ' ev Q E hQ
 refine bindP ev fun x σ₁ e1 e2 => ?_
 refine wpAny_isTrue_BoolOp (wpAny_allTrue_And_cons (ha A fs env locs l G ρ σ s cx eo hl st x σ₁ e1 _ E fun ρ₁ s₁ c₁ le₁ r₁ st₁ => ?_))
 cases r₁
 cases x with
 | false =>
  cases e2
  exact hQ ρ₁ s₁ _ le₁ rfl st₁
 | true =>
  refine wpAny_allTrue_And_cons (hb A fs env locs l G ρ₁ σ₁ s₁ cx eo hl st₁ v σ' e2 _ E fun ρ₂ s₂ c₂ le₂ r₂ st₂ => ?_)
  cases r₂
  cases v with
  | false => exact hQ ρ₂ s₂ _ (le₁.trans le₂) rfl st₂
  | true => exact wpAny_allTrue_And_nil (hQ ρ₂ s₂ _ (le₁.trans le₂) rfl st₂)
theorem BtOK.or {a b : Expr} {pos : Pos} {f g : PB} (ha : BtOK W R k a f) (hb : BtOK W R k b g) : BtOK W R k (.BoolOp .Or [a, b] pos) (pOrB f g) := by
 intro A fs env locs l G ρ σ s cx eo hl st v σ' ev Q E hQ
 refine bindP ev fun x σ₁ e1 e2 => ?_
 refine wpAny_isTrue_BoolOp (wpAny_allTrue_Or_cons (ha A fs env locs l G ρ σ s cx eo hl st x σ₁ e1 _ E fun ρ₁ s₁ c₁ le₁ r₁ st₁ => ?_))
 cases r₁
 cases x with
 | true =>
  cases e2
  exact hQ ρ₁ s₁ _ le₁ rfl st₁
 | false =>
  refine wpAny_allTrue_Or_cons (hb A fs env locs l G ρ₁ σ₁ s₁ cx eo hl st₁ v σ' e2 _ E fun ρ₂ s₂ c₂ le₂ r₂ st₂ => ?_)
  cases r₂
  cases v with
  | true => exact hQ ρ₂ s₂ _ (le₁.trans le₂) rfl st₂
  | false => exact wpAny_allTrue_Or_nil (hQ ρ₂ s₂ _ (le₁.trans le₂) rfl st₂)
noncomputable def pIte (t : PB) (a b : PE) : PE := fun l h => (t l h).bind fun p => if p.1 then a l p.2 else b l p.2
theorem EvOK.ite {t a b : Expr} {pos : Pos} {tf : PB} {f g : PE} (ht : BtOK W R k t tf) (ha : EvOK W R k a f) (hb : EvOK W R k b g) : EvOK W R k (.IfExp t a b pos) (pIte tf f g) := by
 intro A fs env locs l G ρ σ s cx eo hl st v σ' ev Q E hQ
 refine bindP ev fun x σ₁ e1 e2 => ?_
 refine wpAny_IfExp (ht A fs env locs l G ρ σ s cx eo hl st x σ₁ e1 _ E fun ρ₁ s₁ c₁ le₁ r₁ st₁ => ?_)
 cases r₁
 cases x with
 | true => exact ha A fs env locs l G ρ₁ σ₁ s₁ cx eo hl st₁ v σ' e2 Q E fun ρ₂ s₂ c₂ le₂ => hQ ρ₂ s₂ c₂ (le₁.trans le₂)
 | false => exact hb A fs env locs l G ρ₁ σ₁ s₁ cx eo hl st₁ v σ' e2 Q E fun ρ₂ s₂ c₂ le₂ => hQ ρ₂ s₂ c₂ (le₁.trans le₂)
noncomputable def pCmp2B (f1 f2 : AOpB) (a b c : PE) : PB := fun l h => (a l h).bind fun p => (b l p.2).bind fun q => (f1 p.1 q.1 q.2).bind fun t => if t then (c l q.2).bind fun r => (f2 q.1 r.1 r.2).map fun u => (u, r.2) else some (false, q.2)
theorem BtOK.cmp2 {a b c : Expr} {o1 o2 : CmpOp} {pos : Pos} {f g i : PE} {q1 q2 : AOpB} (h1 : OpOK W (compareOp o1) (aB q1)) (h2 : OpOK W (compareOp o2) (aB q2)) (ha : EvOK W R k a f) (hb : EvOK W R k b g) (hc : EvOK W R k c i)
  (hm : behindInMarks o2 c = false) : BtOK W R k (.Compare a [o1, o2] [b, c] pos) (pCmp2B q1 q2 f g i) := by
 intro A fs env locs l G ρ σ s cx eo hl st v σ' ev Q E hQ
 unfold pCmp2B at ev
 refine bindP ev fun x σ₁ e1 ev => ?_
 refine bindP ev fun y σ₂ e2 ev => ?_
 refine bindQ ev fun t e3 ev => ?_
 have hun := cx.units
 show wpAny _ _ (do testChain pos (← eval a env) [o1, o2] [eval b env, markedBehindIn o2 c (eval c env)]) Q E s
 rw [markedBehindIn_of_false hm]
 refine wpAny_bind (ha A fs env locs l G ρ σ s cx eo hl st x σ₁ e1 _ E fun ρ₁ s₁ c₁ le₁ r₁ st₁ => ?_)
 show wpAny _ _ (do
  let rv ← holding [c₁] (eval b env)
  standAt pos
  let d ← holding [c₁, rv] (compareOp o1 c₁ rv)
  release [c₁, rv] [d]
  if ← holding [d, rv] (truthy d) then testChain pos rv [o2] [eval c env] else pure false) Q E _
 refine wpAny_bind (wpAny_holding (hb A fs env locs l G ρ₁ σ₁ s₁ cx eo hl st₁ y σ₂ e2 _ E fun ρ₂ s₂ c₂ le₂ r₂ st₂ => wpAny_bind (wpAny_standAt (wpAny_bind (wpAny_holding ?_)))))
 refine h1 A _ ρ₂ σ₂ s₂ x y c₁ c₂ cx.handled (by exact o0 hun) (r₁.mono le₂) r₂ st₂ (.bool t) σ₂ (by unfold aB; rw [e3]; rfl) _ E fun ρ₃ s₃ c₃ le₃ r₃ st₃ => ?_
 cases r₃
 refine wpAny_bind (wpAny_release (wpAny_bind (wpAny_holding (wpAny_truthy_bool ?_))))
 cases t with
 | false =>
  cases ev
  exact wpAny_pure (hQ ρ₃ s₃ _ (le₁.trans (le₂.trans le₃)) rfl st₃)
 | true =>
  refine bindP ev fun z σ₃ e4 e5 => ?_
  refine mapQ e5 fun u e6 e7 => ?_
  cases e7
  simp only [if_true]
  show wpAny _ _ (do
   let rv ← holding [c₂] (eval c env)
   standAt pos
   let d ← operate [c₂, rv] (compareOp o2 c₂ rv)
   holding [d] (truthy d)) Q E _
  refine wpAny_bind (wpAny_holding (hc A fs env locs l G ρ₃ σ₂ s₃ cx eo hl st₃ z σ₃ e4 _ E fun ρ₄ s₄ c₄ le₄ r₄ st₄ => wpAny_bind (wpAny_standAt (wpAny_bind (wpAny_operateT ?_)))))
  refine h2 A _ ρ₄ σ₃ s₄ y z c₂ c₄ cx.handled (by exact o0 hun) ((r₂.mono le₃).mono le₄) r₄ st₄ (.bool v) σ₃ (by unfold aB; rw [e6]; rfl) _ E fun ρ₅ s₅ c₅ le₅ r₅ st₅ => ?_
  cases r₅
  exact wpAny_holding (wpAny_truthy_bool (hQ ρ₅ s₅ _ (le₁.trans (le₂.trans (le₃.trans (le₄.trans le₅)))) rfl st₅))
noncomputable def pArgs : List PE → List AV → AH → Option (List AV × AH)
 | [], _, h => some ([], h)
 | f :: fs, l, h => (f l h).bind fun p => (pArgs fs l p.2).bind fun q => some (p.1 :: q.1, q.2)
inductive EvsOK (W : Wd) (R : Rs) (k : Nat) : List Expr → List PE → Prop
 | nil : EvsOK W R k [] []
 | cons {e : Expr} {es : List Expr} {f : PE} {fs : List PE} (h : EvOK W R k e f) (hs : ∀ rest env, starEach (e :: rest) env = (false, eval e env) :: starEach rest env) (r : EvsOK W R k es fs) : EvsOK W R k (e :: es) (f :: fs)
theorem args_ok {es : List Expr} {fs' : List PE} (h : EvsOK W R k es fs') {A : Around} {fs : List Env} {env : Env} {locs : List Loc} {l : List AV} {G : List (Loc × AV)} {pos : Pos} (cx : CxA A k fs (locs ++ G.map (·.1))) (eo : EnvOK R env locs) (hl : l.length = locs.length) :
  ∀ {ρ : List Addr} {σ : AH} {s : Shared}, St W ρ σ (locs.zip l ++ G) s → Comp W VRs A (spliced (backTo pos (starEach es env))) ρ (locs.zip l ++ G) s (pArgs fs' l σ) := by
 induction h with
 | nil =>
  intro ρ σ s st v σ' ev Q E hQ
  cases ev
  exact wpAny_items_nil (hQ ρ s [] (Le.refl _) trivial st)
 | cons h hs r ih =>
  intro ρ σ s st v σ' ev Q E hQ
  refine bindP ev fun x σ₁ e1 ev => ?_
  refine bindP ev fun xs σ₂ e2 e3 => ?_
  replace hQ := hQ.t2 e3
  refine args_cons (h A fs env locs l G ρ σ s cx eo hl st x σ₁ e1 _ E fun ρ₁ s₁ c₁ le₁ r₁ st₁ => ?_) (hs _ _)
  refine ih st₁ xs σ₂ e2 _ E fun ρ₂ s₂ cs le₂ r₂ st₂ => ?_
  exact hQ ρ₂ s₂ _ (le₁.trans le₂) ⟨r₁.mono le₂, r₂⟩ st₂
theorem EvsOK.noStar {es : List Expr} {fs : List PE} (h : EvsOK W R k es fs) (pos : Pos) (env : Env) : (backTo pos (starEach es env)).any (·.1) = false := by
 induction h with
 | nil => rfl
 | cons h hs r ih => rw [hs]; exact ih
theorem EvsOK.len {es : List Expr} {fs : List PE} (h : EvsOK W R k es fs) : fs.length = es.length := by
 induction h with
 | nil => rfl
 | cons h hs r ih => simp [ih]
noncomputable def pList (fs : List PE) : PE := fun l h => (pArgs fs l h).bind fun p => some (.ref p.2.length, p.2 ++ [.list p.1])
noncomputable def pTup (fs : List PE) : PE := fun l h => (pArgs fs l h).bind fun p => some (.ref p.2.length, p.2 ++ [.tup p.1])
theorem St.newList {ρ : List Addr} {σ : AH} {G : List (Loc × AV)} {s : Shared} (st : St W ρ σ G s) {xs : List AV} {vs : List Value} (r : VRs ρ xs vs) (tk : Nat) (htk : 0 < tk := by first | exact Nat.succ_pos _ | exact St.tk (by assumption) | omega) :
  St W (ρ ++ [s.heap.objs.size]) (σ ++ [.list xs]) G { s with heap := s.heap.push (listOf vs.toArray 0), toks := tk } := st.alloc rfl ⟨vs, 0, rfl, r.mono (Le.app _ _)⟩ htk
theorem St.newTup {ρ : List Addr} {σ : AH} {G : List (Loc × AV)} {s : Shared} (st : St W ρ σ G s) {xs : List AV} {vs : List Value} (r : VRs ρ xs vs) (tk : Nat) (htk : 0 < tk := by first | exact Nat.succ_pos _ | exact St.tk (by assumption) | omega) :
  St W (ρ ++ [s.heap.objs.size]) (σ ++ [.tup xs]) G { s with heap := s.heap.push (tupOf vs.toArray 0), toks := tk } := st.alloc rfl ⟨vs, 0, rfl, r.mono (Le.app _ _)⟩ htk
theorem new_ref {ρ : List Addr} {σ : AH} {G : List (Loc × AV)} {s : Shared} (st : St W ρ σ G s) : VR (ρ ++ [s.heap.objs.size]) (.ref σ.length) (.ref s.heap.objs.size) :=
 ⟨_, by rw [← st.len, List.getElem?_append_right (Nat.le_refl _)]; simp, rfl⟩
theorem newList_ok {A : Around} {ρ : List Addr} {σ : AH} {G : List (Loc × AV)} {s : Shared} (st : St W ρ σ G s) {xs : List AV} {vs : List Value} (r : VRs ρ xs vs) (hz : xs.length ≤ sizeLine) :
  Comp W VR A (newList vs) ρ G s (some (.ref σ.length, σ ++ [.list xs])) := by
 intro v σ' ev Q E hQ
 replace hQ := hQ.t2 ev
 exact wpAny_newObj_type (hQ _ _ _ (Le.app _ _) (new_ref st) (st.newList r s.toks)) (by show vs.toArray.size ≤ sizeLine; rw [List.size_toArray, r.length]; exact hz)
theorem newTup_ok {A : Around} {ρ : List Addr} {σ : AH} {G : List (Loc × AV)} {s : Shared} (st : St W ρ σ G s) {xs : List AV} {vs : List Value} (r : VRs ρ xs vs) (hz : xs.length ≤ sizeLine) :
  Comp W VR A (newTuple vs) ρ G s (some (.ref σ.length, σ ++ [.tup xs])) := by
 intro v σ' ev Q E hQ
 replace hQ := hQ.t2 ev
 exact wpAny_newObj_type (hQ _ _ _ (Le.app _ _) (new_ref st) (st.newTup r s.toks)) (by show vs.toArray.size ≤ sizeLine; rw [List.size_toArray, r.length]; exact hz)
theorem pArgs_len : ∀ {fs : List PE} {l : List AV} {h : AH} {xs : List AV} {h' : AH}, pArgs fs l h = some (xs, h') → xs.length = fs.length
 | [], _, _, _, _, e => by cases e; rfl
 | f :: fs, l, h, xs, h', e => by
  refine bindP e fun x σ₁ e1 ev => ?_
  refine bindP ev fun ys σ₂ e2 e3 => ?_
  cases e3
  simp [pArgs_len e2]
theorem EvOK.list {es : List Expr} {fs' : List PE} {pos : Pos} (h : EvsOK W R k es fs') (hz : es.length ≤ 100) : EvOK W R k (.List es pos) (pList fs') := by
 intro A fs env locs l G ρ σ s cx eo hl st v σ' ev Q E hQ
 refine bindP ev fun xs σ₁ e1 e2 => ?_
 refine List_ (args_ok h cx eo hl st xs σ₁ e1 _ E fun ρ₁ s₁ cs le₁ r₁ st₁ => ?_)
 have hn := pArgs_len e1
 have hn' := h.len
 exact newList_ok st₁ r₁ (by rw [sizeLine_eq]; exact o33 hz hn hn') v σ' e2 Q E fun ρ₂ s₂ c le₂ => hQ ρ₂ s₂ c (le₁.trans le₂)
theorem EvOK.tup {es : List Expr} {fs' : List PE} {j : Nat} {pos : Pos} (h : EvsOK W R k es fs') (hz : es.length ≤ 100) : EvOK W R k (.Tuple es j pos) (pTup fs') := by
 intro A fs env locs l G ρ σ s cx eo hl st v σ' ev Q E hQ
 refine bindP ev fun xs σ₁ e1 e2 => ?_
 refine Tuple_ (args_ok h cx eo hl st xs σ₁ e1 _ E fun ρ₁ s₁ cs le₁ r₁ st₁ => ?_)
 have hn := pArgs_len e1
 have hn' := h.len
 exact newTup_ok st₁ r₁ (by rw [sizeLine_eq]; exact o33 hz hn hn') v σ' e2 Q E fun ρ₂ s₂ c le₂ => hQ ρ₂ s₂ c (le₁.trans le₂)
noncomputable abbrev PF := List AV → AH → Option (AV × AH)
noncomputable def CallOK (W : Wd) (k : Nat) (f : Addr) (F : PF) : Prop :=
 ∀ A fs G ρ σ s args cargs, CxA A k fs (G.map (·.1)) → St W ρ σ G s → VRs ρ args cargs → Comp W VR A (call (.ref f) cargs) ρ G s (F args σ)
noncomputable def FunOK (W : Wd) (id : String) (F : PF) : Prop :=
 ∀ A G ρ σ s args cargs, A.handled = none → A.units + 100 < cLine → A.depth < recursionLimit → St W ρ σ G s → VRs ρ args cargs → Comp W VR A (call (.builtin id) cargs) ρ G s (F args σ)
noncomputable def TypOK (W : Wd) (n : String) (F : PF) : Prop :=
 ∀ A G ρ σ s args cargs, A.handled = none → A.units + 100 < cLine → A.depth < recursionLimit → St W ρ σ G s → VRs ρ args cargs → Comp W VR A (call (.type n) cargs) ρ G s (F args σ)
noncomputable def pCall (F : PF) (fs : List PE) : PE := fun l h => (pArgs fs l h).bind fun p => F p.1 p.2
theorem CxA.of_locs {A : Around} {k : Nat} {fs : List Env} {locs : List Loc} {l : List AV} {G : List (Loc × AV)} (cx : CxA A k fs (locs ++ G.map (·.1))) (hl : l.length = locs.length) : CxA A k fs ((locs.zip l ++ G).map (·.1)) := by
 have e : (locs.zip l ++ G).map (·.1) = locs ++ G.map (·.1) := by
  rw [List.map_append, List.map_fst_zip (by exact o53 (Nat.le_refl _) (Eq.symm hl))]
 rw [e]; exact cx
theorem CxA.less {A : Around} {k k' : Nat} {fs : List Env} {Ls : List Loc} (cx : CxA A k fs Ls) (h : k' ≤ k) : CxA A k' fs Ls := by
 have h1 := cx.depth; have h2 := cx.units
 exact ⟨cx.handled, by lia, by lia, cx.frames, cx.fun'⟩
theorem callWith_ok {A : Around} {fs : List Env} {env : Env} {locs : List Loc} {l : List AV} {G : List (Loc × AV)} {pos : Pos} {es : List Expr} {fs' : List PE} {fv : Value} {first : List Value} (h : EvsOK W R k es fs') (cx : CxA A k fs (locs ++ G.map (·.1))) (eo : EnvOK R env locs) (hl : l.length = locs.length)
  {ρ : List Addr} {σ : AH} {s : Shared} (st : St W ρ σ (locs.zip l ++ G) s) {F : PF}
  (hk : ∀ s₁ ρ₁ σ₁ xs, Le ρ ρ₁ → (F xs σ₁).isSome = true → St W ρ₁ σ₁ (locs.zip l ++ G) s₁ → ∃ kp, (kp = Keeper.frame ∨ kp = Keeper.machine ∨ kp = Keeper.boundFrame) ∧ Looks (model W.prog W.w) s₁.heap (keeperOf fv) kp)
  (hc : ∀ ρ₁ σ₁ s₁ args cargs, Le ρ ρ₁ → St W ρ₁ σ₁ (locs.zip l ++ G) s₁ → VRs ρ₁ args cargs → Comp W VR A (call fv (first ++ cargs)) ρ₁ (locs.zip l ++ G) s₁ (F args σ₁)) :
  Comp W VR A (callWith pos fv first (backTo pos (starEach es env)) []) ρ (locs.zip l ++ G) s (pCall F fs' l σ) := by
 intro v σ' ev Q E hQ
 refine bindP ev fun xs σ₁ e1 e2 => ?_
 have hplain := h.noStar pos env
 have hsome : (F xs σ₁).isSome = true := by rw [e2]; rfl
 refine callWith_of (P := fun hp => ∃ s₁ ρ₁, s₁.heap = hp ∧ Le ρ ρ₁ ∧ St W ρ₁ σ₁ (locs.zip l ++ G) s₁) (by rw [hplain]; rfl) (fun hp hx => ?_) ?_
 ·refine xEEAA hx fun s₁ ρ₁ hrf le₁ st₁ => ?_; subst hrf
  exact hk s₁ ρ₁ σ₁ xs le₁ hsome st₁
 cases h with
 | nil =>
  cases e1
  exact PyProof.Rows.evalArgs_none ⟨⟨s, ρ, rfl, Le.refl _, st⟩, hc ρ σ s [] [] (Le.refl _) st trivial v σ' e2 Q E hQ⟩
 | cons h hs r =>
  have main := args_ok (pos := pos) (EvsOK.cons h hs r) cx eo hl st xs σ₁ e1 (fun vs s₁ => (∃ s₂ ρ₁, s₂.heap = s₁.heap ∧ Le ρ ρ₁ ∧ St W ρ₁ σ₁ (locs.zip l ++ G) s₂) ∧ wpAny (model W.prog W.w) A (call fv (first ++ vs) []) Q E s₁) E fun ρ₁ s₁ cs le₁ r₁ st₁ =>
   ⟨⟨s₁, ρ₁, rfl, le₁, st₁⟩, hc ρ₁ σ₁ s₁ xs cs le₁ st₁ r₁ v σ' e2 Q E fun ρ₂ s₂ c le₂ => hQ ρ₂ s₂ c (le₁.trans le₂)⟩
  rw [hs] at main ⊢
  exact evalArgs_plain main
noncomputable def FnAt (W : Wd) (f : Addr) : Prop := ∃ o fd, W.B.get? f = some o ∧ o.data = .func fd
theorem FnAt.looks {f : Addr} (h : FnAt W f) {ρ : List Addr} {σ : AH} {G : List (Loc × AV)} {s : Shared} (st : St W ρ σ G s) : Looks (model W.prog W.w) s.heap (keeperOf (.ref f)) .frame := by
 refine xEEA h fun o fd ho hd => ?_
 intro A Q E s' hk hq
 unfold keeperOf
 refine wpAny_bind (wpAny_load (hk _ _ (st.stays _ _ ho)) ?_)
 rw [hd]
 exact wpAny_pure hq
theorem EvOK.call {x : Str} {np pos : Pos} {a : Addr} {es : List Expr} {fs' : List PE} {F : PF} {k' : Nat} (e : R.globs.contains x = true) (hg : W.mg x = some (.ref a)) (hd : (x == ("__debug__" : Str)) = false) (hfn : FnAt W a)
  (hF : CallOK W k' a F) (hk : k' ≤ k) (h : EvsOK W R k es fs') : EvOK W R k (.Call (.Name x np) es [] pos) (pCall F fs') := by
 intro A fs env locs l G ρ σ s cx eo hl st v σ' ev Q E hQ
 refine Call_ ?_
 refine EvOK.glob (k := k) e hg hd A fs env locs l G ρ σ s cx eo hl st (.fn a) σ rfl _ E fun ρ₁ s₁ c₁ le₁ r₁ st₁ => ?_
 cases r₁
 refine callWith_ok (first := []) h cx eo hl st₁ (F := F) (fun s₂ ρ₂ σ₂ xs _ _ st₂ => ⟨.frame, .inl rfl, hfn.looks st₂⟩) (fun ρ₂ σ₂ s₂ args cargs le₂ st₂ r₂ => ?_) v σ' ev Q E fun ρ₂ s₂ c le₂ => hQ ρ₂ s₂ c (le₁.trans le₂)
 exact hF A fs _ ρ₂ σ₂ s₂ args cargs ((cx.of_locs hl).less hk) st₂ r₂
theorem EvOK.callB {x : Str} {np pos : Pos} {id : String} {es : List Expr} {fs' : List PE} {F : PF} (e : R.globs.contains x = true) (hg : W.mg x = none) (hb : bootBuiltins x = some (.builtin id)) (hn : x ≠ "__name__") (hd : (x == ("__debug__" : Str)) = false)
  (hF : FunOK W id F) (h : EvsOK W R k es fs') : EvOK W R k (.Call (.Name x np) es [] pos) (pCall F fs') := by
 intro A fs env locs l G ρ σ s cx eo hl st v σ' ev Q E hQ
 refine Call_ ?_
 refine EvOK.bltn (k := k) e hg hb hn hd A fs env locs l G ρ σ s cx eo hl st (.bi id) σ rfl _ E fun ρ₁ s₁ c₁ le₁ r₁ st₁ => ?_
 cases r₁
 refine callWith_ok (first := []) h cx eo hl st₁ (F := F) (fun s₂ ρ₂ σ₂ xs _ _ st₂ => ⟨.machine, .inr (.inl rfl), .of_pure rfl⟩) (fun ρ₂ σ₂ s₂ args cargs le₂ st₂ r₂ => ?_) v σ' ev Q E fun ρ₂ s₂ c le₂ => hQ ρ₂ s₂ c (le₁.trans le₂)
 exact hF A _ ρ₂ σ₂ s₂ args cargs cx.handled (o0 cx.units) (o9 cx.depth) st₂ r₂
theorem EvOK.callT {x : Str} {np pos : Pos} {n : String} {es : List Expr} {fs' : List PE} {F : PF} (e : R.globs.contains x = true) (hg : W.mg x = none) (hb : bootBuiltins x = some (.type n)) (hn : x ≠ "__name__") (hd : (x == ("__debug__" : Str)) = false)
  (hF : TypOK W n F) (h : EvsOK W R k es fs') : EvOK W R k (.Call (.Name x np) es [] pos) (pCall F fs') := by
 intro A fs env locs l G ρ σ s cx eo hl st v σ' ev Q E hQ
 refine Call_ ?_
 refine EvOK.bltnT (k := k) e hg hb hn hd A fs env locs l G ρ σ s cx eo hl st (.ty n) σ rfl _ E fun ρ₁ s₁ c₁ le₁ r₁ st₁ => ?_
 cases r₁
 refine callWith_ok (first := []) h cx eo hl st₁ (F := F) (fun s₂ ρ₂ σ₂ xs _ _ st₂ => ⟨.machine, .inr (.inl rfl), .of_pure rfl⟩) (fun ρ₂ σ₂ s₂ args cargs le₂ st₂ r₂ => ?_) v σ' ev Q E fun ρ₂ s₂ c le₂ => hQ ρ₂ s₂ c (le₁.trans le₂)
 exact hF A _ ρ₂ σ₂ s₂ args cargs cx.handled (o0 cx.units) (o9 cx.depth) st₂ r₂
noncomputable def MethOK (W : Wd) (id : String) (F : AV → PF) : Prop :=
 ∀ A G ρ σ s x cx args cargs, A.handled = none → A.units + 100 < cLine → St W ρ σ G s → VR ρ x cx → VRs ρ args cargs → Comp W VR A (call (.builtin id) (cx :: cargs)) ρ G s (F x args σ)
inductive SKind where
 | str | list
noncomputable def SKind.name : SKind → String
 | .str => "str" | .list => "list"
noncomputable def SKind.ok : SKind → AV → AH → Bool
 | .str, .str _, _ => true
 | .list, .ref n, h => (match h[n]? with | some (.list _) => true | _ => false)
 | _, _, _ => false
theorem SKind.typeIs {t : SKind} {x : AV} {c : Value} {ρ : List Addr} {σ : AH} {G : List (Loc × AV)} {s : Shared} (st : St W ρ σ G s) (r : VR ρ x c) (h : t.ok x σ = true) : s.TypeIs c t.name ∧ ∀ a, c = .ref a → ∃ ob, s.heap.get? a = some ob ∧ ob.dict = none := by
 cases t with
 | str =>
  cases x <;> simp [SKind.ok] at h
  obtain ⟨tk, rfl⟩ := r
  exact ⟨typeIs_str _ _ _, fun a e => by cases e⟩
 | list =>
  cases x <;> simp only [SKind.ok] at h <;> try (exact absurd h Bool.false_ne_true)
  split at h
  ·rename_i xs hx
   refine xEA r fun a ea hrf => ?_; subst hrf
   refine xEEAAEEA (st.at hx) fun a' o ea' ho vs n' hrf hv => ?_; subst hrf
   rw [ea] at ea'; replace ho := t1 ea' ▸ ho
   exact ⟨⟨_, ho, rfl⟩, fun b e => by cases e; exact ⟨_, ho, rfl⟩⟩
  ·cases h
noncomputable def pMeth (t : SKind) (F : AV → PF) (o : PE) (fs : List PE) : PE := fun l h => (o l h).bind fun p => if t.ok p.1 p.2 then (pArgs fs l p.2).bind fun q => F p.1 q.1 q.2 else none
theorem EvOK.meth {o : Expr} {name : Str} {apos pos : Pos} {es : List Expr} {f : PE} {fs' : List PE} {t : SKind} {id : String} {F : AV → PF} (pa : PlainAttrs t.name) (slot : Slot t.name name id) (hty : typeOf (.builtin id) = pure (.type "method_descriptor"))
  (hbase : ∀ env, attributeBase o name env (eval o env) = eval o env) (hline : (apos.endLine == pos.line) = true) (hn : es.length < 20) (hF : MethOK W id F) (ho : EvOK W R k o f) (h : EvsOK W R k es fs') :
  EvOK W R k (.Call (.Attribute o name apos) es [] pos) (pMeth t F f fs') := by
 intro A fs env locs l G ρ σ s cx eo hl st v σ' ev Q E hQ
 refine bindP ev fun x σ₁ e1 ev => ?_
 have hns : ((backTo pos (starEach es env)).all (fun x => !x.1)) = true := by
  have := h.noStar pos env
  rw [List.all_eq_not_any_not]
  simpa using this
 refine wpAny_Call_method (hbase env) ?_ hline pa slot hty (ho A fs env locs l G ρ σ s cx eo hl st x σ₁ e1 _ E fun ρ₁ s₁ c₁ le₁ r₁ st₁ => ?_)
 ·rw [hns]
  show (true && true && decide (es.length + 0 + 0 < 30)) = true
  simp; exact zK hn (by decide)
 dsimp only at ev
 split at ev
 ·rename_i hk
  obtain ⟨t1, t2⟩ := SKind.typeIs st₁ r₁ hk
  refine ⟨t1, t2, ?_⟩
  refine callWith_ok (first := [c₁]) h cx eo hl st₁ (F := F x) (fun s₂ ρ₂ σ₂ xs _ _ st₂ => ⟨.machine, .inr (.inl rfl), .of_pure rfl⟩) (fun ρ₂ σ₂ s₂ args cargs le₂ st₂ r₂ => ?_) v σ' ev Q E fun ρ₂ s₂ c le₂ => hQ ρ₂ s₂ c (le₁.trans le₂)
  exact hF A _ ρ₂ σ₂ s₂ x c₁ args cargs cx.handled (o0 cx.units) st₂ (r₁.mono le₂) r₂
 ·exact nn ev
end LB
noncomputable section LC
open PySem PySem.W PySem.Calls PyProof.Rows
variable {W : Wd} {R : Rs} {k : Nat}
noncomputable def small (i : Int) : Bool := decide (i.natAbs < 1000000000)
noncomputable def op2 {β : Type} (fi : Int → Int → Option β) (fs : List Nat → List Nat → Option β) (fb : Bool → Bool → Option β) (fr : Nat → Nat → Option β) (x y : AV) : Option β := match x with
 | .int a => match y with
  | .int b => fi a b
  | _ => none
 | .str a => match y with
  | .str b => fs a b
  | _ => none
 | .bool a => match y with
  | .bool b => fb a b
  | _ => none
 | .ref a => match y with
  | .ref b => fr a b
  | _ => none
 | _ => none
noncomputable def no2 {α β : Type} (_ _ : α) : Option β := none
theorem op2_ok {β : Type} {fi : Int → Int → Option β} {fs : List Nat → List Nat → Option β} {fb : Bool → Bool → Option β} {fr : Nat → Nat → Option β} {ρ : List Addr} {x y : AV} {cx cy : Value} {r : β} (P : Value → Value → Prop) (e : op2 fi fs fb fr x y = some r) (rx : VR ρ x cx) (ry : VR ρ y cy)
  (ki : ∀ a b t u, fi a b = some r → P (.int a t) (.int b u)) (ks : ∀ a b t u, fs a b = some r → P (.str ⟨a.toArray⟩ t) (.str ⟨b.toArray⟩ u)) (kb : ∀ a b, fb a b = some r → P (.bool a) (.bool b))
  (kr : ∀ m n, fr m n = some r → VR ρ (.ref m) cx → VR ρ (.ref n) cy → P cx cy) : P cx cy := by
 cases x with
 | int a => cases y with
  | int b => obtain ⟨t, rfl⟩ := rx; obtain ⟨u, rfl⟩ := ry; exact ki a b t u e
  | _ => exact nn e
 | str a => cases y with
  | str b => obtain ⟨t, rfl⟩ := rx; obtain ⟨u, rfl⟩ := ry; exact ks a b t u e
  | _ => exact nn e
 | bool a => cases y with
  | bool b => cases rx; cases ry; exact kb a b e
  | _ => exact nn e
 | ref a => cases y with
  | ref b => exact kr a b e rx ry
  | _ => exact nn e
 | _ => exact nn e
theorem op2_is {β : Type} {fi : Int → Int → Option β} {fs : List Nat → List Nat → Option β} {ρ : List Addr} {x y : AV} {cx cy : Value} {r : β} (P : Value → Value → Prop) (e : op2 fi fs no2 no2 x y = some r) (rx : VR ρ x cx) (ry : VR ρ y cy)
  (ki : ∀ a b t u, fi a b = some r → P (.int a t) (.int b u)) (ks : ∀ a b t u, fs a b = some r → P (.str ⟨a.toArray⟩ t) (.str ⟨b.toArray⟩ u)) : P cx cy := op2_ok P e rx ry ki ks (fun _ _ e => nn e) fun _ _ e _ _ => nn e
theorem op2_i {β : Type} {fi : Int → Int → Option β} {ρ : List Addr} {x y : AV} {cx cy : Value} {r : β} (P : Value → Value → Prop) (e : op2 fi no2 no2 no2 x y = some r) (rx : VR ρ x cx) (ry : VR ρ y cy)
  (ki : ∀ a b t u, fi a b = some r → P (.int a t) (.int b u)) : P cx cy := op2_is P e rx ry ki fun _ _ _ _ e => nn e
noncomputable def oAdd : AOp2 := fun x y h => op2 (fun a b => some (.int (a + b), h)) (fun a b => if a.length + b.length ≤ 1000000 then some (.str (a ++ b), h) else none) no2 no2 x y
noncomputable def oSub : AOp2 := fun x y h => op2 (fun a b => some (.int (a - b), h)) no2 no2 no2 x y
noncomputable def oMul : AOp2 := fun x y h => op2 (fun a b => if small a then some (.int (a * b), h) else none) no2 no2 no2 x y
noncomputable def oFdiv : AOp2 := fun x y h => op2 (fun a b => if b ≠ 0 ∧ small b = true then some (.int (a.fdiv b), h) else none) no2 no2 no2 x y
noncomputable def oMod : AOp2 := fun x y h => op2 (fun a b => if b ≠ 0 then some (.int (a.fmod b), h) else none) no2 no2 no2 x y
noncomputable def oPow : AOp2 := fun x y h => op2 (fun a b => if 0 ≤ b ∧ b ≤ 1000 ∧ a.natAbs ≤ 1000 then some (.int (a ^ b.toNat), h) else none) no2 no2 no2 x y
noncomputable def oShr : AOp2 := fun x y h => op2 (fun a b => if 0 ≤ b then some (.int (a.fdiv (2 ^ b.toNat)), h) else none) no2 no2 no2 x y
noncomputable def oAnd : AOp2 := fun x y h => op2 (fun a b => some (.int (Builtin.bitAnd a b), h)) no2 no2 no2 x y
section
variable {a b : Int} {c d : List Nat} {h : AH}
theorem oAdd_i : oAdd (.int a) (.int b) h = some (.int (a + b), h) := rfl
theorem oAdd_s : oAdd (.str c) (.str d) h = if c.length + d.length ≤ 1000000 then some (.str (c ++ d), h) else none := rfl
theorem oSub_i : oSub (.int a) (.int b) h = some (.int (a - b), h) := rfl
theorem oMul_i : oMul (.int a) (.int b) h = if small a then some (.int (a * b), h) else none := rfl
theorem oFdiv_i : oFdiv (.int a) (.int b) h = if b ≠ 0 ∧ small b = true then some (.int (a.fdiv b), h) else none := rfl
theorem oMod_i : oMod (.int a) (.int b) h = if b ≠ 0 then some (.int (a.fmod b), h) else none := rfl
theorem oPow_i : oPow (.int a) (.int b) h = if 0 ≤ b ∧ b ≤ 1000 ∧ a.natAbs ≤ 1000 then some (.int (a ^ b.toNat), h) else none := rfl
theorem oShr_i : oShr (.int a) (.int b) h = if 0 ≤ b then some (.int (a.fdiv (2 ^ b.toNat)), h) else none := rfl
theorem oAnd_i : oAnd (.int a) (.int b) h = some (.int (Builtin.bitAnd a b), h) := rfl
end
theorem intBits_small {a : Int} (h : a.natAbs < 1000000000) : Builtin.Int.intBits a ≤ 64 := by
 unfold Builtin.Int.intBits
 split
 ·exact (by decide)
 ·rename_i h0
  have h1 : a.natAbs ≠ 0 := by simpa using h0
  have : a.natAbs.log2 < 30 := (Nat.log2_lt h1).mpr (by exact zK h (by decide))
  lia
section
variable {A : Around} {G : List (Loc × AV)} {ρ : List Addr} {σ : AH} {s : Shared}
theorem VR.str_mk {t : List Nat} {x : Str} {tk : Tok} (h : x = ⟨t.toArray⟩) : VR ρ (.str t) (.str x tk) := ⟨tk, by rw [h]⟩
end
theorem str_append (a b : List Nat) : ((⟨a.toArray⟩ : Str) ++ (⟨b.toArray⟩ : Str)) = (⟨(a ++ b).toArray⟩ : Str) := by
 show Str.append _ _ = _
 simp [Str.append]
theorem str_length (a : List Nat) : (⟨a.toArray⟩ : Str).length = a.length := by show a.toArray.size = _; simp
theorem add_ok : OpOK W (binaryOp .Add) oAdd := by
 intro A G ρ σ s x y cx cy hh hu rx ry st v σ' ev Q E hQ
 refine op2_is (fun cx cy => wpAny (model W.prog W.w) A (binaryOp .Add cx cy) Q E s) ev rx ry (fun a b t u e => PyProof.Rows.add_int (hQ.t2 e ρ _ _ (Le.refl _) ⟨_, rfl⟩ (st.toks _))) fun a b t u e => ?_
 split at e
 ·rename_i hz
  replace hQ := hQ.t2 e
  exact wpAny_with_toks (n := 1) st.tk (PyProof.Rows.add_str (fun t' tk hk => hQ ρ _ _ (Le.refl _) (.str_mk (str_append _ _)) (st.toks _ hk)) (by rw [str_length, str_length, sizeLine_eq]; exact zG hz (by decide)))
 ·exact nn e
theorem iadd_ok : OpOK W (inplaceOp .Add) oAdd := by
 intro A G ρ σ s x y cx cy hh hu rx ry st v σ' ev Q E hQ
 refine op2_is (fun cx cy => wpAny (model W.prog W.w) A (inplaceOp .Add cx cy) Q E s) ev rx ry (fun a b t u e => PyProof.Rows.iadd_int (hQ.t2 e ρ _ _ (Le.refl _) ⟨_, rfl⟩ (st.toks _))) fun a b t u e => ?_
 split at e
 ·rename_i hz
  replace hQ := hQ.t2 e
  exact wpAny_with_toks (n := 1) st.tk (PyProof.Rows.iadd_str (fun t' tk hk => hQ ρ _ _ (Le.refl _) (.str_mk (str_append _ _)) (st.toks _ hk)) (by rw [str_length, str_length, sizeLine_eq]; exact zG hz (by decide)))
 ·exact nn e
theorem sub_ok : OpOK W (binaryOp .Sub) oSub := by
 intro A G ρ σ s x y cx cy hh hu rx ry st v σ' ev Q E hQ
 exact op2_i (fun cx cy => wpAny (model W.prog W.w) A (binaryOp .Sub cx cy) Q E s) ev rx ry fun a b t u e => PyProof.Rows.sub_int (hQ.t2 e ρ _ _ (Le.refl _) ⟨_, rfl⟩ (st.toks _))
theorem mul_ok : OpOK W (binaryOp .Mult) oMul := by
 intro A G ρ σ s x y cx cy hh hu rx ry st v σ' ev Q E hQ
 refine op2_i (fun cx cy => wpAny (model W.prog W.w) A (binaryOp .Mult cx cy) Q E s) ev rx ry fun a b t u e => ?_
 split at e
 ·rename_i hz
  replace hQ := hQ.t2 e
  exact PyProof.Rows.mul_int (hQ ρ _ _ (Le.refl _) ⟨_, rfl⟩ (st.toks _)) (.of_left (intBits_small (of_decide_eq_true hz)))
 ·exact nn e
theorem imul_ok : OpOK W (inplaceOp .Mult) oMul := by
 intro A G ρ σ s x y cx cy hh hu rx ry st v σ' ev Q E hQ
 refine op2_i (fun cx cy => wpAny (model W.prog W.w) A (inplaceOp .Mult cx cy) Q E s) ev rx ry fun a b t u e => ?_
 split at e
 ·rename_i hz
  replace hQ := hQ.t2 e
  exact PyProof.Rows.imul_int (hQ ρ _ _ (Le.refl _) ⟨_, rfl⟩ (st.toks _)) (.of_left (intBits_small (of_decide_eq_true hz)))
 ·exact nn e
theorem fdiv_ok : OpOK W (binaryOp .FloorDiv) oFdiv := by
 intro A G ρ σ s x y cx cy hh hu rx ry st v σ' ev Q E hQ
 refine op2_i (fun cx cy => wpAny (model W.prog W.w) A (binaryOp .FloorDiv cx cy) Q E s) ev rx ry fun a b t u e => ?_
 split at e
 ·rename_i hz
  replace hQ := hQ.t2 e
  exact PyProof.Rows.floordiv_int hz.1 (hQ ρ _ _ (Le.refl _) ⟨_, rfl⟩ (st.toks _)) (.inl (PyProof.noPylong_small (by have := of_decide_eq_true hz.2; exact o41 this)))
 ·exact nn e
theorem mod_ok : OpOK W (binaryOp .Mod) oMod := by
 intro A G ρ σ s x y cx cy hh hu rx ry st v σ' ev Q E hQ
 refine op2_i (fun cx cy => wpAny (model W.prog W.w) A (binaryOp .Mod cx cy) Q E s) ev rx ry fun a b t u e => ?_
 split at e
 ·rename_i hz
  replace hQ := hQ.t2 e
  exact PyProof.Rows.mod_int hz (hQ ρ _ _ (Le.refl _) ⟨_, rfl⟩ (st.toks _))
 ·exact nn e
theorem pow_ok : OpOK W (binaryOp .Pow) oPow := by
 intro A G ρ σ s x y cx cy hh hu rx ry st v σ' ev Q E hQ
 refine op2_i (fun cx cy => wpAny (model W.prog W.w) A (binaryOp .Pow cx cy) Q E s) ev rx ry fun a b t u e => ?_
 split at e
 ·rename_i hz
  replace hQ := hQ.t2 e
  refine PyProof.Rows.pow_int hz.1 ?_ (hQ ρ _ _ (Le.refl _) ⟨_, rfl⟩ (st.toks _))
  have h1 := intBits_small (a := a) (by omega)
  have h2 : (Builtin.Int.intBits a : Int) * b ≤ 64 * 1000 := by
   have h3 : (Builtin.Int.intBits a : Int) * b ≤ 64 * b := Int.mul_le_mul_of_nonneg_right (by exact o50 h1) hz.1
   omega
  omega
 ·exact nn e
theorem shr_ok : OpOK W (binaryOp .RShift) oShr := by
 intro A G ρ σ s x y cx cy hh hu rx ry st v σ' ev Q E hQ
 refine op2_i (fun cx cy => wpAny (model W.prog W.w) A (binaryOp .RShift cx cy) Q E s) ev rx ry fun a b t u e => ?_
 split at e
 ·rename_i hz
  replace hQ := hQ.t2 e
  exact PyProof.Rows.rshift_int hz (hQ ρ _ _ (Le.refl _) ⟨_, rfl⟩ (st.toks _))
 ·exact nn e
theorem and_ok : OpOK W (binaryOp .BitAnd) oAnd := by
 intro A G ρ σ s x y cx cy hh hu rx ry st v σ' ev Q E hQ
 exact op2_i (fun cx cy => wpAny (model W.prog W.w) A (binaryOp .BitAnd cx cy) Q E s) ev rx ry fun a b t u e => PyProof.Rows.and_int (hQ.t2 e ρ _ _ (Le.refl _) ⟨_, rfl⟩ (st.toks _))
noncomputable def mapO {α β : Type} (f : α → Option β) : List α → Option (List β)
 | [] => some []
 | x :: xs => (f x).bind fun d => (mapO f xs).map fun ds => d :: ds
noncomputable def aPy : Nat → AH → AV → Option PyData
 | _, _, .int i => some (.int i)
 | _, _, .str t => some (.str ⟨t.toArray⟩)
 | _, _, .bool b => some (.bool b)
 | n + 1, h, .ref m => match h[m]? with
  | some (.list xs) => (mapO (aPy n h) xs).map .list
  | some (.tup xs) => (mapO (aPy n h) xs).map .tuple
  | _ => none
 | _, _, _ => none
theorem aPy_str {n : Nat} {h : AH} {t : List Nat} : aPy n h (.str t) = some (.str ⟨t.toArray⟩) := by cases n <;> rfl
theorem aPy_ref {n m : Nat} {h : AH} : aPy (n + 1) h (.ref m) = match h[m]? with
 | some (.list xs) => (mapO (aPy n h) xs).map .list
 | some (.tup xs) => (mapO (aPy n h) xs).map .tuple
 | _ => none := rfl
theorem readsAll_of {ρ : List Addr} {h : Heap} {f : AV → Option PyData} (hf : ∀ x d c, f x = some d → VR ρ x c → ∃ as, Reads h c d as) : ∀ {xs : List AV} {vs : List Value} {ds : List PyData}, mapO f xs = some ds → VRs ρ xs vs → ∃ as, ReadsAll h vs ds as
 | [], vs, ds, e, r => by cases e; rw [r.nil_of]; exact ⟨_, .nil⟩
 | x :: xs, vs, ds, e, r => by
  refine xEEAA r.cons_of fun v us hrf r1 r2 => ?_; subst hrf
  refine bindQ e fun d e1 e2 => ?_
  refine mapQ e2 fun ds' e3 hrf => ?_; subst hrf
  obtain ⟨as, q⟩ := hf x d v e1 r1
  obtain ⟨bs, q'⟩ := readsAll_of hf e3 r2
  exact ⟨_, .cons q q'⟩
theorem reads_of {ρ : List Addr} {σ : AH} {G : List (Loc × AV)} {s : Shared} (st : St W ρ σ G s) : ∀ (n : Nat) (x : AV) (d : PyData) (c : Value), aPy n σ x = some d → VR ρ x c → ∃ as, Reads s.heap c d as := by
 have flat : ∀ (n : Nat) (x : AV) (d : PyData) (c : Value), (∀ m, x ≠ .ref m) → aPy n σ x = some d → VR ρ x c → ∃ as, Reads s.heap c d as := by
  intro n x d c hx e r
  cases x <;> cases n <;> first
   | exact nn e
   | (cases e; obtain ⟨t, rfl⟩ := r; exact ⟨_, .int _ _⟩)
   | (cases e; obtain ⟨t, rfl⟩ := r; exact ⟨_, .str _ _⟩)
   | (cases e; cases r; exact ⟨_, .bool _⟩)
   | exact absurd rfl (hx _)
 intro n
 induction n with
 | zero =>
  intro x d c e r
  cases x with
  | ref m => exact nn e
  | _ => exact flat 0 _ d c (fun m q => by cases q) e r
 | succ n ih =>
  intro x d c e r
  cases x with
  | ref m =>
   refine xEA r fun a ea hrf => ?_; subst hrf
   rw [aPy_ref] at e
   split at e
   ·rename_i xs hx
    refine mapQ e fun ds e1 hrf => ?_; subst hrf
    refine xEEAAEEA (st.at hx) fun a' o ea' ho vs n' hrf hv => ?_; subst hrf
    rw [ea] at ea'; replace ho := t1 ea' ▸ ho
    obtain ⟨as, q⟩ := readsAll_of ih e1 hv
    exact ⟨_, reads_list_at ho rfl rfl (by simpa [PySem.W.listOf] using q)⟩
   ·rename_i xs hx
    refine mapQ e fun ds e1 hrf => ?_; subst hrf
    refine xEEAAEEA (st.at hx) fun a' o ea' ho vs n' hrf hv => ?_; subst hrf
    rw [ea] at ea'; replace ho := t1 ea' ▸ ho
    obtain ⟨as, q⟩ := readsAll_of ih e1 hv
    exact ⟨_, reads_tuple_at ho rfl rfl (by simpa [tupOf] using q)⟩
   ·exact nn e
  | _ => exact flat (n + 1) _ d c (fun m q => by cases q) e r
noncomputable def aDeepEq (h : AH) (x y : AV) : Option Bool := (aPy 4 h x).bind fun d => (aPy 4 h y).bind fun e => if SeqAt.shaped d && SeqAt.shaped e then some (PyData.eqv d e) else none
noncomputable def cEq : AOpB := fun x y h => op2 (fun a b => some (a == b)) (fun a b => some (a == b)) (fun a b => some (a == b)) (fun a b => aDeepEq h (.ref a) (.ref b)) x y
noncomputable def cNe : AOpB := fun x y h => op2 (fun a b => some (a != b)) (fun a b => some (a != b)) (fun a b => some (a != b)) (fun a b => (aDeepEq h (.ref a) (.ref b)).map fun c => !c) x y
noncomputable def cLt : AOpB := fun x y _ => op2 (fun a b => some (decide (a < b))) (fun a b => some (decide (a < b))) no2 no2 x y
noncomputable def cLe : AOpB := fun x y _ => op2 (fun a b => some (decide (a ≤ b))) (fun a b => some (!decide (b < a))) no2 no2 x y
noncomputable def cGt : AOpB := fun x y _ => op2 (fun a b => some (decide (b < a))) (fun a b => some (decide (b < a))) no2 no2 x y
noncomputable def cGe : AOpB := fun x y _ => op2 (fun a b => some (decide (b ≤ a))) (fun a b => some (!decide (a < b))) no2 no2 x y
section
variable {a b : Int} {c d : List Nat} {p q : Bool} {m n : Nat} {h : AH}
theorem cEq_i : cEq (.int a) (.int b) h = some (a == b) := rfl
theorem cEq_s : cEq (.str c) (.str d) h = some (c == d) := rfl
theorem cEq_b : cEq (.bool p) (.bool q) h = some (p == q) := rfl
theorem cEq_r : cEq (.ref m) (.ref n) h = aDeepEq h (.ref m) (.ref n) := rfl
theorem cNe_i : cNe (.int a) (.int b) h = some (a != b) := rfl
theorem cNe_s : cNe (.str c) (.str d) h = some (c != d) := rfl
theorem cNe_b : cNe (.bool p) (.bool q) h = some (p != q) := rfl
theorem cNe_r : cNe (.ref m) (.ref n) h = (aDeepEq h (.ref m) (.ref n)).map fun c => !c := rfl
theorem cLt_i : cLt (.int a) (.int b) h = some (decide (a < b)) := rfl
theorem cLt_s : cLt (.str c) (.str d) h = some (decide (c < d)) := rfl
theorem cLe_i : cLe (.int a) (.int b) h = some (decide (a ≤ b)) := rfl
theorem cLe_s : cLe (.str c) (.str d) h = some (!decide (d < c)) := rfl
theorem cGt_i : cGt (.int a) (.int b) h = some (decide (b < a)) := rfl
theorem cGt_s : cGt (.str c) (.str d) h = some (decide (d < c)) := rfl
theorem cGe_i : cGe (.int a) (.int b) h = some (decide (b ≤ a)) := rfl
theorem cGe_s : cGe (.str c) (.str d) h = some (!decide (c < d)) := rfl
end
theorem str_beq' (a b : List Nat) : ((⟨a.toArray⟩ : Str) == (⟨b.toArray⟩ : Str)) = (a == b) := by
 rw [Bool.eq_iff_iff]; simp
theorem str_bne' (a b : List Nat) : ((⟨a.toArray⟩ : Str) != (⟨b.toArray⟩ : Str)) = (a != b) := by simp only [bne, str_beq']
theorem eq_ok : OpOK W (compareOp .Eq) (aB cEq) := by
 intro A G ρ σ s x y cx cy hh hu rx ry st v σ' ev Q E hQ
 refine mapQ ev fun c e1 e2 => ?_
 replace hQ := hQ.r2 e2
 refine op2_ok (fun cx cy => wpAny (model W.prog W.w) A (compareOp .Eq cx cy) Q E s) e1 rx ry (fun a b t u e => ?_) (fun a b t u e => ?_) (fun a b e => ?_) fun p q e rx ry => ?_
 ·replace hQ := t1 e ▸ hQ; exact PyProof.Rows.eq_int (hQ ρ _ _ (Le.refl _) rfl st)
 ·replace hQ := t1 e ▸ hQ; exact PyProof.Rows.eq_str (hQ ρ _ _ (Le.refl _) (by show _ = _; rw [str_beq']) st)
 ·replace hQ := t1 e ▸ hQ; exact PyProof.Rows.eq_bool (hQ ρ _ _ (Le.refl _) rfl st)
 ·refine bindQ e fun d e5 e2 => ?_
  refine bindQ e2 fun f e3 e4 => ?_
  split at e4
  ·rename_i hs
   replace hQ := t1 e4 ▸ hQ
   obtain ⟨as, r1⟩ := reads_of st _ _ _ _ e5 rx
   obtain ⟨bs, r2⟩ := reads_of st _ _ _ _ e3 ry
   obtain ⟨h1, h2⟩ := Bool.and_eq_true_iff.mp hs
   exact eq_dataH r1 r2 h1 h2 (by exact o40 hu) (hQ ρ _ _ (Le.refl _) rfl st)
  ·exact nn e4
theorem ne_ok : OpOK W (compareOp .NotEq) (aB cNe) := by
 intro A G ρ σ s x y cx cy hh hu rx ry st v σ' ev Q E hQ
 refine mapQ ev fun c e1 e2 => ?_
 replace hQ := hQ.r2 e2
 refine op2_ok (fun cx cy => wpAny (model W.prog W.w) A (compareOp .NotEq cx cy) Q E s) e1 rx ry (fun a b t u e => ?_) (fun a b t u e => ?_) (fun a b e => ?_) fun p q e rx ry => ?_
 ·replace hQ := t1 e ▸ hQ; exact PyProof.Rows.ne_int (hQ ρ _ _ (Le.refl _) rfl st)
 ·replace hQ := t1 e ▸ hQ; exact PyProof.Rows.ne_str (hQ ρ _ _ (Le.refl _) (by show _ = _; rw [str_bne']) st)
 ·replace hQ := t1 e ▸ hQ; exact PyProof.Rows.ne_bool (hQ ρ _ _ (Le.refl _) rfl st)
 ·refine mapQ e fun c' e0 hrf => ?_; subst hrf
  refine bindQ e0 fun d e5 e2 => ?_
  refine bindQ e2 fun f e3 e4 => ?_
  split at e4
  ·rename_i hs
   replace hQ := t1 e4 ▸ hQ
   obtain ⟨as, r1⟩ := reads_of st _ _ _ _ e5 rx
   obtain ⟨bs, r2⟩ := reads_of st _ _ _ _ e3 ry
   obtain ⟨h1, h2⟩ := Bool.and_eq_true_iff.mp hs
   exact ne_dataH r1 r2 h1 h2 (by exact o40 hu) (hQ ρ _ _ (Le.refl _) rfl st)
  ·exact nn e4
theorem lt_ok : OpOK W (compareOp .Lt) (aB cLt) := by
 intro A G ρ σ s x y cx cy hh hu rx ry st v σ' ev Q E hQ
 refine mapQ ev fun c e1 e2 => ?_
 replace hQ := hQ.r2 e2
 refine op2_is (fun cx cy => wpAny (model W.prog W.w) A (compareOp .Lt cx cy) Q E s) e1 rx ry (fun a b t u e => ?_) fun a b t u e => ?_
 ·replace hQ := t1 e ▸ hQ; exact PyProof.Rows.lt_int (hQ ρ _ _ (Le.refl _) rfl st)
 ·replace hQ := t1 e ▸ hQ; exact PyProof.Rows.lt_str (hQ ρ _ _ (Le.refl _) rfl st)
theorem le_ok : OpOK W (compareOp .LtE) (aB cLe) := by
 intro A G ρ σ s x y cx cy hh hu rx ry st v σ' ev Q E hQ
 refine mapQ ev fun c e1 e2 => ?_
 replace hQ := hQ.r2 e2
 refine op2_is (fun cx cy => wpAny (model W.prog W.w) A (compareOp .LtE cx cy) Q E s) e1 rx ry (fun a b t u e => ?_) fun a b t u e => ?_
 ·replace hQ := t1 e ▸ hQ; exact PyProof.Rows.le_int (hQ ρ _ _ (Le.refl _) rfl st)
 ·replace hQ := t1 e ▸ hQ; exact P.le_str (hQ ρ _ _ (Le.refl _) rfl st)
theorem gt_ok : OpOK W (compareOp .Gt) (aB cGt) := by
 intro A G ρ σ s x y cx cy hh hu rx ry st v σ' ev Q E hQ
 refine mapQ ev fun c e1 e2 => ?_
 replace hQ := hQ.r2 e2
 refine op2_is (fun cx cy => wpAny (model W.prog W.w) A (compareOp .Gt cx cy) Q E s) e1 rx ry (fun a b t u e => ?_) fun a b t u e => ?_
 ·replace hQ := t1 e ▸ hQ; exact PyProof.Rows.gt_int (hQ ρ _ _ (Le.refl _) rfl st)
 ·replace hQ := t1 e ▸ hQ; exact P.gt_str (hQ ρ _ _ (Le.refl _) rfl st)
theorem ge_ok : OpOK W (compareOp .GtE) (aB cGe) := by
 intro A G ρ σ s x y cx cy hh hu rx ry st v σ' ev Q E hQ
 refine mapQ ev fun c e1 e2 => ?_
 replace hQ := hQ.r2 e2
 refine op2_is (fun cx cy => wpAny (model W.prog W.w) A (compareOp .GtE cx cy) Q E s) e1 rx ry (fun a b t u e => ?_) fun a b t u e => ?_
 ·replace hQ := t1 e ▸ hQ; exact PyProof.Rows.ge_int (hQ ρ _ _ (Le.refl _) rfl st)
 ·replace hQ := t1 e ▸ hQ; exact P.ge_str (hQ ρ _ _ (Le.refl _) rfl st)
noncomputable def allStr : List AV → Option (List (List Nat))
 | [] => some []
 | .str t :: xs => (allStr xs).map fun r => t :: r
 | _ :: _ => none
noncomputable def inRef (t : List Nat) (n : Nat) (h : AH) : Option Bool := match h[n]? with
 | some (.list xs) => (allStr xs).map fun ys => ys.any (· == t)
 | some (.tup xs) => (allStr xs).map fun ys => ys.any (· == t)
 | _ => none
noncomputable def cIn : AOpB := fun x y h => match x with
 | .str s => match y with
  | .str t => match s with
   | [c] => some (decide (c ∈ t))
   | _ => none
  | .ref n => inRef s n h
  | _ => none
 | _ => none
noncomputable def cNotIn : AOpB := fun x y h => (cIn x y h).map fun b => !b
noncomputable def strV : Value → List Nat
 | .str x _ => x.cps.toList
 | _ => []
theorem allStr_vals {ρ : List Addr} : ∀ {xs : List AV} {vs : List Value} {ys : List (List Nat)}, allStr xs = some ys → VRs ρ xs vs → (∀ v ∈ vs, ∃ x t, v = .str x t) ∧ vs.map strV = ys
 | [], vs, ys, e, r => by cases e; rw [r.nil_of]; exact ⟨fun _ h => (nomatch h), rfl⟩
 | x :: xs, vs, ys, e, r => by
  refine xEEAA r.cons_of fun v us hrf r1 r2 => ?_; subst hrf
  cases x <;> simp only [allStr] at e <;> try exact nn e
  refine mapQ e fun zs e1 hrf => ?_; subst hrf
  obtain ⟨t, rfl⟩ := r1
  obtain ⟨q1, q2⟩ := allStr_vals e1 r2
  refine ⟨fun v hv => ?_, by simp [strV, q2]⟩
  rcases zN hv with rfl | hv
  ·exact ⟨_, _, rfl⟩
  ·exact q1 v hv
theorem in_ok : OpOK W (compareOp .In) (aB cIn) := by
 intro A G ρ σ s x y cx cy hh hu rx ry st v σ' ev Q E hQ
 refine mapQ ev fun c e1 e2 => ?_
 replace hQ := hQ.r2 e2
 cases x with
 | str t => ?_
 | _ => exact nn e1
 cases y with
 | str u => ?_
 | ref n => ?_
 | _ => exact nn e1
 ·rcases t with _ | ⟨c0, _ | ⟨c1, t⟩⟩
  ·exact nn e1
  rotate_left
  ·exact nn e1
  obtain ⟨t, rfl⟩ := rx; obtain ⟨u, rfl⟩ := ry; replace hQ := t1 e1 ▸ hQ
  refine PyProof.Rows.in_str (hQ ρ _ _ (Le.refl _) ?_ st)
  show _ = _
  rw [show (⟨[_].toArray⟩ : Str) = ⟨#[_]⟩ from rfl, StrLaws.found_one]
 ·obtain ⟨tk, rfl⟩ := rx
  refine xEA ry fun a ea hrf => ?_; subst hrf
  replace e1 : inRef t n σ = _ := e1
  unfold inRef at e1
  split at e1
  ·rename_i xs hx
   refine mapQ e1 fun ys e3 hrf => ?_; subst hrf
   refine xEEAAEEA (st.at hx) fun a' o ea' ho vs n' hrf hv => ?_; subst hrf
   rw [ea] at ea'; replace ho := t1 ea' ▸ ho
   obtain ⟨q1, q2⟩ := allStr_vals e3 hv
   refine SeqAt.in_listAt (items := vs.toArray) (fun v => strV v == t) ⟨_, ho, rfl, n', rfl⟩ (fun v hv => ?_) (hQ ρ _ _ (Le.refl _) ?_ st)
   ·obtain ⟨x, u, rfl⟩ := q1 v (by simpa using hv)
    have := (SeqRoads2.EqGives.str x ⟨t.toArray⟩ u tk).at A.in1 s
    simpa [strV] using this
   ·show _ = _
    rw [← q2]
    simp [List.any_map, Function.comp_def]
  ·rename_i xs hx
   refine mapQ e1 fun ys e3 hrf => ?_; subst hrf
   refine xEEAAEEA (st.at hx) fun a' o ea' ho vs n' hrf hv => ?_; subst hrf
   rw [ea] at ea'; replace ho := t1 ea' ▸ ho
   obtain ⟨q1, q2⟩ := allStr_vals e3 hv
   refine SeqAt.in_tupleAt (items := vs.toArray) (fun v => strV v == t) ⟨_, ho, rfl, n', rfl⟩ (fun v hv => ?_) (hQ ρ _ _ (Le.refl _) ?_ st)
   ·obtain ⟨x, u, rfl⟩ := q1 v (by simpa using hv)
    have := (SeqRoads2.EqGives.str x ⟨t.toArray⟩ u tk).at A.in1 s
    simpa [strV] using this
   ·show _ = _
    rw [← q2]
    simp [List.any_map, Function.comp_def]
  ·exact nn e1
end LC
noncomputable section LD
open PySem PySem.W PySem.Calls PyProof.Rows
variable {W : Wd} {R : Rs} {k : Nat}
theorem EvOK.dead {e : Expr} : EvOK W R k e (fun _ _ => none) := by
 intro A fs env locs l G ρ σ s cx eo hl st v σ' ev
 cases ev
theorem BtOK.dead {e : Expr} : BtOK W R k e (fun _ _ => none) := by
 intro A fs env locs l G ρ σ s cx eo hl st v σ' ev
 cases ev
theorem notIn_ok : OpOK W (compareOp .NotIn) (aB cNotIn) := by
 intro A G ρ σ s x y cx cy hh hu rx ry st v σ' ev Q E hQ
 refine mapQ ev fun c e0 e2 => ?_
 replace hQ := hQ.r2 e2
 refine mapQ e0 fun c' e1 hrf => ?_; subst hrf
 cases x with
 | str t => ?_
 | _ => exact nn e1
 cases y with
 | str u => ?_
 | ref n => ?_
 | _ => exact nn e1
 ·rcases t with _ | ⟨c0, _ | ⟨c1, t⟩⟩
  ·exact nn e1
  rotate_left
  ·exact nn e1
  obtain ⟨t, rfl⟩ := rx; obtain ⟨u, rfl⟩ := ry; replace hQ := t1 e1 ▸ hQ
  refine PyProof.Rows.notIn_str (hQ ρ _ _ (Le.refl _) ?_ st)
  show _ = _
  rw [show (⟨[_].toArray⟩ : Str) = ⟨#[_]⟩ from rfl, StrLaws.found_one]
 ·obtain ⟨tk, rfl⟩ := rx
  refine xEA ry fun a ea hrf => ?_; subst hrf
  replace e1 : inRef t n σ = _ := e1
  unfold inRef at e1
  split at e1
  ·rename_i xs hx
   refine mapQ e1 fun ys e3 hrf => ?_; subst hrf
   refine xEEAAEEA (st.at hx) fun a' o ea' ho vs n' hrf hv => ?_; subst hrf
   rw [ea] at ea'; replace ho := t1 ea' ▸ ho
   obtain ⟨q1, q2⟩ := allStr_vals e3 hv
   refine SeqAt.notIn_listAt (items := vs.toArray) (fun v => strV v == t) ⟨_, ho, rfl, n', rfl⟩ (fun v hv => ?_) (hQ ρ _ _ (Le.refl _) ?_ st)
   ·obtain ⟨x, u, rfl⟩ := q1 v (by simpa using hv)
    have := (SeqRoads2.EqGives.str x ⟨t.toArray⟩ u tk).at A.in1 s
    simpa [strV] using this
   ·show _ = _
    rw [← q2]
    simp [List.any_map, Function.comp_def]
  ·rename_i xs hx
   refine mapQ e1 fun ys e3 hrf => ?_; subst hrf
   refine xEEAAEEA (st.at hx) fun a' o ea' ho vs n' hrf hv => ?_; subst hrf
   rw [ea] at ea'; replace ho := t1 ea' ▸ ho
   obtain ⟨q1, q2⟩ := allStr_vals e3 hv
   refine SeqAt.notIn_tupleAt (items := vs.toArray) (fun v => strV v == t) ⟨_, ho, rfl, n', rfl⟩ (fun v hv => ?_) (hQ ρ _ _ (Le.refl _) ?_ st)
   ·obtain ⟨x, u, rfl⟩ := q1 v (by simpa using hv)
    have := (SeqRoads2.EqGives.str x ⟨t.toArray⟩ u tk).at A.in1 s
    simpa [strV] using this
   ·show _ = _
    rw [← q2]
    simp [List.any_map, Function.comp_def]
  ·exact nn e1
noncomputable def cIsNot : AOpB
 | .str _, .ref _, _ => some true
 | _, _, _ => none
theorem isNot_ok : OpOK W (compareOp .IsNot) (aB cIsNot) := by
 intro A G ρ σ s x y cx cy hh hu rx ry st v σ' ev Q E hQ
 refine mapQ ev fun c e1 e2 => ?_
 replace hQ := hQ.r2 e2
 unfold cIsNot at e1
 split at e1
 ·obtain ⟨t, rfl⟩ := rx; refine xEA ry fun a _ hrf => ?_; subst hrf; replace hQ := t1 e1 ▸ hQ
  exact wpAny_isNot_other rfl (by intro q; cases q) (hQ ρ _ _ (Le.refl _) rfl st)
 ·exact nn e1
noncomputable def pNeg (f : PE) : PE := fun l h => (f l h).bind fun p => match p.1 with | .int i => some (.int (-i), p.2) | _ => none
theorem EvOK.neg {e : Expr} {pos : Pos} {f : PE} (h : EvOK W R k e f) : EvOK W R k (.UnaryOp .USub e pos) (pNeg f) := by
 intro A fs env locs l G ρ σ s cx eo hl st v σ' ev Q E hQ
 refine bindP ev fun x σ₁ e1 e2 => ?_
 cases x <;> try exact nn e2
 cases e2
 refine wpAny_UnaryOp (h A fs env locs l G ρ σ s cx eo hl st _ _ e1 _ E fun ρ₁ s₁ c₁ le₁ r₁ st₁ => ?_)
 obtain ⟨t, rfl⟩ := r₁
 exact PyProof.Rows.neg_int (hQ ρ₁ _ _ le₁ ⟨_, rfl⟩ (st₁.toks _))
noncomputable def aItem : AOp2
 | .str t, .int i, h => if small i then (seqIndex? i t.length).bind fun j => (t[j]?).map fun c => (.str [c], h) else none
 | .ref n, .int i, h => if small i then match h[n]? with
  | some (.list xs) => (seqIndex? i xs.length).bind fun j => (xs[j]?).bind fun c => match c with | .undef => none | c => some (c, h)
  | _ => none else none
 | _, _, _ => none
theorem tail_builtin {A : Around} {E : Value → Shared → Prop} {s : Shared} {value slice : Expr} {o i : Value} {T id : String} {Q : Value → Shared → Prop} (hT : s.TypeIs o T)
  (hl : typeLookup (.type T) "__getitem__" = pure (some (.builtin id))) (h : wpAny (model W.prog W.w) A (getItem o i) Q E s)
  (hs : ∃ l, subscripted slice false o i = operate l (getItem o i)) :
  wpAny (model W.prog W.w) A (subscriptTail value slice o i) Q E s := by
 unfold subscriptTail
 refine wpAny_bind ?_
 rw [getitemInPython_of_ne hT.not_modules]
 refine wpAny_bind (wpAny_specialOf hT hl ?_)
 have fin : wpAny (model W.prog W.w) A (subscripted slice false o i) (fun r s₃ => wpAny (model W.prog W.w) A (letTemporaryGo value o r >>= fun _ => pure r) Q E s₃) E s := by
  obtain ⟨l, hs⟩ := hs
  rw [hs]
  exact wpAny_operating (wpAny_mono h (fun r s₃ h₃ => wpAny_bind (wpAny_letTemporaryGo (wpAny_pure h₃))) fun _ _ x => x)
 first
  | exact wpAny_pure (wpAny_bind fin)
  | exact wpAny_bind (wpAny_pure (wpAny_bind fin))
  | exact wpAny_bind fin
theorem subscripted_plain (slice : Expr) (o i : Value) : ∃ l, subscripted slice false o i = operate l (getItem o i) := by
 cases slice with
 | Slice _ _ c _ => cases c <;> exact ⟨_, rfl⟩
 | _ => exact ⟨_, rfl⟩
theorem small_lt {i : Int} (h : small i = true) : i.natAbs < 1000000000 := of_decide_eq_true h
theorem seqIndex_of {i : Int} {n j : Nat} (h : seqIndex? i n = some j) : (0 ≤ i ∧ j = i.toNat ∧ j < n) ∨ (i < 0 ∧ -(n : Int) ≤ i ∧ j = (i + n).toNat ∧ j < n) := by
 unfold seqIndex? at h
 simp only at h
 split at h <;> split at h
 ·rename_i h1 h2
  simp only [Bool.and_eq_true, decide_eq_true_eq] at h2
  obtain rfl := Option.some.inj h
  exact .inr ⟨h1, by lia, rfl, by omega⟩
 ·exact nn h
 ·rename_i h1 h2
  simp only [Bool.and_eq_true, decide_eq_true_eq] at h2
  obtain rfl := Option.some.inj h
  exact .inl ⟨by lia, rfl, by omega⟩
 ·exact nn h
theorem item_ok {value slice : Expr} : OpOK W (subscriptTail value slice) aItem := by
 intro A G ρ σ s x y cx cy hh hu rx ry st v σ' ev Q E hQ
 unfold aItem at ev
 split at ev <;> try exact nn ev
 ·rename_i t i
  obtain ⟨tk, rfl⟩ := rx
  obtain ⟨u, rfl⟩ := ry
  split at ev
  ·rename_i hz
   have := small_lt hz
   refine bindQ ev fun j e1 e2 => ?_
   refine mapQ e2 fun c e3 e4 => ?_
   replace hQ := hQ.r2 e4
   refine tail_builtin (typeIs_str s _ _) slot_str_getitem.lookup (PyProof.Rows.getItem_str (c := c) ?_ ?_ ?_) (subscripted_plain ..)
   ·simp; omega
   ·rw [str_length, e1]; simpa using e3
   ·exact hQ ρ _ _ (Le.refl _) ⟨_, rfl⟩ (st.toks _)
  ·exact nn ev
 ·rename_i n i
  refine xEA rx fun a ea hrf => ?_; subst hrf
  obtain ⟨u, rfl⟩ := ry
  split at ev
  ·rename_i hz
   have := small_lt hz
   split at ev
   ·rename_i xs hx
    refine bindQ ev fun j e1 e2 => ?_
    refine bindQ e2 fun c e3 e4 => ?_
    have e5 : c = v ∧ σ = σ' := by
     cases c <;> first | (cases e4; done) | (injection e4 with e4; injection e4 with p q; exact ⟨p, q⟩)
    obtain ⟨rfl, rfl⟩ := e5
    refine xEEAAEEA (st.at hx) fun a' o ea' ho vs n' hrf hv => ?_; subst hrf
    rw [ea] at ea'; replace ho := t1 ea' ▸ ho
    refine xEA (hv.get e3) fun c' ec rc => ?_
    have hl : s.heap.IsList a vs.toArray := ⟨_, ho, rfl, n', rfl⟩
    refine tail_builtin hl.typeIs slot_list_getitem.lookup ?_ (subscripted_plain ..)
    have hlen := hv.length
    rcases seqIndex_of e1 with ⟨h0, rfl, hj⟩ | ⟨h0, h1, rfl, hj⟩
    ·exact wpAny_getItem_list hl h0 (by lia) (by simpa using ec) (hQ ρ _ _ (Le.refl _) rc st)
    ·exact wpAny_getItem_list_neg hl h0 (by simp; lia) (by omega) (by simp only [List.size_toArray, hlen]; simpa using ec) (hQ ρ _ _ (Le.refl _) rc st)
   ·exact nn ev
  ·exact nn ev
theorem getItem_ok : OpOK W getItem aItem := by
 intro A G ρ σ s x y cx cy hh hu rx ry st v σ' ev Q E hQ
 unfold aItem at ev
 split at ev <;> try exact nn ev
 ·rename_i t i
  obtain ⟨tk, rfl⟩ := rx
  obtain ⟨u, rfl⟩ := ry
  split at ev
  ·rename_i hz
   have := small_lt hz
   refine bindQ ev fun j e1 e2 => ?_
   refine mapQ e2 fun c e3 e4 => ?_
   replace hQ := hQ.r2 e4
   refine PyProof.Rows.getItem_str (c := c) ?_ ?_ ?_
   ·simp; omega
   ·rw [str_length, e1]; simpa using e3
   ·exact hQ ρ _ _ (Le.refl _) ⟨_, rfl⟩ (st.toks _)
  ·exact nn ev
 ·rename_i n i
  refine xEA rx fun a ea hrf => ?_; subst hrf
  obtain ⟨u, rfl⟩ := ry
  split at ev
  ·rename_i hz
   have := small_lt hz
   split at ev
   ·rename_i xs hx
    refine bindQ ev fun j e1 e2 => ?_
    refine bindQ e2 fun c e3 e4 => ?_
    have e5 : c = v ∧ σ = σ' := by
     cases c <;> first | (cases e4; done) | (injection e4 with e4; injection e4 with p q; exact ⟨p, q⟩)
    obtain ⟨rfl, rfl⟩ := e5
    refine xEEAAEEA (st.at hx) fun a' o ea' ho vs n' hrf hv => ?_; subst hrf
    rw [ea] at ea'; replace ho := t1 ea' ▸ ho
    refine xEA (hv.get e3) fun c' ec rc => ?_
    have hl : s.heap.IsList a vs.toArray := ⟨_, ho, rfl, n', rfl⟩
    have hlen := hv.length
    rcases seqIndex_of e1 with ⟨h0, rfl, hj⟩ | ⟨h0, h1, rfl, hj⟩
    ·exact wpAny_getItem_list hl h0 (by lia) (by simpa using ec) (hQ ρ _ _ (Le.refl _) rc st)
    ·exact wpAny_getItem_list_neg hl h0 (by simp; lia) (by omega) (by simp only [List.size_toArray, hlen]; simpa using ec) (hQ ρ _ _ (Le.refl _) rc st)
   ·exact nn ev
  ·exact nn ev
theorem EvOK.item {value slice : Expr} {pos : Pos} {f g : PE} (ha : EvOK W R k value f) (hb : EvOK W R k slice g) : EvOK W R k (.Subscript value slice pos) (pBin aItem f g) := by
 intro A fs env locs l G ρ σ s cx eo hl st v σ' ev Q E hQ
 unfold pBin at ev
 refine bindP ev fun x σ₁ e1 ev => ?_
 refine bindP ev fun y σ₂ e2 e3 => ?_
 refine Subscript_ (ha A fs env locs l G ρ σ s cx eo hl st x σ₁ e1 _ E fun ρ₁ s₁ c₁ le₁ r₁ st₁ => ?_)
 refine hb A fs env locs l G ρ₁ σ₁ s₁ cx eo hl st₁ y σ₂ e2 _ E fun ρ₂ s₂ c₂ le₂ r₂ st₂ => ?_
 have := cx.units
 exact item_ok A _ ρ₂ σ₂ s₂ x y c₁ c₂ cx.handled (by exact o0 this) (r₁.mono le₂) r₂ st₂ v σ' e3 Q E fun ρ₃ s₃ c₃ le₃ => hQ ρ₃ s₃ c₃ (le₁.trans (le₂.trans le₃))
noncomputable def clipN (i : Int) (n : Nat) : Nat := (max 0 (min (if i < 0 then i + n else i) (n : Int))).toNat
noncomputable def aSl {α : Type} (xs : List α) (lo hi : Option Int) : List α := (xs.take (hi.elim xs.length (clipN · xs.length))).drop (lo.elim 0 (clipN · xs.length))
noncomputable def pPart : Option PE → List AV → AH → Option (Option Int × AH)
 | none, _, h => some (none, h)
 | some f, l, h => (f l h).bind fun p => match p.1 with | .int i => some (some i, p.2) | _ => none
noncomputable def aSlice (lo hi : Option Int) : AV → AH → Option (AV × AH)
 | .str t, h => if t.length ≤ 1000000 then some (.str (aSl t lo hi), h) else none
 | .ref n, h => match h[n]? with
  | some (.list xs) => if xs.length ≤ 1000000 then some (.ref h.length, h ++ [.list (aSl xs lo hi)]) else none
  | _ => none
 | _, _ => none
noncomputable def pSlice (f : PE) (lo hi : Option PE) : PE := fun l h => (f l h).bind fun p => (pPart lo l p.2).bind fun q => (pPart hi l q.2).bind fun r => aSlice q.1 r.1 p.1 r.2
theorem clip_toNat (i : Int) (n : Nat) : max 0 (min (if i < 0 then i + (n : Int) else i) (n : Int)) = (clipN i n : Int) := (Int.toNat_of_nonneg (Int.le_max_left _ _)).symm
theorem clip_min (k n : Nat) : clipN (k : Int) n = min k n := by
 unfold clipN
 rw [if_neg (Int.not_lt.mpr (Int.natCast_nonneg k)), Int.max_eq_right (Int.le_min.mpr ⟨Int.natCast_nonneg _, Int.natCast_nonneg _⟩)]
 rcases Nat.le_total k n with h | h
 ·rw [Int.min_eq_left (Int.ofNat_le.mpr h), Nat.min_eq_left h]; rfl
 ·rw [Int.min_eq_right (Int.ofNat_le.mpr h), Nat.min_eq_right h]; rfl
theorem clip_of {k n : Nat} (h : k ≤ n) : clipN (k : Int) n = k := (clip_min k n).trans (Nat.min_eq_left h)
theorem sliceBounds_clip (lo hi : Option Int) (n : Nat) : sliceBounds lo hi none n = (((lo.elim 0 (clipN · n) : Nat) : Int), ((hi.elim n (clipN · n) : Nat) : Int), (1 : Int)) := by
 cases lo <;> cases hi <;> simp only [sliceBounds, Option.getD_none, show (1 : Int) > 0 by decide, if_true, Option.elim, clip_toNat] <;> rfl
theorem strIdx_clip (lo hi : Option Int) (n : Nat) : Builtin.Str.strSliceIndices lo hi 1 n = sliceRange (lo.elim 0 (clipN · n) : Nat) (hi.elim n (clipN · n) : Nat) 1 := by
 cases lo <;> cases hi <;> simp only [Builtin.Str.strSliceIndices, show (1 : Int) > 0 by decide, if_true, Option.elim, clip_toNat] <;> rfl
theorem clipN_le (i : Int) (n : Nat) : clipN i n ≤ n := Int.toNat_le.mpr (Int.max_le.mpr ⟨Int.natCast_nonneg _, Int.min_le_right _ _⟩)
theorem take_drop_swap {α : Type} (xs : List α) (a b : Nat) : (xs.drop a).take (b - a) = (xs.take b).drop a := by rw [List.drop_take]
theorem pick_sl {α : Type} (xs : List α) (lo hi : Option Int) :
  (sliceRange (lo.elim 0 (clipN · xs.length) : Nat) (hi.elim xs.length (clipN · xs.length) : Nat) 1).filterMap (xs.toArray[·]?) = aSl xs lo hi := by
 rw [sliceRange_one, pick_run]
 simp only [aSl]
 exact take_drop_swap ..
theorem slicePick_sl (vs : List Value) (lo hi : Option Int) : slicePick vs.toArray lo hi none = (aSl vs lo hi).toArray := by
 unfold slicePick
 rw [sliceBounds_clip]
 simp only [List.size_toArray]
 rw [pick_sl]
theorem aSl_whole {α : Type} (xs : List α) (lo hi : Option Int) (h : (Builtin.Str.strSliceIndices lo hi 1 xs.length).length = xs.length) : aSl xs lo hi = xs := by
 have h1 := pick_sl xs lo hi
 rw [strIdx_clip, sliceRange_one] at h
 rw [sliceRange_one, pick_run] at h1
 simp at h
 rw [← h1]
 have ha : lo.elim 0 (clipN · xs.length) ≤ xs.length := by cases lo <;> simp [clipN_le]
 have hb : hi.elim xs.length (clipN · xs.length) ≤ xs.length := by cases hi <;> simp [clipN_le]
 by_cases hx : xs.length = 0
 ·have : xs = [] := List.length_eq_zero_iff.mp hx
  subst this; simp
 ·have e0 : lo.elim 0 (clipN · xs.length) = 0 := by lia
  have e1 : hi.elim xs.length (clipN · xs.length) = xs.length := by lia
  rw [e0, e1]
  simp
theorem sliceMade_sl (t : List Nat) (tk : Tok) (l u : Option (Int × Tok)) : (∃ tk', sliceMade ⟨t.toArray⟩ tk l u none = .val (.str ⟨(aSl t (l.map (·.1)) (u.map (·.1))).toArray⟩ tk')) ∨ sliceMade ⟨t.toArray⟩ tk l u none = .str ⟨(aSl t (l.map (·.1)) (u.map (·.1))).toArray⟩ := by
 unfold sliceMade slicePicked
 simp only [Option.map_none, Option.getD_none, str_length]
 split
 ·rename_i h
  simp only [Bool.and_eq_true, beq_iff_eq, true_and] at h
  rw [aSl_whole _ _ _ h]
  exact .inl ⟨_, rfl⟩
 ·right
  rw [strIdx_clip, pick_sl]
theorem aSl_length {α : Type} (xs : List α) (lo hi : Option Int) : (aSl xs lo hi).length ≤ xs.length := by
 unfold aSl; simp only [List.length_drop, List.length_take]; exact o16
theorem VRs.sl {ρ : List Addr} {xs : List AV} {vs : List Value} (h : VRs ρ xs vs) (lo hi : Option Int) : VRs ρ (aSl xs lo hi) (aSl vs lo hi) := by
 unfold aSl; rw [h.length]; exact (h.take _).drop _
theorem part_ok {A : Around} {fs : List Env} {env : Env} {locs : List Loc} {l : List AV} {G : List (Loc × AV)} (cx : CxA A k fs (locs ++ G.map (·.1))) (eo : EnvOK R env locs) (hl : l.length = locs.length)
  {x : Option Expr} {f : Option PE} (h : match x, f with | none, none => True | some e, some f => EvOK W R k e f | _, _ => False)
  {ρ : List Addr} {σ : AH} {s : Shared} (st : St W ρ σ (locs.zip l ++ G) s) : Comp W (fun _ (i : Option Int) v => ∃ t : Option (Int × Tok), v = partValue t ∧ t.map (·.1) = i) A (evalPart x env) ρ (locs.zip l ++ G) s (pPart f l σ) := by
 intro v σ' ev Q E hQ
 cases x <;> cases f <;> simp only at h
 ·cases ev
  rw [evalPart_none]
  exact wpAny_pure (hQ ρ s _ (Le.refl _) ⟨none, rfl, rfl⟩ st)
 ·refine bindP ev fun y σ₁ e1 e2 => ?_
  cases y <;> try exact nn e2
  cases e2
  rw [evalPart_some]
  refine h A fs env locs l G ρ σ s cx eo hl st _ _ e1 _ E fun ρ₁ s₁ c₁ le₁ r₁ st₁ => ?_
  obtain ⟨t, rfl⟩ := r₁
  exact hQ ρ₁ s₁ _ le₁ ⟨some (_, t), rfl, rfl⟩ st₁
theorem part_isPart (t : Option (Int × Tok)) : IsPart (partValue t) (t.map (·.1)) := by
 cases t with
 | none => exact .none
 | some p => exact .int _ _
theorem EvOK.slice {value : Expr} {lo hi : Option Expr} {p pos : Pos} {f : PE} {fl fu : Option PE} (ha : EvOK W R k value f)
  (h1 : match lo, fl with | none, none => True | some e, some f => EvOK W R k e f | _, _ => False) (h2 : match hi, fu with | none, none => True | some e, some f => EvOK W R k e f | _, _ => False) :
  EvOK W R k (.Subscript value (.Slice lo hi none p) pos) (pSlice f fl fu) := by
 intro A fs env locs l G ρ σ s cx eo hl st v σ' ev Q E hQ
 refine bindP ev fun x σ₁ e1 ev => ?_
 refine bindP ev fun y σ₂ e2 ev => ?_
 refine bindP ev fun z σ₃ e3 e4 => ?_
 refine Subscript_ (ha A fs env locs l G ρ σ s cx eo hl st x σ₁ e1 _ E fun ρ₁ s₁ c₁ le₁ r₁ st₁ => ?_)
 refine wpAny_Slice (part_ok cx eo hl h1 st₁ y σ₂ e2 _ E fun ρ₂ s₂ c₂ le₂ r₂ st₂ => ?_)
 refine part_ok cx eo hl h2 st₂ z σ₃ e3 _ E fun ρ₃ s₃ c₃ le₃ r₃ st₃ => ?_
 rw [evalPart_none]
 refine wpAny_pure ?_
 refine xEA r₂ fun t2 hrf1 hrf2 => ?_; subst hrf1; subst hrf2
 refine xEA r₃ fun t3 hrf1 hrf2 => ?_; subst hrf1; subst hrf2
 have r₁' := (r₁.mono le₂).mono le₃
 have le := le₁.trans (le₂.trans le₃)
 have st₄ := st₃.push { cls := .type "slice", data := .fields #[partValue t2, partValue t3, .none] } s₃.toks
 cases x <;> simp only [aSlice] at e4 <;> try exact nn e4
 ·obtain ⟨tk, rfl⟩ := r₁'
  split at e4
  ·rename_i hz
   cases e4
   refine tail_builtin (typeIs_str _ _ _) F.slot_str_getitem.lookup (wpAny_getItem_str_slice (l := t2) (u := t3) (st := none) ⟨_, Heap.get?_push_size _ rfl, rfl, rfl⟩ rfl ?_) (subscripted_plain ..)
   rcases sliceMade_sl _ tk t2 t3 with ⟨tk', e⟩ | e <;> rw [e]
   ·exact hQ ρ₃ _ _ le ⟨_, rfl⟩ st₄
   ·refine ⟨?_, hQ ρ₃ _ _ le ⟨_, rfl⟩ (st₄.toks _)⟩
    rw [str_length, sizeLine_eq]
    exact zG (aSl_length ..) (by exact zG hz (by decide))
  ·exact nn e4
 ·refine xEA r₁' fun a ea hrf => ?_; subst hrf
  split at e4
  ·rename_i xs hx
   split at e4
   ·rename_i hz
    replace hQ := hQ.t2 e4
    refine xEEAAEEA (st₄.at hx) fun a' o ea' ho vs n' hrf hv => ?_; subst hrf
    rw [ea] at ea'; replace ho := t1 ea' ▸ ho
    have hlen := hv.length
    have hl' : Heap.IsList (s₃.heap.push { cls := .type "slice", data := .fields #[partValue t2, partValue t3, .none] }) a vs.toArray := ⟨_, ho, rfl, n', rfl⟩
    refine tail_builtin hl'.typeIs slot_list_getitem.lookup (wpAny_getItem_list_slice hl' (Heap.IsSliceOf.new ..) (part_isPart t2) (part_isPart t3) .none (by simp) ?_ (by simp; rw [sizeLine_eq]; exact o10 hz hlen)) (subscripted_plain ..)
    rw [slicePick_sl]
    exact hQ _ _ _ (le.trans (Le.app _ _)) (new_ref st₄) (st₄.newList (hv.sl _ _) _)
   ·exact nn e4
  ·exact nn e4
noncomputable def aRev : AV → AH → Option (AV × AH)
 | .str t, h => if t.length ≤ 1000000 then some (.str t.reverse, h) else none
 | _, _ => none
theorem rev_pick : ∀ (t : List Nat), (Builtin.Str.strSliceIndices none none (-1) t.length).filterMap (t.toArray[·]?) = t.reverse := by
 intro t
 have e : Builtin.Str.strSliceIndices none none (-1) t.length = (List.range t.length).map fun k => t.length - 1 - k := by
  unfold Builtin.Str.strSliceIndices sliceRange
  simp only [show ¬ ((-1 : Int) > 0) by decide, if_false]
  have hc : (if (t.length : Int) - 1 > -1 then ((t.length : Int) - 1 - -1 - -1 - 1) / (- -1) else 0).toNat = t.length := by
   split
   ·rw [show (- -1 : Int) = 1 from rfl, Int.ediv_one]; lia
   ·lia
  rw [hc]
  apply List.map_congr_left
  intro k hk
  have := List.mem_range.mp hk
  lia
 rw [e]
 apply List.ext_getElem?
 intro i
 rw [List.filterMap_map]
 have : ∀ n, n ≤ t.length → (List.range n).filterMap ((fun x => t.toArray[x]?) ∘ fun k => t.length - 1 - k) = t.reverse.take n := by
  intro n
  induction n with
  | zero => intro _; simp
  | succ n ih =>
   intro hn
   rw [List.range_succ, List.filterMap_append, ih (by exact o56 hn), List.take_add_one]
   congr 1
   simp only [List.filterMap_cons, List.filterMap_nil, Function.comp]
   rw [List.getElem?_reverse hn]
   simp only [List.getElem?_toArray]
   cases t[t.length - 1 - n]? <;> rfl
 rw [this _ (Nat.le_refl _), List.take_of_length_le (by simp)]
noncomputable def pRev (f : PE) : PE := fun l h => (f l h).bind fun p => aRev p.1 p.2
theorem EvOK.rev {value : Expr} {p pos p1 p2 : Pos} {j : Nat} {f : PE} (ha : EvOK W R k value f) :
  EvOK W R k (.Subscript value (.Slice none none (some (.UnaryOp .USub (.Constant (.int 1) j p1) p2)) p) pos) (pRev f) := by
 intro A fs env locs l G ρ σ s cx eo hl st v σ' ev Q E hQ
 refine bindP ev fun x σ₁ e1 e4 => ?_
 refine Subscript_ (ha A fs env locs l G ρ σ s cx eo hl st x σ₁ e1 _ E fun ρ₁ s₁ c₁ le₁ r₁ st₁ => ?_)
 refine wpAny_Slice ?_
 rw [evalPart_none]
 refine wpAny_pure (wpAny_pure ?_)
 rw [evalPart_some]
 refine EvOK.neg (k := k) (EvOK.int (i := 1)) A fs env locs l G ρ₁ σ₁ s₁ cx eo hl st₁ (.int (-1)) σ₁ rfl _ E fun ρ₃ s₃ c₃ le₃ r₃ st₃ => ?_
 obtain ⟨t3, rfl⟩ := r₃
 have r₁' := r₁.mono le₃
 have le := le₁.trans le₃
 have st₄ := st₃.push { cls := .type "slice", data := .fields #[.none, .none, .int (-1) t3] } s₃.toks
 cases x <;> simp only [aRev] at e4 <;> try exact nn e4
 rename_i t
 obtain ⟨tk, rfl⟩ := r₁'
 split at e4
 ·rename_i hz
  cases e4
  refine tail_builtin (typeIs_str _ _ _) F.slot_str_getitem.lookup (wpAny_getItem_str_slice (l := none) (u := none) (st := some (-1, t3)) ⟨_, Heap.get?_push_size _ rfl, rfl, rfl⟩ rfl ?_) (subscripted_plain ..)
  have e : sliceMade ⟨t.toArray⟩ tk none none (some (-1, t3)) = .str ⟨t.reverse.toArray⟩ := by
   unfold sliceMade slicePicked
   simp only [Option.map_none, zM, Option.getD_some, str_length]
   rw [if_neg (by simp), rev_pick]
  rw [e]
  refine ⟨?_, hQ ρ₃ _ _ le ⟨_, rfl⟩ (st₄.toks _)⟩
  rw [str_length, sizeLine_eq, List.length_reverse]
  exact zG hz (by decide)
 ·exact nn e4
end LD
noncomputable section LE
open PySem PySem.W PySem.Calls PyProof.Rows
variable {W : Wd} {R : Rs} {k : Nat}
theorem new_refAt {ρ : List Addr} {σ : AH} {G : List (Loc × AV)} {s : Shared} (st : St W ρ σ G s) (a : Addr) : VR (ρ ++ [a]) (.ref σ.length) (.ref a) :=
 ⟨_, by rw [← st.len, List.getElem?_append_right (Nat.le_refl _)]; simp, rfl⟩
theorem St.allocAt {ρ : List Addr} {σ : AH} {G : List (Loc × AV)} {s : Shared} (st : St W ρ σ G s) {a : Addr} (hn : s.heap.objs.size ≤ a) {h' : Heap} {o : Obj} {ao : AObj} {tk : Nat} (hk : ∀ b o, s.heap.get? b = some o → h'.get? b = some o)
  (ho : h'.get? a = some o) (r : OR (ρ ++ [a]) o ao) (htk : 0 < tk) : St W (ρ ++ [a]) (σ ++ [ao]) G { s with heap := h', toks := tk } := by
 have st' : St W ρ σ G { s with heap := h', toks := tk } := st.keeps hk htk
 have le := Le.app ρ [a]
 have hnew : ∀ o, s.heap.get? a ≠ some o := fun o e => absurd (Heap.lt_size e) (Nat.not_lt.mpr hn)
 have n1 : a ∉ ρ := fun h => let ⟨o, e⟩ := st.there h; hnew o e
 refine ⟨st'.stays, st'.os, st'.gens, by simp [st.len], fun i b bo e1 e2 => ?_, fun b hb => ?_, ?_, fun p hp => (st'.locs p hp).mono le, fun p hp => ⟨fun h => ?_, (st.lfresh p hp).2⟩, st.apart, htk⟩
 ·by_cases hi : i < ρ.length
  ·rw [List.getElem?_append_left hi] at e1
   rw [List.getElem?_append_left (by rw [← st.len]; exact hi)] at e2
   refine xEA (st'.objs i b bo e1 e2) fun o' ho r' => ?_
   exact ⟨o', ho, r'.mono le⟩
  ·have hi' : i = ρ.length := by
    have := (zC e1).1
    simp at this; exact o12 hi this
   subst hi'
   rw [List.getElem?_append_right (Nat.le_refl _)] at e1
   rw [st.len, List.getElem?_append_right (Nat.le_refl _)] at e2
   simp at e1 e2
   subst e1 e2
   exact ⟨_, ho, r⟩
 ·rcases List.mem_append.mp hb with h | h
  ·exact st.fresh b h
  ·rw [zL h]
   cases q : W.B.get? a with
   | none => rfl
   | some o => exact absurd (st.stays _ _ q) (hnew o)
 ·rw [List.nodup_append]
  exact ⟨st.nodup, by simp, fun b hb c hc e => by rw [zL hc] at e; exact n1 (e ▸ hb)⟩
 ·rcases List.mem_append.mp h with h | h
  ·exact (st.lfresh p hp).1 h
  ·rw [List.mem_singleton] at h
   obtain ⟨o, ho⟩ := (st.locs p hp).there
   exact hnew o (h ▸ ho)
noncomputable def fOrd : PF
 | [.str [c]], h => some (.int c, h)
 | _, _ => none
theorem ord_fun : FunOK W "ord" fOrd := by
 intro A G ρ σ s args cargs hh hu hd st ra v σ' ev Q E hQ
 unfold fOrd at ev
 split at ev
 ·refine xEEAA ra.cons_of fun c1 us hrf r1 r2 => ?_; subst hrf
  cases r2.nil_of
  obtain ⟨t, rfl⟩ := r1
  replace hQ := hQ.t2 ev
  exact P.ord_of_char (hQ ρ _ _ (Le.refl _) ⟨_, rfl⟩ (st.toks _))
 ·exact nn ev
noncomputable def fChr : PF
 | [.int i], h => if 0 ≤ i ∧ i ≤ 1000 then some (.str [i.toNat], h) else none
 | _, _ => none
theorem chr_fun : FunOK W "chr" fChr := by
 intro A G ρ σ s args cargs hh hu hd st ra v σ' ev Q E hQ
 unfold fChr at ev
 split at ev
 ·refine xEEAA ra.cons_of fun c1 us hrf r1 r2 => ?_; subst hrf
  cases r2.nil_of
  obtain ⟨t, rfl⟩ := r1
  split at ev
  ·rename_i hz
   replace hQ := hQ.t2 ev
   exact P.chr_of_int (by simp; lia) (hQ ρ _ _ (Le.refl _) ⟨_, rfl⟩ (st.toks _))
  ·exact nn ev
 ·exact nn ev
noncomputable def fLen : PF
 | [.str t], h => if t.length ≤ 1000000 then some (.int t.length, h) else none
 | [.ref n], h => match h[n]? with
  | some (.list xs) => if xs.length ≤ 1000000 then some (.int xs.length, h) else none
  | _ => none
 | _, _ => none
theorem len_fun : FunOK W "len" fLen := by
 intro A G ρ σ s args cargs hh hu hd st ra v σ' ev Q E hQ
 unfold fLen at ev
 split at ev
 ·refine xEEAA ra.cons_of fun c1 us hrf r1 r2 => ?_; subst hrf
  cases r2.nil_of
  obtain ⟨t, rfl⟩ := r1
  split at ev
  ·rename_i hz
   replace hQ := hQ.t2 ev
   refine PyProof.Rows.len_str (by rw [str_length]; lia) (hQ ρ _ _ (Le.refl _) ⟨s.toks + 1, by rw [str_length]⟩ (st.toks _))
  ·exact nn ev
 ·refine xEEAA ra.cons_of fun c1 us hrf r1 r2 => ?_; subst hrf
  cases r2.nil_of
  refine xEA r1 fun a ea hrf => ?_; subst hrf
  split at ev
  ·rename_i xs hx
   split at ev
   ·rename_i hz
    replace hQ := hQ.t2 ev
    refine xEEAAEEA (st.at hx) fun a' o ea' ho vs n' hrf hv => ?_; subst hrf
    rw [ea] at ea'; replace ho := t1 ea' ▸ ho
    have hlen := hv.length
    refine call_len_list (items := vs.toArray) ⟨_, ho, rfl, n', rfl⟩ (by simp; exact o44 (o51 hlen (zF hz (by decide)))) (hQ ρ _ _ (Le.refl _) ⟨s.toks + 1, by rw [List.size_toArray, hlen]⟩ (st.toks _))
   ·exact nn ev
  ·exact nn ev
 ·exact nn ev
theorem VRs.ofItems {ρ : List Addr} : ∀ {t : List Nat} {vs : List Value}, vs.length = t.length → (∀ j v, vs[j]? = some v → SignAt ⟨t.toArray⟩ j v) → VRs ρ (t.map fun c => .str [c]) vs := by
 intro t
 induction t with
 | nil => intro vs hl _; rw [List.length_eq_zero_iff.mp hl]; trivial
 | cons c t ih =>
  intro vs hl h
  obtain ⟨v, vs, rfl⟩ := List.exists_cons_of_length_eq_add_one hl
  refine xEEA (h 0 v rfl) fun c' u e hrf => ?_; subst hrf
  simp at e
  subst e
  refine ⟨⟨_, rfl⟩, ih (by simpa using hl) fun j v e => ?_⟩
  refine xEEA (h (j + 1) v (by simpa using e)) fun c'' u' e' hrf => ?_; subst hrf
  exact ⟨c'', u', by simpa using e', rfl⟩
theorem VRs.ofItems' {ρ : List Addr} {t : List Nat} {acc : Array Value} (h : ItemsOf (SignAt ⟨t.toArray⟩) acc t.length) : VRs ρ (t.map fun c => .str [c]) acc.toList :=
 VRs.ofItems (by rw [Array.length_toList]; exact h.1) fun j v e => h.2 j v (by simpa using e)
noncomputable def fList : PF
 | [.str t], h => if t.length ≤ 1000000 then some (.ref h.length, h ++ [.list (t.map fun c => .str [c])]) else none
 | _, _ => none
theorem list_typ : TypOK W "list" fList := by
 intro A G ρ σ s args cargs hh hu hd st ra v σ' ev Q E hQ
 unfold fList at ev
 split at ev
 ·refine xEEAA ra.cons_of fun c1 us hrf r1 r2 => ?_; subst hrf
  cases r2.nil_of
  obtain ⟨t, rfl⟩ := r1
  split at ev
  ·rename_i tt hz
   replace hQ := hQ.t2 ev
   refine wpAny_with_toks (n := 1) st.tk (call_list_str hh _ _ (fun h' tk acc' c' hk hS hI hk1 => ?_) (by simp; rw [sizeLine_eq]; exact zG hz (by decide)))
   have hI' : ItemsOf (SignAt ⟨tt.toArray⟩) acc' tt.length := by simpa using hI
   exact hQ _ _ _ (Le.app ρ [s.heap.objs.size]) (new_ref st) (st.allocAt (Nat.le_refl _) hk hS ⟨acc'.toList, c', by simp [PySem.W.listOf], VRs.ofItems' hI'⟩ hk1)
  ·exact nn ev
 ·exact nn ev
noncomputable def fInt : PF
 | [.int i], h => some (.int i, h)
 | _, _ => none
theorem int_typ : TypOK W "int" fInt := by
 intro A G ρ σ s args cargs hh hu hd st ra v σ' ev Q E hQ
 unfold fInt at ev
 split at ev
 ·refine xEEAA ra.cons_of fun c1 us hrf r1 r2 => ?_; subst hrf
  cases r2.nil_of
  obtain ⟨t, rfl⟩ := r1
  replace hQ := hQ.t2 ev
  exact call_int_int (hQ ρ _ _ (Le.refl _) ⟨_, rfl⟩ st)
 ·exact nn ev
theorem St.updList {ρ : List Addr} {σ : AH} {G : List (Loc × AV)} {s : Shared} (st : St W ρ σ G s) {i : Nat} {a : Addr} {xs' : List AV} {vs vs' : List Value} {n : Nat} (ea : ρ[i]? = some a) (ho : s.heap.get? a = some (listOf vs.toArray n)) (g : Array Value → Array Value)
  (hg : g vs.toArray = vs'.toArray) (r : VRs ρ xs' vs') : St W ρ (σ.set i (.list xs')) G { s with heap := s.heap.update a (Obj.mapSeq g) } := by
 have := get?_update_seq (c := "list") ho g
 exact st.setObj (tk := s.toks) ea (Heap.SameBut.update ..) this ⟨vs', _, by rw [hg], r⟩ st.tk
noncomputable def mAppend (x : AV) : PF
 | [y], h => match x with
  | .ref n => match h[n]? with
   | some (.list xs) => if xs.length ≤ 1000000 then some (.none, h.set n (.list (xs ++ [y]))) else none
   | _ => none
  | _ => none
 | _, _ => none
theorem append_meth : MethOK W "list.append" mAppend := by
 intro A G ρ σ s x cx args cargs hh hu st rx ra v σ' ev Q E hQ
 unfold mAppend at ev
 split at ev
 ·refine xEEAA ra.cons_of fun c1 us hrf r1 r2 => ?_; subst hrf
  cases r2.nil_of
  split at ev
  ·refine xEA rx fun a ea hrf => ?_; subst hrf
   split at ev
   ·rename_i xs hx
    split at ev
    ·rename_i hz
     replace hQ := hQ.t2 ev
     refine xEEAAEEA (st.at hx) fun a' o ea' ho vs n' hrf hv => ?_; subst hrf
     rw [ea] at ea'; replace ho := t1 ea' ▸ ho
     have hlen := hv.length
     refine call_meets F.slot_list_append ⟨_, ho, rfl⟩ F.entry_list_append (F.args_list_append_2 _ _) (PySem.AutoListH.list_append_list_val_0 _ vs.toArray n' c1 (by simp; rw [sizeLine_eq]; exact o10 hz hlen)) ⟨ho, ?_⟩
     exact hQ ρ _ _ (Le.refl _) rfl (st.updList ea ho _ (vs' := vs ++ [c1]) (by simp) (hv.app ⟨r1, trivial⟩))
    ·exact nn ev
   ·exact nn ev
  ·exact nn ev
 ·exact nn ev
noncomputable def mPop (x : AV) : PF
 | [], h => match x with
  | .ref n => match h[n]? with
   | some (.list xs) => if xs.length ≤ 1000000 then (xs.getLast?).bind fun y => match y with | .undef => none | y => some (y, h.set n (.list xs.dropLast)) else none
   | _ => none
  | _ => none
 | _, _ => none
theorem pop_meth : MethOK W "list.pop" mPop := by
 intro A G ρ σ s x cx args cargs hh hu st rx ra v σ' ev Q E hQ
 unfold mPop at ev
 split at ev
 ·cases ra.nil_of
  split at ev
  ·rename_i m
   refine xEA rx fun a ea hrf => ?_; subst hrf
   split at ev
   ·rename_i xs hx
    split at ev
    ·rename_i hz
     refine bindQ ev fun y e1 e2 => ?_
     have e5 : y = v ∧ List.set σ m (.list xs.dropLast) = σ' := by
      cases y <;> first | (cases e2; done) | (injection e2 with e2; injection e2 with p q; exact ⟨p, q⟩)
     obtain ⟨rfl, rfl⟩ := e5
     refine xEEAAEEA (st.at hx) fun a' o ea' ho vs n' hrf hv => ?_; subst hrf
     rw [ea] at ea'; replace ho := t1 ea' ▸ ho
     have hlen := hv.length
     rw [List.getLast?_eq_getElem?] at e1
     refine xEA (hv.get e1) fun c ec rc => ?_
     refine call_meets F.slot_list_pop ⟨_, ho, rfl⟩ F.entry_list_pop (F.args_list_pop_1 _) (PySem.MeetsSeq.list_pop_last a vs.toArray n' c (by simpa [hlen] using ec) (by simp; rw [sizeLine_eq]; exact o10 hz hlen)) ⟨ho, ?_⟩
     have hd : VRs ρ xs.dropLast vs.dropLast := by
      rw [List.dropLast_eq_take, List.dropLast_eq_take, hlen]; exact hv.take _
     have hpos : 0 < vs.length := by
      have := (zC ec).1
      lia
     refine hQ ρ _ _ (Le.refl _) rc (st.updList ea ho (fun xs => xs.eraseIdxIfInBounds (vs.toArray.size - 1)) (vs' := vs.dropLast) ?_ hd)
     rw [Array.eraseIdxIfInBounds, dif_pos (by simp; exact o20 (Nat.sub_add_cancel hpos))]
     apply Array.ext'
     simp only [Array.toList_eraseIdx, List.size_toArray]
     rw [List.eraseIdx_eq_take_drop_succ, List.drop_of_length_le (by exact o53 (Nat.le_refl _) (o65 hpos)), List.dropLast_eq_take]; simp
    ·exact nn ev
   ·exact nn ev
  ·exact nn ev
 ·exact nn ev
noncomputable def joinL (sep : List Nat) : List (List Nat) → List Nat
 | [] => []
 | [x] => x
 | x :: y :: r => x ++ sep ++ joinL sep (y :: r)
theorem join_toL (sep : Str) : ∀ ys : List (List Nat), (Str.join sep (ys.map fun y => ⟨y.toArray⟩)) = ⟨(joinL sep.cps.toList ys).toArray⟩
 | [] => rfl
 | [x] => rfl
 | x :: y :: r => by
  show (⟨x.toArray⟩ : Str) ++ sep ++ Str.join sep ((y :: r).map fun y => ⟨y.toArray⟩) = _
  rw [join_toL sep (y :: r)]
  show Str.append (Str.append _ _) _ = _
  simp [Str.append, joinL]
theorem strsAre_of {ρ : List Addr} : ∀ {xs : List AV} {vs : List Value} {ys : List (List Nat)}, allStr xs = some ys → VRs ρ xs vs → StrsAre vs (ys.map fun y => ⟨y.toArray⟩)
 | [], vs, ys, e, r => by cases e; rw [r.nil_of]; exact .nil
 | x :: xs, vs, ys, e, r => by
  refine xEEAA r.cons_of fun v us hrf r1 r2 => ?_; subst hrf
  cases x <;> simp only [allStr] at e <;> try exact nn e
  refine mapQ e fun zs e1 hrf => ?_; subst hrf
  obtain ⟨t, rfl⟩ := r1
  exact .cons _ _ (strsAre_of e1 r2)
noncomputable def mJoin (x : AV) : PF
 | [.ref n], h => match x with
  | .str sep => match h[n]? with
   | some (.list xs) => (allStr xs).bind fun ys => if (ys.map (·.length)).sum + ys.length * sep.length ≤ 1000000 then some (.str (joinL sep ys), h) else none
   | _ => none
  | _ => none
 | _, _ => none
theorem join_meth : MethOK W "str.join" mJoin := by
 intro A G ρ σ s x cx args cargs hh hu st rx ra v σ' ev Q E hQ
 unfold mJoin at ev
 split at ev
 ·refine xEEAA ra.cons_of fun c1 us hrf r1 r2 => ?_; subst hrf
  cases r2.nil_of
  refine xEA r1 fun a ea hrf => ?_; subst hrf
  split at ev
  ·obtain ⟨t, rfl⟩ := rx
   split at ev
   ·rename_i xs hx
    refine bindQ ev fun ys e1 e2 => ?_
    split at e2
    ·rename_i hz
     replace hQ := hQ.t2 e2
     refine xEEAAEEA (st.at hx) fun a' o ea' ho vs n' hrf hv => ?_; subst hrf
     rw [ea] at ea'; replace ho := t1 ea' ▸ ho
     refine wpAny_with_toks (n := 1) st.tk (PyProof.Rows.join_list (items := vs.toArray) ⟨_, ho, rfl, n', rfl⟩ (strsAre_of e1 hv) ?_ fun t' k hk => hQ ρ _ _ (Le.refl _) ?_ (st.toks _ hk))
     ·simp only [List.map_map, Function.comp_def, str_length, List.length_map]; exact zG hz (by decide)
     ·refine ⟨t', ?_⟩
      unfold Txt.join
      rw [StrLaws.glued_eq_join, join_toL]
    ·exact nn e2
   ·exact nn ev
  ·exact nn ev
 ·exact nn ev
noncomputable def findIn (c : Nat) (t : List Nat) (lo hi : Nat) : Int := match ((t.take hi).drop lo).findIdx? (· == c) with | some j => ((lo + j : Nat) : Int) | none => -1
noncomputable def mFind3 (x a b c : AV) (h : AH) : Option (AV × AH) := match a with
 | .str [k] => match b with
  | .int i => match c with
   | .int j => match x with
    | .str t => if 0 ≤ i ∧ 0 ≤ j then some (.int (findIn k t i.toNat j.toNat), h) else none
    | _ => none
   | _ => none
  | _ => none
 | _ => none
noncomputable def mFind (x : AV) : PF := fun args h => match args with
 | [a, b, c] => mFind3 x a b c h
 | _ => none
theorem mFind_eq {k : Nat} {i j : Int} {t : List Nat} {h : AH} : mFind (.str t) [.str [k], .int i, .int j] h = if 0 ≤ i ∧ 0 ≤ j then some (.int (findIn k t i.toNat j.toNat), h) else none := rfl
open Builtin Builtin.Str StrLaws in
theorem occ_head_in (x y : Str) (lo hi limit : Nat) (hl : 1 ≤ limit) :
  (occurrences x y lo hi limit = [] ∧ ∀ i, lo ≤ i → i ≤ hi → ¬ At x y hi i) ∨
  ∃ i r, occurrences x y lo hi limit = i :: r ∧ lo ≤ i ∧ At x y hi i ∧ ∀ k, lo ≤ k → k < i → ¬ At x y hi k := by
 rw [occ_eq]
 rcases occ_first x y hi limit hl (List.range' lo (hi + 1 - lo)) lo (fun i hi => by have := List.mem_range'_1.mp hi; lia) with ⟨h0, hn⟩ | ⟨pre, a, post, e, h0, ha, hn⟩
 ·refine .inl ⟨by rw [h0], fun i hlo hi' hi => ?_⟩
  exact hn i (by rw [List.mem_range'_1]; omega) hi
 ·have hs := range'_split_from e
  refine .inr ⟨a, ((forIn (List.range' lo (hi + 1 - lo)) ((#[] : Array Nat), lo) (occBody x y hi limit)).run.fst.toList).tail, ?_, hs.1, ha, fun k hk0 hk => hn k (hs.2 k hk0 hk)⟩
  generalize (forIn (List.range' lo (hi + 1 - lo)) ((#[] : Array Nat), lo) (occBody x y hi limit)).run.fst = arr at h0
  have h1 : arr.toList[0]? = some a := by simpa using h0
  cases hL : arr.toList with
  | nil => rw [hL] at h1; cases h1
  | cons b t => rw [hL] at h1; simp at h1; rw [h1]; rfl
open Builtin Builtin.Str StrLaws in
theorem at_one (t : List Nat) (c hi i : Nat) (hh : hi ≤ t.length) : At ⟨t.toArray⟩ ⟨#[c]⟩ hi i ↔ i < hi ∧ t[i]? = some c := by
 have e : (⟨#[c]⟩ : Str).length = 1 := rfl
 have := subAt_one ⟨t.toArray⟩ c i
 unfold At
 simp only [str_length, e] at this
 rw [e]
 constructor
 ·intro h; exact ⟨by lia, this.mp ⟨by lia, h.2⟩⟩
 ·intro h; exact ⟨by lia, (this.mpr h.2).2⟩
open Builtin Builtin.Str StrLaws in
theorem occ_find (t : List Nat) (c lo hi : Nat) : (match occurrences ⟨t.toArray⟩ ⟨#[c]⟩ lo (min hi t.length) 1 with | k :: _ => (k : Int) | [] => -1) = findIn c t lo hi := by
 have hm : min hi t.length ≤ t.length := Nat.min_le_right ..
 have ht : ∀ j, ((t.take hi).drop lo)[j]? = if lo + j < hi then t[lo + j]? else none := by
  intro j
  rw [List.getElem?_drop, List.getElem?_take]
 unfold findIn
 rcases occ_head_in ⟨t.toArray⟩ ⟨#[c]⟩ lo (min hi t.length) 1 (Nat.le_refl _) with ⟨e, h⟩ | ⟨i, r, e, h1, h2, h3⟩
 ·rw [e]
  have : ((t.take hi).drop lo).findIdx? (· == c) = none := by
   rw [List.findIdx?_eq_none_iff]
   intro x hx
   obtain ⟨j, hj, ej⟩ := List.getElem_of_mem hx
   have e2 : ((t.take hi).drop lo)[j]? = some x := by rw [zH hj, ej]
   rw [ht] at e2
   split at e2
   ·rename_i hlt
    have hlen := (zC e2).1
    have := h (lo + j) (by exact Nat.le_add_right _ _) (by lia)
    rw [at_one _ _ _ _ hm] at this
    simp only [beq_eq_false_iff_ne]
    intro q
    subst q
    exact this ⟨by lia, e2⟩
   ·exact nn e2
  rw [this]
 ·rw [e]
  rw [at_one _ _ _ _ hm] at h2
  have : ((t.take hi).drop lo).findIdx? (· == c) = some (i - lo) := by
   rw [List.findIdx?_eq_some_iff_getElem]
   have hi' : i - lo < ((t.take hi).drop lo).length := by simp; omega
   refine ⟨hi', ?_, fun j hj => ?_⟩
   ·have e2 := ht (i - lo)
    rw [zH hi', if_pos (by lia), show lo + (i - lo) = i by exact Nat.add_sub_cancel' h1, h2.2] at e2
    simpa using Option.some.inj e2
   ·have hj' : j < ((t.take hi).drop lo).length := by exact Nat.lt_trans hj hi'
    have e2 := ht j
    rw [zH hj', if_pos (by lia)] at e2
    have := h3 (lo + j) (by exact Nat.le_add_right _ _) (by exact o61 hj)
    rw [at_one _ _ _ _ hm] at this
    simp only [Bool.not_eq_true, beq_eq_false_iff_ne]
    intro q
    exact this ⟨by omega, by rw [← e2, q]⟩
  rw [this]
  show (i : Int) = ((lo + (i - lo) : Nat) : Int)
  congr 1; exact o69 h1 rfl
open Builtin Builtin.Str in
theorem gives_find4 (x y : Str) (i j : Int) (t u v w' : Tok) : Gives («str.find» ⟨[.str x t, .str y u, .int i v, .int j w'], []⟩) (.int (match occurrences x y (fromIndex x.length i) (min (fromIndex x.length j) x.length) 1 with | k :: _ => (k : Int) | [] => -1)) := by
 show Gives (match occurrences x y (fromIndex x.length i) (min (fromIndex x.length j) x.length) 1 with | k :: _ => retInt k | [] => (do rule "str.find.not-found"; retInt (-1))) _
 cases occurrences x y (fromIndex x.length i) (min (fromIndex x.length j) x.length) 1 with
 | nil => exact .rule (.of_eq rfl)
 | cons k _ => exact .of_eq rfl
theorem mFind_inv {x : AV} {args : List AV} {h : AH} {r : AV × AH} (e : mFind x args h = some r) : ∃ c i j t, args = [.str [c], .int i, .int j] ∧ x = .str t ∧ (if 0 ≤ i ∧ 0 ≤ j then some (.int (findIn c t i.toNat j.toNat), h) else none) = some r := by
 rcases args with _ | ⟨a, _ | ⟨b, _ | ⟨c, _ | ⟨d, l⟩⟩⟩⟩
 case cons.cons.cons.nil =>
  cases a with
  | str s =>
   rcases s with _ | ⟨k, _ | ⟨k2, s⟩⟩
   case cons.nil =>
    cases b with
    | int i => cases c with
     | int j => cases x with
      | str t => exact ⟨k, i, j, t, rfl, rfl, e⟩
      | _ => exact nn e
     | _ => exact nn e
    | _ => exact nn e
   all_goals exact nn e
  | _ => exact nn e
 all_goals exact nn e
theorem find_meth : MethOK W "str.find" mFind := by
 intro A G ρ σ s x cx args cargs hh hu st rx ra v σ' ev Q E hQ
 obtain ⟨c, i, j, t, rfl, rfl, e0⟩ := mFind_inv ev; clear ev
 ·refine xEEAA ra.cons_of fun c1 us hrf q1 r2 => ?_; subst hrf
  refine xEEAA r2.cons_of fun c2 us hrf q2 r3 => ?_; subst hrf
  refine xEEAA r3.cons_of fun c3 us hrf q3 r4 => ?_; subst hrf
  cases r4.nil_of
  obtain ⟨t1, rfl⟩ := q1
  obtain ⟨t2, rfl⟩ := q2
  obtain ⟨t3, rfl⟩ := q3
  ·obtain ⟨tt, rfl⟩ := rx
   split at e0
   ·rename_i hz
    replace hQ := hQ.t2 e0
    refine PySem.call_gives F.slot_str_find (typeIs_str _ _ _) F.entry_str_find (F.args_str_find_4 _ _ _ _) (gives_find4 _ _ _ _ _ _ _ _) (hQ ρ _ _ (Le.refl _) ⟨s.toks, ?_⟩ (st.toks _))
    have e1 : fromIndex t.length i = i.toNat := by unfold fromIndex; rw [if_neg (by lia)]; lia
    have e2 : fromIndex t.length j = j.toNat := by unfold fromIndex; rw [if_neg (by lia)]; lia
    rw [str_length, e1, e2]
    exact congrArg (fun z => Value.int z s.toks) (occ_find t c i.toNat j.toNat)
   ·exact nn e0
noncomputable def repl (c : Nat) (z t : List Nat) : List Nat := t.flatMap fun d => if d = c then z else [d]
theorem repl_free (c : Nat) (z : List Nat) : ∀ l : List Nat, c ∉ l → repl c z l = l
 | [], _ => rfl
 | k :: r, h => by
  have h1 : ¬ k = c := fun e => h (e ▸ List.mem_cons_self ..)
  have h2 : c ∉ r := fun m => h (List.mem_cons_of_mem _ m)
  unfold repl
  rw [List.flatMap_cons, if_neg h1]
  have := repl_free c z r h2
  unfold repl at this
  rw [this]; rfl
theorem repl_join (c : Nat) (z : Str) : ∀ parts : List Str, (∀ p ∈ parts, c ∉ p.cps.toList) → repl c z.cps.toList (Str.join ⟨#[c]⟩ parts).cps.toList = (Str.join z parts).cps.toList
 | [], _ => rfl
 | [p], h => repl_free c _ _ (h p (List.mem_singleton.mpr rfl))
 | p :: q :: r, h => by
  have ih := repl_join c z (q :: r) fun a ha => h a (List.mem_cons_of_mem _ ha)
  show repl c z.cps.toList (p ++ ⟨#[c]⟩ ++ Str.join ⟨#[c]⟩ (q :: r)).cps.toList = (p ++ z ++ Str.join z (q :: r)).cps.toList
  simp only [Str.cps_append, Array.toList_append]
  unfold repl at ih ⊢
  rw [List.flatMap_append, List.flatMap_append, ih]
  have := repl_free c z.cps.toList _ (h p (List.mem_cons_self ..))
  unfold repl at this
  rw [this]
  simp
theorem replace_repl (x z : Str) (c : Nat) : (Txt.replace x ⟨#[c]⟩ z).cps.toList = repl c z.cps.toList x.cps.toList := by
 rw [StrLaws.replace_one, ← repl_join c z _ (StrLaws.split_free x c), StrLaws.join_split]
theorem repl_length (c : Nat) (z : List Nat) : ∀ t : List Nat, (repl c z t).length ≤ t.length * (z.length + 1)
 | [] => by simp [repl]
 | k :: r => by
  have := repl_length c z r
  unfold repl at this ⊢
  rw [List.flatMap_cons, List.length_append, List.length_cons, Nat.add_mul]
  have h2 : (if k = c then z else [k]).length ≤ z.length + 1 := by split <;> simp
  omega
noncomputable def pRepl (c : Nat) (z : List Nat) (f : PE) : PE := fun l h => (f l h).bind fun p => match p.1 with | .str t => if t.length ≤ 10000 then some (.str (repl c z t), p.2) else none | _ => none
theorem str_mk_eta (x : Str) : x = ⟨x.cps.toList.toArray⟩ := by obtain ⟨⟨l⟩⟩ := x; rfl
theorem EvOK.repl {o : Expr} {apos pos p1 p2 : Pos} {j1 j2 : Nat} {c : Nat} {y z : Str} {zl : List Nat} {f : PE} (pa : PlainAttrs "str")
  (hbase : ∀ env, attributeBase o "replace" env (eval o env) = eval o env) (hline : (apos.endLine == pos.line) = true) (hyz : (y == z) = false) (hy : y = ⟨#[c]⟩) (hz : z = ⟨zl.toArray⟩) (hzl : zl.length ≤ 100) (ho : EvOK W R k o f) :
  EvOK W R k (.Call (.Attribute o "replace" apos) [.Constant (.str y) j1 p1, .Constant (.str z) j2 p2] [] pos) (pRepl c zl f) := by
 intro A fs env locs l G ρ σ s cx eo hl st v σ' ev Q E hQ
 refine bindP ev fun x σ₁ e1 ev => ?_
 refine wpAny_Call_method (hbase env) rfl hline pa F.slot_str_replace F.type_str_replace (ho A fs env locs l G ρ σ s cx eo hl st x σ₁ e1 _ E fun ρ₁ s₁ c₁ le₁ r₁ st₁ => ?_)
 dsimp only at ev
 split at ev
 ·rename_i t
  obtain ⟨tk, rfl⟩ := r₁
  split at ev
  ·rename_i hlen
   cases ev
   refine ⟨typeIs_str _ _ _, fun a e => (by cases e), ?_⟩
   refine callWith_of (P := fun _ => True) rfl (fun hp _ => ⟨.machine, .inr (.inl rfl), .of_pure rfl⟩) ?_
   have main : wpAny (model W.prog W.w) A (spliced (backTo pos (starEach [Expr.Constant (.str y) j1 p1, .Constant (.str z) j2 p2] env))) (fun vs s₂ => (True) ∧ wpAny (model W.prog W.w) A (PySem.call (.builtin "str.replace") ([.str ⟨t.toArray⟩ tk] ++ vs) []) Q E s₂) E s₁ :=
    args_cons (wpAny_Constant_str (args_cons (wpAny_Constant_str (wpAny_items_nil ⟨trivial, ?_⟩)) rfl)) rfl
   ·exact evalArgs_plain main
   have hpos := st₁.tk
   subst hy hz
   have hocc := StrLaws.occ_length_le ⟨t.toArray⟩ ⟨#[c]⟩ 0 t.length (t.length + 1)
   have hmul : (Builtin.Str.occurrences ⟨t.toArray⟩ ⟨#[c]⟩ 0 t.length (t.length + 1)).length * zl.length ≤ 10001 * 100 := Nat.mul_le_mul (by exact zG hocc (Nat.add_le_add_right hlen _)) hzl
   refine PySem.call_gives F.slot_str_replace (typeIs_str _ _ _) F.entry_str_replace (F.args_str_replace_3 _ _ _) (gives_str_replace _ _ _ _ _ _ fun _ => ⟨?_, ?_, hyz, ?_⟩) ?_
   ·show ((s₁.toks == 0) || (s₁.toks + 1 == 0)) = false
    simp; exact Nat.ne_of_gt hpos
   ·show (s₁.toks == s₁.toks + 1) = false
    simp
   ·unfold Builtin.Str.tooLong
    rw [sizeLine_eq, str_length, str_length]
    exact decide_eq_false (by exact o25 hlen hmul)
   ·have hr := replace_repl ⟨t.toArray⟩ ⟨zl.toArray⟩ c
    have hfit : (Txt.replace ⟨t.toArray⟩ ⟨#[c]⟩ ⟨zl.toArray⟩).length ≤ sizeLine := by
     have h1 : (Txt.replace ⟨t.toArray⟩ ⟨#[c]⟩ ⟨zl.toArray⟩).length = (Txt.replace ⟨t.toArray⟩ ⟨#[c]⟩ ⟨zl.toArray⟩).cps.toList.length := by simp [Str.length]
     rw [h1, hr, sizeLine_eq]
     have h2 := repl_length c zl t
     have h3 : t.length * (zl.length + 1) ≤ 10000 * 101 := Nat.mul_le_mul hlen (by exact Nat.add_le_add_right hzl _)
     simp only [List.toList_toArray]
     exact o21 h2 h3
    unfold Txt.replace at hr hfit
    split
    ·rename_i hc
     rw [if_pos hc] at hr
     refine hQ ρ₁ _ _ le₁ ⟨tk, ?_⟩ (st₁.toks _)
     rw [str_mk_eta ⟨t.toArray⟩, hr]
    ·rename_i hc
     rw [if_neg hc] at hr hfit
     exact ⟨hfit, hQ ρ₁ _ _ le₁ (VR.str_mk ((str_mk_eta _).trans (congrArg (fun l => (⟨l.toArray⟩ : Str)) hr))) (st₁.toks _)⟩
  ·exact nn ev
 ·exact nn ev
end LE
noncomputable section LF
open PySem PySem.W PySem.Calls PyProof.Rows
namespace At
theorem ap : typeLookup (.type "list") "append" = pure (some (.builtin "list.append")) := by rw [typeLookup_type, builtinLookup_eq_fast]; kernel_rfl
theorem get : typeLookup (.type "method_descriptor") "__get__" = pure (some (.builtin "method_descriptor.__get__")) := by rw [typeLookup_type, builtinLookup_eq_fast]; kernel_rfl
theorem set : typeLookup (.type "method_descriptor") "__set__" = pure none := by rw [typeLookup_type, builtinLookup_eq_fast]; kernel_rfl
theorem del : typeLookup (.type "method_descriptor") "__delete__" = pure none := by rw [typeLookup_type, builtinLookup_eq_fast]; kernel_rfl
theorem entry_get : entryFor table "method_descriptor.__get__" = some Builtin.«method_descriptor.__get__» := entryFor_of_fast (by kernel_rfl)
theorem slot_get : Slot "method_descriptor" "__get__" "method_descriptor.__get__" :=
 .of (owner := "method_descriptor") (n := "__get__") (by rw [typeLookup_type, builtinLookup_eq_fast]; kernel_rfl) (by decide +kernel) (by decide +kernel) (by decide +kernel)
  (by first | exact .inl (by decide +kernel) | exact .inr (by decide +kernel)) (by rw [isSubtype_type]; kernel_rfl)
theorem args_get (a b c : Value) : argsOk "method_descriptor.__get__" ⟨[a, b, c], []⟩ := by unfold argsOk; kernel_rfl
theorem told : Manifest.toldItsClass.contains "list.append" = false := by decide +kernel
theorem owner : ("list.append".cutAt '.').dropLast = ["list"] := by decide +kernel
theorem inter : ".".intercalate ["list"] = "list" := by decide +kernel
theorem sub_list : isSubtype (.type "list") (.type "list") = pure true := by rw [isSubtype_type]; kernel_rfl
theorem sub_list' : isSubtype (.type "list") (.type (".".intercalate ("list.append".cutAt '.').dropLast)) = pure true := by rw [owner, inter, isSubtype_type]; kernel_rfl
theorem sig : Manifest.signature? "list.append" = some ⟨.oneArg, "list.append", "append", .self, [⟨"object", .posOnly, true⟩]⟩ := by
 rw [signature?_of (id := "list.append") (n := ['d', 'n', 'e', 'p', 'p', 'a']) (o := ['t', 's', 'i', 'l']) (by kernel_rfl) F.owner_list]; kernel_rfl
theorem kind : builtinKind "list.append" = some .method := by decide +kernel
theorem full : (toString (Bind.lastOf "list") ++ toString "." ++ toString (Bind.lastOf "list.append")) = "list.append" := by decide +kernel
end At
section
variable {prog : Program} {w : World} {A : Around} {E : Value → Shared → Prop} {h : Heap} {g : Array GenState} {d : Drawn} {t : Nat} {os : OsState} {a : Addr} {o : Obj}
noncomputable def methOf (a : Addr) : Obj := { cls := .type "builtin_function_or_method", data := .fields #[.builtin "list.append", .ref a] }
theorem append_get {R : Result → Shared → Prop} (hx : h.get? a = some o) (hc : o.cls = .type "list") (hq : R (.ok (.ret (.ref h.objs.size))) ⟨h.push (methOf a), g, d, t, os⟩) :
  codeAny (model prog w) A (.call (.builtin "method_descriptor.__get__") ⟨[.builtin "list.append", .ref a, .type "list"], []⟩) R ⟨h, g, d, t, os⟩ := by
 have hT : (⟨h, g, d, t, os⟩ : Shared).TypeIs (.ref a) "list" := ⟨_, hx, hc⟩
 have hT5 : (⟨h, g, d, t, os⟩ : Shared).TypeIs (.builtin "list.append") "method_descriptor" := F.type_list_append
 have f8 := At.sub_list'
 refine codeAny_call_builtin At.slot_get.plain At.entry_get (At.slot_get.check _ _ _ _ _ _ _ _ hT5 (At.args_get _ _ _) ?_)
 repeat (any_goals (first | assumption | (refine wpAny_ite_false At.told ?_) | wp_step))
theorem append_entry {tk : Tok} {Q : Fin → Shared → Prop} (hx : h.get? a = some o) (hc : o.cls = .type "list") (hd : o.dict = none) (hda : ∃ xs k, o.data = .seq xs k) (hq : Q (.done (.ret (.ref h.objs.size))) ⟨h.push (methOf a), g, d, t, os⟩) :
  wpAny (model prog w) A (Builtin.«object.__getattribute__» ⟨[.ref a, .str "append" tk], []⟩) Q E ⟨h, g, d, t, os⟩ := by
 obtain ⟨xs, k, hda⟩ := hda
 obtain ⟨c, dct, dat, sl⟩ := o
 simp only at hc hda hd
 subst hc hda hd
 have hT : (⟨h, g, d, t, os⟩ : Shared).TypeIs (.ref a) "list" := ⟨_, hx, rfl⟩
 have hT5 : (⟨h, g, d, t, os⟩ : Shared).TypeIs (.builtin "list.append") "method_descriptor" := F.type_list_append
 have f4 := At.ap
 have f5 := F.type_list_append
 have f6 := At.get
 have f7 := At.set
 have f8 := At.del
 repeat (any_goals (first | assumption | wp_step))
 all_goals (try refine append_get hx rfl ?_)
 all_goals repeat (any_goals (first | assumption | wp_step))
theorem append_call {tk : Tok} {R : Result → Shared → Prop} (hx : h.get? a = some o) (hc : o.cls = .type "list") (hd : o.dict = none) (hda : ∃ xs k, o.data = .seq xs k) (hq : R (.ok (.ret (.ref h.objs.size))) ⟨h.push (methOf a), g, d, t, os⟩) :
  codeAny (model prog w) A (.call (.builtin "list.__getattribute__") ⟨[.ref a, .str "append" tk], []⟩) R ⟨h, g, d, t, os⟩ :=
 codeAny_call_builtin F.slot_list_getattribute.plain F.entry_list_ga (F.slot_list_getattribute.check _ _ _ _ _ _ _ _ (show (⟨h, g, d, t, os⟩ : Shared).TypeIs (.ref a) "list" from ⟨_, hx, hc⟩) (F.args_list_getattribute_2 _ _) (append_entry hx hc hd hda hq))
theorem append_attr {Q : Value → Shared → Prop} (hx : h.get? a = some o) (hc : o.cls = .type "list") (hd : o.dict = none) (hda : ∃ xs k, o.data = .seq xs k) (hq : Q (.ref h.objs.size) ⟨h.push (methOf a), g, d, t + 1, os⟩) :
  wpAny (model prog w) A (getAttr (.ref a) "append" true) Q E ⟨h, g, d, t, os⟩ := by
 obtain ⟨c, dct, dat, sl⟩ := o
 obtain ⟨xs, k, hda⟩ := hda
 simp only at hc hd hda
 subst hc hd hda
 have hT : ∀ tk', (⟨h, g, d, tk', os⟩ : Shared).TypeIs (.ref a) "list" := fun _ => ⟨_, hx, rfl⟩
 have f2 := F.slot_list_getattribute.lookup
 have f3 := F.slot_list_getattribute.bind (.ref a)
 unfold getAttr getAttrBy
 repeat (any_goals (first | assumption | exact hT _ | wp_step))
 all_goals (try refine append_call hx rfl rfl ⟨_, _, rfl⟩ ?_)
 all_goals repeat (any_goals (first | assumption | wp_step))
theorem append_bound {m a : Addr} {om : Obj} {xs : Array Value} {k : Nat} {v : Value} {s : Shared} {Q : Value → Shared → Prop} (hm : s.heap.get? m = some om) (hmc : om.cls = .type "builtin_function_or_method") (hmd : ∃ vs, om.data = .fields vs ∧ vs[0]? = some (.builtin "list.append") ∧ vs[1]? = some (.ref a))
  (hx : s.heap.get? a = some (listOf xs k)) (hsz : xs.size ≤ sizeLine) (hq : Q .none { s with heap := s.heap.update a (Obj.mapSeq fun x => x.push v) }) :
  wpAny (model prog w) A (call (.ref m) [v]) Q E s := by
 refine xEAA hmd fun vs hvs h0 h1 => ?_
 refine wpAny_call (codeAny_of_tree ?_)
 show wpAny _ A.in1 (callAny (.ref m) ⟨[v], []⟩) _ _ s
 unfold callAny
 refine wpAny_bind (wpAny_load hm ?_)
 rw [hvs]
 dsimp only
 rw [hmc]
 refine wpAny_ite_true (by decide) ?_
 rw [h0, h1]
 dsimp only
 refine wpAny_ite_true (by decide) ?_
 have hT : s.TypeIs (.ref a) "list" := ⟨_, hx, rfl⟩
 have hchk := F.args_list_append_2 (.ref a) v
 refine wpAny_bind ?_
 unfold checkBoundCall
 unfold argsOk at hchk
 rw [At.sig] at hchk ⊢
 dsimp only at hchk ⊢
 rw [At.kind]
 dsimp only
 refine wpAny_ite_false (by decide) ?_
 refine wpAny_bind (wpAny_isInstance (T := "list") (b := false) hT (by rw [isSubtype_type]; kernel_rfl) ?_)
 refine wpAny_ite_false (by decide +kernel) ?_
 refine wpAny_bind ?_
 show wpAny _ _ (do return match (← loadHead a).data with | .cls _ => true | _ => false) _ _ _
 refine wpAny_bind (wpAny_loadPart hx (wpAny_pure ?_))
 refine wpAny_ite_false rfl ?_
 refine wpAny_bind (wpAny_typeOf hT ?_)
 dsimp only
 rw [At.full]
 refine wpAny_of_eq hchk ?_
 refine wpAny_pure ⟨plainId_quiet F.slot_list_append.plain _, codeAny_builtin F.entry_list_append ?_⟩
 exact PySem.AutoListH.list_append_list_val_0 a xs k v hsz prog w _ (fun r s' => match r with | .ok (.ret v) => Q v s' | .ok _ => False | .error e => E e s') _ ⟨hx, hq⟩
end
variable {W : Wd} {R : Rs} {k : Nat}
noncomputable def pAttrApp (f : PE) : PE := fun l h => (f l h).bind fun p => match p.1 with
 | .ref n => match p.2[n]? with
  | some (.list _) => some (.ref p.2.length, p.2 ++ [.meth n])
  | _ => none
 | _ => none
theorem EvOK.attrApp {o : Expr} {pos : Pos} {f : PE} (hbase : ∀ env, attributeBase o "append" env (eval o env) = eval o env) (ho : EvOK W R k o f) : EvOK W R k (.Attribute o "append" pos) (pAttrApp f) := by
 intro A fs env locs l G ρ σ s cx eo hl st v σ' ev Q E hQ
 refine bindP ev fun x σ₁ e1 ev => ?_
 rw [arm_eval_Attribute, hbase]
 refine wpAny_bind (ho A fs env locs l G ρ σ s cx eo hl st x σ₁ e1 _ E fun ρ₁ s₁ c₁ le₁ r₁ st₁ => wpAny_bind (wpAny_standAt (wpAny_bind (wpAny_holding ?_))))
 dsimp only at ev
 split at ev
 ·refine xEA r₁ fun a ea hrf => ?_; subst hrf
  split at ev
  ·rename_i hx
   replace hQ := hQ.t2 ev
   refine xEEAAEEA (st₁.at hx) fun a' o ea' ho vs n' hrf hv => ?_; subst hrf
   rw [ea] at ea'; replace ho := t1 ea' ▸ ho
   refine append_attr (g := s₁.gens) (d := s₁.drawn) (os := s₁.os) ho rfl rfl ⟨_, _, rfl⟩ (wpAny_bind (wpAny_letTemporaryGo (wpAny_pure ?_)))
   refine hQ _ _ _ (le₁.trans (Le.app _ _)) (new_ref st₁) (st₁.alloc (tk := s₁.toks + 1) rfl ?_)
   exact ⟨a, Le.app _ _ _ _ ea, rfl, _, rfl, rfl, rfl⟩
  ·exact nn ev
 ·exact nn ev
noncomputable def fMeth (m : Nat) : PF := fun args h => match args with
 | [y] => match h[m]? with
  | some (.meth n) => mAppend (.ref n) [y] h
  | _ => none
 | _ => none
noncomputable def pCallM (i : Nat) (fs : List PE) : PE := fun l h => match l[i]? with
 | some (.ref m) => pCall (fMeth m) fs l h
 | _ => none
theorem EvOK.callM {x : Str} {np pos : Pos} {i : Nat} {es : List Expr} {fs' : List PE} (e : R.slots.lookup x = some i) (hd : (x == ("__debug__" : Str)) = false) (hcd : (x == ("__classdict__" : Str)) = false) (h : EvsOK W R k es fs') :
  EvOK W R k (.Call (.Name x np) es [] pos) (pCallM i fs') := by
 intro A fs env locs l G ρ σ s cx eo hl st v σ' ev Q E hQ
 unfold pCallM at ev
 split at ev
 ·rename_i m hm
  refine Call_ ?_
  refine EvOK.var (k := k) e hd hcd A fs env locs l G ρ σ s cx eo hl st (.ref m) σ (by unfold pVar; rw [hm]) _ E fun ρ₁ s₁ c₁ le₁ r₁ st₁ => ?_
  refine xEA r₁ fun am em hrf => ?_; subst hrf
  refine callWith_ok (first := []) h cx eo hl st₁ (F := fMeth m) (fun s₂ ρ₂ σ₂ xs le₂ hs st₂ => ?_) (fun ρ₂ σ₂ s₂ args cargs le₂ st₂ r₂ => ?_) v σ' ev Q E fun ρ₂ s₂ c le₂ => hQ ρ₂ s₂ c (le₁.trans le₂)
  ·unfold fMeth at hs
   split at hs
   ·split at hs
    ·rename_i n hn
     obtain ⟨a', o, ea', ho, b, eb, hc, vs, hvs, h0, h1⟩ := st₂.at hn
     rw [le₂ _ _ em] at ea'; replace ho := t1 ea' ▸ ho
     refine ⟨.machine, .inr (.inl rfl), ?_⟩
     intro A Q E s' hk hq
     unfold keeperOf
     refine wpAny_bind (wpAny_load (hk _ _ ho) ?_)
     rw [hvs]
     dsimp only
     rw [hc]
     exact wpAny_pure hq
    ·cases hs
   ·cases hs
  ·intro v σ' ev Q E hQ
   unfold fMeth at ev
   split at ev
   ·rename_i y
    refine xEEAA r₂.cons_of fun cy us hrf r1 r2 => ?_; subst hrf
    cases r2.nil_of
    split at ev
    ·rename_i n hn
     obtain ⟨a', o, ea', ho, b, eb, hc, vs, hvs, h0, h1⟩ := st₂.at hn
     rw [le₂ _ _ em] at ea'; replace ho := t1 ea' ▸ ho
     unfold mAppend at ev
     dsimp only at ev
     split at ev
     ·rename_i xs hx
      split at ev
      ·rename_i hz
       cases ev
       refine xEEAAEEA (st₂.at hx) fun a'' o' ea'' ho' vs' n' hrf hv => ?_; subst hrf
       rw [eb] at ea''; replace ho' := t1 ea'' ▸ ho'
       have hlen := hv.length
       refine append_bound ho hc ⟨vs, hvs, h0, h1⟩ ho' (by simp; rw [sizeLine_eq]; exact o10 hz hlen) ?_
       exact hQ ρ₂ _ _ (Le.refl _) rfl (st₂.updList eb ho' _ (vs' := vs' ++ [cy]) (by simp) (hv.app ⟨r1, trivial⟩))
      ·exact nn ev
     ·exact nn ev
    ·exact nn ev
   ·exact nn ev
 ·exact nn ev
end LF
noncomputable section LG
open PySem PySem.W PySem.Calls PyProof.Rows
variable {W : Wd} {R : Rs} {k : Nat}
noncomputable def pFmt (f : PE) : PE := fun l h => (f l h).bind fun p => match p.1 with
 | .str t => if t.length ≤ 1000000 then some (.str t, p.2) else none
 | _ => none
theorem EvOK.fmt {e : Expr} {pos : Pos} {f : PE} (h : EvOK W R k e f) : EvOK W R k (.FormattedValue e (-1) none pos) (pFmt f) := by
 intro A fs env locs l G ρ σ s cx eo hl st v σ' ev Q E hQ
 refine bindP ev fun x σ₁ e1 e2 => ?_
 refine FormattedValue_plain (h A fs env locs l G ρ σ s cx eo hl st x σ₁ e1 _ E fun ρ₁ s₁ c₁ le₁ r₁ st₁ => ?_)
 dsimp only at e2
 split at e2
 ·split at e2
  ·rename_i hz
   cases e2
   obtain ⟨t, rfl⟩ := r₁
   exact wpAny_with_toks (n := 1) st₁.tk (formatField_str (fun t' tk hk => hQ ρ₁ _ _ le₁ ⟨_, rfl⟩ (st₁.toks _ hk)) (by rw [str_length, sizeLine_eq]; exact zG hz (by decide)))
  ·exact nn e2
 ·exact nn e2
noncomputable def pJoin3 (f g i : PE) : PE := fun l h => (f l h).bind fun p => (g l p.2).bind fun q => (i l q.2).bind fun r => match p.1, q.1, r.1 with
 | .str a, .str b, .str c => if a.length + b.length + c.length ≤ 1000000 then some (.str (a ++ b ++ c), r.2) else none
 | _, _, _ => none
theorem EvOK.fstr {e1 e2 e3 : Expr} {pos : Pos} {f g i : PE} (h1 : EvOK W R k e1 f) (h2 : EvOK W R k e2 g) (h3 : EvOK W R k e3 i) : EvOK W R k (.JoinedStr [e1, e2, e3] pos) (pJoin3 f g i) := by
 intro A fs env locs l G ρ σ s cx eo hl st v σ' ev Q E hQ
 refine bindP ev fun x σ₁ q1 ev => ?_
 refine bindP ev fun y σ₂ q2 ev => ?_
 refine bindP ev fun z σ₃ q3 ev => ?_
 dsimp only at ev
 split at ev
 ·rename_i a b c
  split at ev
  ·rename_i hz
   cases ev
   refine JoinedStr_many (joinParts_cons (h1 A fs env locs l G ρ σ s cx eo hl st _ σ₁ q1 _ E fun ρ₁ s₁ c₁ le₁ r₁ st₁ => ?_))
   obtain ⟨t1, rfl⟩ := r₁
   have z0 : (Str.empty : Str) = ⟨([] : List Nat).toArray⟩ := rfl
   refine ⟨by rw [z0, str_append, str_length, sizeLine_eq]; simp; exact o56 (o56 (zG hz (by decide))), joinParts_cons (h2 A fs env locs l G ρ₁ σ₁ s₁ cx eo hl st₁ _ σ₂ q2 _ E fun ρ₂ s₂ c₂ le₂ r₂ st₂ => ?_)⟩
   obtain ⟨t2, rfl⟩ := r₂
   refine ⟨by rw [z0, str_append, str_append, str_length, sizeLine_eq]; simp; exact o56 (zG hz (by decide)), joinParts_cons (h3 A fs env locs l G ρ₂ σ₂ s₂ cx eo hl st₂ _ _ q3 _ E fun ρ₃ s₃ c₃ le₃ r₃ st₃ => ?_)⟩
   obtain ⟨t3, rfl⟩ := r₃
   refine ⟨by rw [z0, str_append, str_append, str_append, str_length, sizeLine_eq]; simp; exact o36 hz, joinParts_nil ?_ (by rw [z0, str_append, str_append, str_append, str_length, sizeLine_eq]; simp; exact o36 hz)⟩
   refine hQ ρ₃ _ _ (le₁.trans (le₂.trans le₃)) ⟨s₃.toks, ?_⟩ (st₃.toks _)
   rw [z0, str_append, str_append, str_append]
   simp
  ·exact nn ev
 ·exact nn ev
noncomputable def isort : List Nat → List Nat
 | [] => []
 | x :: r => ins x (isort r)
where ins (x : Nat) : List Nat → List Nat
 | [] => [x]
 | y :: r => if x ≤ y then x :: y :: r else y :: ins x r
theorem ins_perm (x : Nat) : ∀ r, (isort.ins x r).Perm (x :: r)
 | [] => .refl _
 | y :: r => by
  unfold isort.ins
  split
  ·exact .refl _
  ·exact ((ins_perm x r).cons y).trans (.swap x y r)
theorem isort_perm : ∀ t, (isort t).Perm t
 | [] => .refl _
 | x :: r => (ins_perm x _).trans ((isort_perm r).cons x)
theorem ins_sorted (x : Nat) : ∀ r : List Nat, r.Pairwise (· ≤ ·) → (isort.ins x r).Pairwise (· ≤ ·)
 | [], _ => by simp [isort.ins]
 | y :: r, h => by
  unfold isort.ins
  split
  ·rename_i hx
   refine List.pairwise_cons.mpr ⟨fun z hz => ?_, h⟩
   rcases zN hz with rfl | hz
   ·exact hx
   ·exact zG hx (List.rel_of_pairwise_cons h hz)
  ·rename_i hx
   refine List.pairwise_cons.mpr ⟨fun z hz => ?_, ins_sorted x r (List.pairwise_cons.mp h).2⟩
   rcases zN ((ins_perm x r).mem_iff.mp hz) with rfl | hz
   ·exact Nat.le_of_not_le hx
   ·exact List.rel_of_pairwise_cons h hz
theorem isort_sorted : ∀ t, (isort t).Pairwise (· ≤ ·)
 | [] => .nil
 | x :: r => ins_sorted x _ (isort_sorted r)
noncomputable def fSorted : PF
 | [.str t], h => if t.length < 64 then some (.ref h.length, h ++ [.list ((isort t).map fun c => .str [c])]) else none
 | _, _ => none
theorem risingS_of {p : Str} : ∀ {l : List Str}, risingS p l = true → (p :: l).Pairwise (fun a b => ¬ b.cps.toList < a.cps.toList)
 | [], _ => by simp
 | x :: r, h => by
  have h' : (!Spec.ltCps x.cps.toList p.cps.toList && risingS x r) = true := h
  rw [ltCps_eq] at h'
  simp only [Bool.and_eq_true, Bool.not_eq_true', decide_eq_false_iff_not] at h'
  have ih := risingS_of h'.2
  refine List.pairwise_cons.mpr ⟨fun z hz => ?_, ih⟩
  rcases zN hz with rfl | hz
  ·exact h'.1
  ·have h3 := List.rel_of_pairwise_cons ih hz
   exact List.not_lt.mpr (List.le_trans (List.not_lt.mp h'.1) (List.not_lt.mp h3))
theorem sortedS_of {l : List Str} (h : sortedS l = true) : l.Pairwise (fun a b => ¬ b.cps.toList < a.cps.toList) := by
 cases l with
 | nil => exact .nil
 | cons p l => exact risingS_of h
theorem sorted_one {t : List Nat} {ss : List Str} (hp : ss.Perm (t.map fun c => ⟨#[c]⟩)) (hs : sortedS ss = true) : ss = (isort t).map fun c => ⟨#[c]⟩ := by
 have hp2 : ss.Perm ((isort t).map fun c => (⟨#[c]⟩ : Str)) := hp.trans ((isort_perm t).map _).symm
 refine List.Perm.eq_of_pairwise (le := fun a b => ¬ b.cps.toList < a.cps.toList) (fun a b ha hb h1 h2 => ?_) (sortedS_of hs) ?_ hp2
 ·refine xEA (List.mem_map.mp (hp.mem_iff.mp ha)) fun x _ hrf => ?_; subst hrf
  refine xEA (List.mem_map.mp hb) fun y _ hrf => ?_; subst hrf
  simp only [Str.mk.injEq] at *
  have : x = y := by
   simp [List.cons_lt_cons_iff] at h1 h2
   exact Nat.le_antisymm h1 h2
  rw [this]
 ·rw [List.pairwise_map]
  refine (isort_sorted t).imp fun {a b} h => ?_
  simp [List.cons_lt_cons_iff]
  omega
theorem strsOfVals : ∀ {t : List Nat} {vs : List Value}, vs.length = t.length → (∀ j v, vs[j]? = some v → SignAt ⟨t.toArray⟩ j v) → StrsAre vs (t.map fun c => ⟨#[c]⟩) := by
 intro t
 induction t with
 | nil => intro vs hl _; rw [List.length_eq_zero_iff.mp hl]; exact .nil
 | cons c t ih =>
  intro vs hl h
  obtain ⟨v, vs, rfl⟩ := List.exists_cons_of_length_eq_add_one hl
  refine xEEA (h 0 v rfl) fun c' u e hrf => ?_; subst hrf
  simp at e
  subst e
  refine .cons _ _ (ih (Nat.succ.inj hl) fun j v e => ?_)
  refine xEEA (h (j + 1) v e) fun c'' u' e' hrf => ?_; subst hrf
  exact ⟨c'', u', by simpa using e', rfl⟩
theorem strs_back {ρ : List Addr} : ∀ {t : List Nat} {vs : List Value}, StrsAre vs (t.map fun c => ⟨#[c]⟩) → VRs ρ (t.map fun c => .str [c]) vs
 | [], _, h => by cases h; trivial
 | c :: t, _, h => by
  cases h with
  | cons y u r => exact ⟨⟨_, rfl⟩, strs_back r⟩
theorem sorted_fun : FunOK W "sorted" fSorted := by
 intro A G ρ σ s args cargs hh hu hd st ra v σ' ev Q E hQ
 unfold fSorted at ev
 split at ev
 ·rename_i t
  refine xEEAA ra.cons_of fun c1 us hrf r1 r2 => ?_; subst hrf
  cases r2.nil_of
  obtain ⟨tk, rfl⟩ := r1
  split at ev
  ·rename_i hz
   replace hQ := hQ.t2 ev
   refine Calls.call_function_entry kind_sorted plain_sorted entry_sorted (args_sorted1 _) ?_
   unfold Builtin.«sorted»
   refine wpAny_bind (m := checkCount "sorted" 1 1 _) (wpAny_pure ?_)
   refine wpAny_bind ?_
   show wpAny _ _ (collect (.str ⟨t.toArray⟩ tk)) _ _ _
   refine wpAny_with_toks (n := 1) st.tk (wpAny_collect_str (show A.in1.handled = none from hh) ⟨t.toArray⟩ tk (fun s' acc hk hg hdr hos hI hk1 => ?_) (by rw [sizeLine_eq]; show t.toArray.size ≤ _; simp; exact Nat.le_of_lt (zK hz (by decide))))
   have hI' : ItemsOf (SignAt ⟨t.toArray⟩) acc t.length := by simpa using hI
   have hS : StrsAre acc.toList (t.map fun c => ⟨#[c]⟩) := strsOfVals (by rw [Array.length_toList]; exact hI'.1) fun j v e => hI'.2 j v (by simpa using e)
   have hlen : acc.toList.length = t.length := by rw [Array.length_toList]; exact hI'.1
   generalize acc.toList = vs at hS hlen
   have st' : St W ρ σ G s' := by
    have := (st.keeps (h' := s'.heap) (tk := s'.toks) hk hk1).gens' (g := s'.gens) (by rw [hg]; exact st.gens)
    obtain ⟨hp', g', d', t', os'⟩ := s'
    dsimp only at hg hdr hos
    subst hos
    exact ⟨this.stays, this.os, this.gens, this.len, this.objs, this.fresh, this.nodup, this.locs, this.lfresh, this.apart, this.tk⟩
   refine wpAny_bind (wpAny_newList ?_ (by rw [sizeLine_eq]; lia))
   have hoL : (s'.heap.push (seqObj "list" vs.toArray 0)).get? s'.heap.objs.size = some (seqObj "list" vs.toArray 0) := Heap.get?_push_size _ rfl
   refine wpAny_bind (wpAny_holding (wpAny_call_entry slot_list_sort (s := { s' with heap := s'.heap.push (seqObj "list" vs.toArray 0) }) ⟨_, hoL, rfl⟩ entry_list_sort
    (list_sort_treeK strKind_oneLt hoL hS.keysOf (fun v₁ v₂ rest e => keyKind_strs (by rw [← e]; exact hS)) (by exact o51 hlen hz) fun sst hp hs => ⟨_, rfl, ?_⟩) (args_list_sort _)))
   refine wpAny_pure ⟨_, rfl, ?_⟩
   refine xEAA (sorted_out_str hS hp hs) fun ss' h1 h2 h3 => ?_
   rw [sorted_one h2 h3] at h1
   obtain ⟨e, he⟩ := sortedHeap_at (out := (arrOf sst).map (·.2)) hoL
   have hsz : s'.heap.objs.size < (s'.heap.push (seqObj "list" vs.toArray 0)).objs.size := by rw [size_push']; exact Nat.lt_succ_self _
   refine hQ _ _ _ (Le.app ρ [s'.heap.objs.size]) (new_refAt st' _) (st'.allocAt (tk := s'.toks) (Nat.le_refl _) (fun b o hb => ?_) he ?_ st'.tk)
   ·have hlt := Heap.lt_size hb
    rw [sortedHeap_old (Nat.ne_of_lt hlt) (by rw [size_push']; exact Nat.lt_succ_of_lt hlt)]
    exact Heap.get?_push_of_some _ hb
   ·exact ⟨((arrOf sst).map (·.2)).toList, e, by rw [Array.toArray_toList], strs_back h1⟩
  ·exact nn ev
 ·exact nn ev
end LG
noncomputable section LH
open PySem PySem.W PySem.Calls PyProof.Rows
namespace Ob
theorem mro : mroOf (.type "object") = pure [.type "object"] := by rw [mroOf_type]; kernel_rfl
theorem new : typeLookup (.type "object") "__new__" = pure (some (.builtin "object.__new__")) := by rw [typeLookup_type, builtinLookup_eq_fast]; kernel_rfl
theorem sub : isSubtype (.type "object") (.type "object") = pure true := by rw [isSubtype_type]; kernel_rfl
theorem called : TypeCalled "object" "object.__new__" "object.__init__" :=
 ⟨by decide +kernel, by decide +kernel, ⟨_, _, mro⟩, madeBy_type mro new (by decide +kernel), by decide +kernel, sub, F.slot_object_init⟩
theorem typeCall : checkTypeCall "object" ⟨[], []⟩ = pure () := by kernel_rfl
theorem newCall : checkBuiltinCall "object.__new__" ⟨[.type "object"], []⟩ = pure () := by kernel_rfl
theorem entry : entryFor table "object.__new__" = some Builtin.«object.__new__» := entryFor_of_tree (by kernel_rfl)
theorem plain : plainId "object.__new__" = true := by decide +kernel
theorem made : Bind.madeHere "object.__new__" (.type "object") = pure () := by kernel_rfl
theorem noNew : ((Manifest.find? "object").elim false (·.mro.any fun t => (Manifest.find? t).elim false (·.noNew))) = false := by decide +kernel
theorem dict : typeHasDict (.type "object") = false := by decide +kernel
theorem dies : diesByItsTypesDel "object" = false := by decide +kernel
theorem args : ∀ a, argsOk "object.__init__" ⟨[a], []⟩ := by intro a; unfold argsOk; kernel_rfl
end Ob
section
variable {prog : Program} {w : World} {A : Around} {E : Value → Shared → Prop} {s : Shared}
theorem call_object {Q : Value → Shared → Prop} (h : Q (.ref s.heap.objs.size) { s with heap := s.heap.push { cls := .type "object", data := .plain } }) :
  wpAny (model prog w) A (call (.type "object") []) Q E s := by
 refine callType_codes (Q₁ := fun obj s₁ => obj = .ref s.heap.objs.size ∧ s₁ = { s with heap := s.heap.push { cls := .type "object", data := .plain } }) Ob.called Ob.typeCall F.entry_object_init ?_ fun obj s₁ h₁ => ?_
 ·refine codeAny_of_tree ?_
  show wpAny _ A.in1.in1 (do checkBuiltinCall "object.__new__" ⟨[.type "object"], []⟩; again (.builtin "object.__new__" ⟨[.type "object"], []⟩)) _ _ s
  refine wpAny_bind (wpAny_of_eq Ob.newCall (wpAny_pure ⟨plainId_quiet Ob.plain _, codeAny_builtin Ob.entry ?_⟩))
  have f1 := Ob.made
  unfold Builtin.«object.__new__»
  dsimp only
  refine wpAny_bind (m := isType (.type "object")) (wpAny_pure ?_)
  refine wpAny_ite_false rfl ?_
  refine wpAny_ite_false Ob.noNew ?_
  refine wpAny_bind (wpAny_of_eq Ob.made ?_)
  refine wpAny_ite_false rfl ?_
  refine wpAny_ite_false Ob.dict ?_
  refine wpAny_bind (wpAny_pure ?_)
  refine wpAny_bind (wpAny_newObj_type ?_)
  refine wpAny_ite_false Ob.dies ?_
  exact wpAny_pure ⟨rfl, rfl⟩
 ·obtain ⟨rfl, rfl⟩ := h₁
  refine ⟨⟨_, Heap.get?_push_size _ rfl, rfl⟩, Ob.args _, ?_⟩
  show wpAny _ _ (ret .none) _ _ _
  exact wpAny_pure ⟨rfl, h⟩
end
variable {W : Wd} {R : Rs} {k : Nat}
noncomputable def fObject : PF
 | [], h => some (.ref h.length, h ++ [.obj])
 | _, _ => none
theorem object_typ : TypOK W "object" fObject := by
 intro A G ρ σ s args cargs hh hu hd st ra v σ' ev Q E hQ
 unfold fObject at ev
 split at ev
 ·cases ra.nil_of
  replace hQ := hQ.t2 ev
  exact call_object (hQ _ _ _ (Le.app ρ _) (new_ref st) (st.alloc (tk := s.toks) rfl rfl st.tk))
 ·exact nn ev
end LH
noncomputable section LI
open PySem PySem.W PySem.Calls PyProof.Rows
inductive AF where
 | nxt | brk | cont | ret (v : AV)
noncomputable def FR (ρ : List Addr) : AF → Flow → Prop
 | .nxt, f => f = .next
 | .brk, f => f = .brk
 | .cont, f => f = .cont
 | .ret v, f => ∃ c, f = .ret c ∧ VR ρ v c
noncomputable abbrev PS := List AV → AH → Option (AF × List AV × AH)
variable {W : Wd} {R : Rs} {k : Nat}
noncomputable abbrev ContS (W : Wd) {α β : Type} (rel : List Addr → β → α → Prop) (locs : List Loc) (l : List AV) (G : List (Loc × AV)) (ρ : List Addr) (v : β) (l' : List AV) (σ' : AH) (Q : α → Shared → Prop) : Prop :=
 ∀ ρ' s' c, Le ρ ρ' → rel ρ' v c → l'.length = l.length → St W ρ' σ' (locs.zip l' ++ G) s' → Q c s'
theorem ContS.r3 {W : Wd} {α β : Type} {rel : List Addr → β → α → Prop} {locs : List Loc} {l : List AV} {G : List (Loc × AV)} {ρ : List Addr} {v v' : β} {l₁ l' : List AV} {σ σ' : AH} {Q : α → Shared → Prop} (h : ContS W rel locs l G ρ v' l' σ' Q) (e : (v, l₁, σ) = (v', l', σ')) :
  ContS W rel locs l G ρ v l₁ σ Q := r3a e ▸ r3b e ▸ r3c e ▸ h
theorem ContS.t3 {W : Wd} {α β : Type} {rel : List Addr → β → α → Prop} {locs : List Loc} {l : List AV} {G : List (Loc × AV)} {ρ : List Addr} {v v' : β} {l₁ l' : List AV} {σ σ' : AH} {Q : α → Shared → Prop} (h : ContS W rel locs l G ρ v' l' σ' Q) (e : some (v, l₁, σ) = some (v', l', σ')) :
  ContS W rel locs l G ρ v l₁ σ Q := h.r3 (Option.some.inj e)
noncomputable def CompS (W : Wd) {α β : Type} (rel : List Addr → β → α → Prop) (A : Around) (m : Sem α) (locs : List Loc) (l : List AV) (G : List (Loc × AV)) (ρ : List Addr) (s : Shared) (r : Option (β × List AV × AH)) : Prop :=
 ∀ v l' σ', r = some (v, l', σ') → ∀ (Q : α → Shared → Prop) (E : Value → Shared → Prop), ContS W rel locs l G ρ v l' σ' Q → wpAny (model W.prog W.w) A m Q E s
noncomputable def ExOK (W : Wd) (R : Rs) (k : Nat) (st : Stmt) (f : PS) : Prop :=
 ∀ A fs env locs l G ρ σ s, CxA A k fs (locs ++ G.map (·.1)) → EnvOK R env locs → fs.head? = some env → l.length = locs.length → St W ρ σ (locs.zip l ++ G) s → CompS W FR A (exec st env) locs l G ρ s (f l σ)
noncomputable def FsOK (W : Wd) (R : Rs) (k : Nat) (sts : List Stmt) (f : PS) : Prop :=
 ∀ A fs env locs l G ρ σ s, CxA A k fs (locs ++ G.map (·.1)) → EnvOK R env locs → fs.head? = some env → l.length = locs.length → St W ρ σ (locs.zip l ++ G) s → CompS W FR A (execs sts env) locs l G ρ s (f l σ)
theorem ExOK.dead {st : Stmt} : ExOK W R k st (fun _ _ => none) := by
 intro A fs env locs l G ρ σ s cx eo hfe hl st v l' σ' ev
 cases ev
theorem FsOK.dead {st : List Stmt} : FsOK W R k st (fun _ _ => none) := by
 intro A fs env locs l G ρ σ s cx eo hfe hl st v l' σ' ev
 cases ev
noncomputable def sNil : PS := fun l h => some (.nxt, l, h)
noncomputable def sSeq (f g : PS) : PS := fun l h => (f l h).bind fun p => match p.1 with | .nxt => g p.2.1 p.2.2 | o => some (o, p.2.1, p.2.2)
theorem FsOK.nil : FsOK W R k [] sNil := by
 intro A fs env locs l G ρ σ s cx eo hfe hl st v l' σ' ev Q E hQ
 cases ev
 exact wpAny_execs_nil (hQ ρ s _ (Le.refl _) rfl rfl st)
theorem FsOK.cons {st : Stmt} {sts : List Stmt} {f g : PS} (h1 : ExOK W R k st f) (h2 : FsOK W R k sts g) : FsOK W R k (st :: sts) (sSeq f g) := by
 intro A fs env locs l G ρ σ s cx eo hfe hl st v l' σ' ev Q E hQ
 refine bindP3 ev fun fl l₁ σ₁ e1 e2 => ?_
 refine wpAny_execs_cons (h1 A fs env locs l G ρ σ s cx eo hfe hl st fl l₁ σ₁ e1 _ E fun ρ₁ s₁ c₁ le₁ r₁ hl₁ st₁ => ?_)
 cases fl with
 | nxt =>
  cases r₁
  exact h2 A fs env locs l₁ G ρ₁ σ₁ s₁ cx eo hfe (hl₁.trans hl) st₁ v l' σ' e2 Q E fun ρ₂ s₂ c₂ le₂ r₂ hl₂ => hQ ρ₂ s₂ c₂ (le₁.trans le₂) r₂ (hl₂.trans hl₁)
 | brk => cases r₁; cases e2; exact hQ ρ₁ s₁ _ le₁ rfl hl₁ st₁
 | cont => cases r₁; cases e2; exact hQ ρ₁ s₁ _ le₁ rfl hl₁ st₁
 | ret v =>
  refine xEA r₁ fun c hrf rc => ?_; subst hrf
  cases e2; exact hQ ρ₁ s₁ _ le₁ ⟨c, rfl, rc⟩ hl₁ st₁
structure StoreAt (R : Rs) (x : Str) (i : Nat) : Prop where
 slot : R.slots.lookup x = some i
 own : R.loc.contains x = true ∨ R.cel.contains x = true
theorem store_ok {A : Around} {env : Env} {locs : List Loc} {l : List AV} {G : List (Loc × AV)} {ρ : List Addr} {σ : AH} {s : Shared} (eo : EnvOK R env locs) (hl : l.length = locs.length) (st : St W ρ σ (locs.zip l ++ G) s)
  {x : Str} {i : Nat} {v : AV} {c : Value} (hx : StoreAt R x i) (r : VR ρ v c) {Q : Unit → Shared → Prop} {E : Value → Shared → Prop} (hQ : ∀ s', St W ρ σ (locs.zip (l.set i v) ++ G) s' → Q () s') :
  wpAny (model W.prog W.w) A (storeName env x c) Q E s := by
 refine xEA (eo.slots x i hx.slot) fun loc el hs => ?_
 have hi : i < l.length := by rw [hl]; exact (zC el).1
 have hm : (loc, l[i]) ∈ locs.zip l ++ G := zI (zip_get el (zH hi))
 have hv := st.locs _ hm
 cases loc with
 | ns L y =>
  obtain ⟨rfl, rfl, hk⟩ := hs
  refine xEA hv fun m hn _ => ?_
  refine wpAny_storeName_local hk hn (fun h' hn' hs' => hQ _ (st.store (tk := s.toks + 1) el hi (c := c) (fun m' hm' => ?_) r)) ?_
  ·rw [ns_unique hm' hn]; exact ⟨hn', hs'⟩
  ·rw [eo.kind]; rfl
 | cell a =>
  obtain ⟨hc, hk⟩ := hs
  refine xEA hv fun cv hn _ => ?_
  have hkc : env.kindOf x = some .cell := by
   rcases hk with hk | hk
   ·exact hk
   ·rcases hx.own with h | h
    ·rw [eo.loc x h] at hk; cases hk
    ·exact eo.cel x h
  exact wpAny_storeName_cell eo.kind hkc hc hn fun h' hn' hs' => hQ _ (st.store (tk := s.toks) el hi (c := c) ⟨hn', hs'⟩ r)
 | raw _ _ => exact hs.elim
noncomputable def sAsg (i : Nat) (f : PE) : PS := fun l h => (f l h).map fun p => (.nxt, l.set i p.1, p.2)
theorem ExOK.asg {x : Str} {p pos : Pos} {e : Expr} {f : PE} {i : Nat} (hx : StoreAt R x i) (h : EvOK W R k e f) (hs : ∀ env locs, EnvOK R env locs → swapsWith e (some (.Name x p)) pos.line env = pure false) : ExOK W R k (.Assign [.Name x p] e pos) (sAsg i f) := by
 intro A fs env locs l G ρ σ s cx eo hfe hl st v l' σ' ev Q E hQ
 refine mapP ev fun y σ₁ e1 e2 => ?_
 replace hQ := hQ.r3 e2
 refine wpAny_Assign_Name (h A fs env locs l G ρ σ s cx eo hl st _ _ e1 _ E fun ρ₁ s₁ c₁ le₁ r₁ st₁ => ?_) (hs env locs eo)
 exact store_ok eo hl st₁ hx r₁ fun s' st' => hQ ρ₁ s' _ le₁ rfl (by simp) st'
noncomputable def sets (l : List AV) : List Nat → List AV → List AV
 | i :: is, v :: vs => sets (l.set i v) is vs
 | _, _ => l
theorem sets_length : ∀ (is : List Nat) (vs : List AV) (l : List AV), (sets l is vs).length = l.length
 | [], _, _ => by simp [sets]
 | i :: is, [], _ => by simp [sets]
 | i :: is, v :: vs, l => by rw [sets, sets_length is vs]; simp
theorem stores_ok {A : Around} {env : Env} {locs : List Loc} {G : List (Loc × AV)} {ρ : List Addr} {σ : AH} (eo : EnvOK R env locs) (f : Str → Value → Sem Unit) (hf : ∀ x v Q E s, wpAny (model W.prog W.w) A (storeName env x v) Q E s → wpAny (model W.prog W.w) A (f x v) Q E s) :
  ∀ (xs : List Str) (is : List Nat) (vs : List AV) (cs : List Value) (l : List AV) (s : Shared), (∀ p ∈ xs.zip is, StoreAt R p.1 p.2) → xs.length = is.length → vs.length = is.length → l.length = locs.length → VRs ρ vs cs → St W ρ σ (locs.zip l ++ G) s →
  ∀ (Q : Unit → Shared → Prop) (E : Value → Shared → Prop), (∀ s', St W ρ σ (locs.zip (sets l is vs) ++ G) s' → Q () s') → wpAny (model W.prog W.w) A (assignInOrder (xs.map f) cs) Q E s := by
 intro xs
 induction xs with
 | nil =>
  intro is vs cs l s hx h1 h2 hl r st Q E hQ
  have h1' : is = [] := List.length_eq_zero_iff.mp h1.symm
  subst h1'
  have h2' : vs = [] := List.length_eq_zero_iff.mp h2
  subst h2'
  rw [r.nil_of]; exact wpAny_pure (hQ s st)
 | cons x xs ih =>
  intro is vs cs l s hx h1 h2 hl r st Q E hQ
  cases is with
  | nil => cases h1
  | cons i is =>
   cases vs with
   | nil => cases h2
   | cons v vs =>
    refine xEEAA r.cons_of fun c cs hrf r1 r2 => ?_; subst hrf
    refine wpAny_bind (wpAny_holding (hf _ _ _ _ _ (store_ok eo hl st (hx (x, i) (by simp)) r1 fun s' st' => ?_)))
    exact ih is vs cs _ s' (fun p hp => hx p (by simp [hp])) (by simpa using h1) (by simpa using h2) (by simpa using hl) r2 st' Q E hQ
theorem VRs.reverse {ρ : List Addr} : ∀ {xs : List AV} {vs : List Value}, VRs ρ xs vs → VRs ρ xs.reverse vs.reverse
 | [], _, h => by rw [h.nil_of]; trivial
 | x :: xs, vs, h => by
  refine xEEAA h.cons_of fun v us hrf r1 r2 => ?_; subst hrf
  simp only [List.reverse_cons]
  exact r2.reverse.app ⟨r1, trivial⟩
theorem unpack_ok {A : Around} {G : List (Loc × AV)} {ρ : List Addr} {σ : AH} {s : Shared} (hh : A.handled = none) (st : St W ρ σ G s) {n : Nat} {xs : List AV} {c : Value} (hx : σ[n]? = some (.tup xs)) (r : VR ρ (.ref n) c) {m : Nat} (hm : m = xs.length)
  {Q : List Value → Shared → Prop} {E : Value → Shared → Prop} (hQ : ∀ cs s', VRs ρ xs cs → St W ρ σ G s' → Q cs s') : wpAny (model W.prog W.w) A (unpackItems c m none) Q E s := by
 refine xEA r fun a ea hrf => ?_; subst hrf
 refine xEEAAEEA (st.at hx) fun a' o ea' ho vs n' hrf hv => ?_; subst hrf
 rw [ea] at ea'; replace ho := t1 ea' ▸ ho
 have hlen := hv.length
 have hm' : m = vs.toArray.size := by simp [hm, hlen]
 subst hm'
 refine PySem.wpAny_unpackItems_tuple (t := a) (items := vs.toArray) hh ⟨_, ho, rfl, n', rfl⟩ fun h' he => ?_
 exact hQ _ _ hv (st.keeps (tk := s.toks) (fun b o e => he b o (Nat.ne_of_lt (Heap.lt_size e)) e) st.tk)
noncomputable def sSwap (is : List Nat) (f : PE) : PS := fun l h => (f l h).bind fun p => match p.1 with
 | .ref n => match p.2[n]? with
  | some (.tup xs) => if xs.length = is.length then some (.nxt, sets l is.reverse xs.reverse, p.2) else none
  | _ => none
 | _ => none
theorem ExOK.swap {elts : List Expr} {j : Nat} {tpos pos : Pos} {e : Expr} {f : PE} {names : List Str} {is : List Nat} (hx : ∀ p ∈ names.reverse.zip is.reverse, StoreAt R p.1 p.2) (hlen : names.length = is.length) (h : EvOK W R k e f)
  (hs : ∀ env, swapsWithSole [.Tuple elts j tpos] e pos.line env = pure false)
  (hw : ∀ env : Env, env.scope.kind = .function → (∀ x ∈ names, env.kindOf x = some .local) → swappedStores [.Tuple elts j tpos] e env = pure (some names)) (hloc : ∀ x ∈ names, R.loc.contains x = true) :
  ExOK W R k (.Assign [.Tuple elts j tpos] e pos) (sSwap is f) := by
 intro A fs env locs l G ρ σ s cx eo hfe hl st v l' σ' ev Q E hQ
 refine bindP ev fun y σ₁ e1 e2 => ?_
 dsimp only at e2
 split at e2
 ·rename_i n
  split at e2
  ·rename_i xs hxs
   split at e2
   ·rename_i hn
    cases e2
    refine Assign_Tuple_swapped (names := names) (h A fs env locs l G ρ σ s cx eo hl st _ _ e1 _ E fun ρ₁ s₁ c₁ le₁ r₁ st₁ => ?_) (hs env) (hw env eo.kind fun x hx => eo.loc x (hloc x hx))
    refine unpack_ok cx.handled st₁ hxs r₁ (by exact Eq.trans hlen (Eq.symm hn)) fun cs s₂ rc st₂ => ?_
    refine stores_ok (ρ := ρ₁) eo (fun n => bindName env n) (fun x v Q E s h => wpAny_bindName h) _ _ _ _ _ _ hx (by simp [hlen]) (by simp [hn]) hl rc.reverse st₂ _ _ fun s' st' => ?_
    exact hQ ρ₁ s' _ le₁ rfl (sets_length ..) st'
   ·exact nn e2
  ·exact nn e2
 ·exact nn e2
noncomputable def sUnp (is : List Nat) (f : PE) : PS := fun l h => (f l h).bind fun p => match p.1 with
 | .ref n => match p.2[n]? with
  | some (.tup xs) => if xs.length = is.length then some (.nxt, sets l is xs, p.2) else none
  | _ => none
 | _ => none
theorem assignTup_ok {A : Around} {env : Env} {locs : List Loc} {l : List AV} {G : List (Loc × AV)} {ρ : List Addr} {σ : AH} {s : Shared} (hh : A.handled = none) (eo : EnvOK R env locs) (hl : l.length = locs.length) (st : St W ρ σ (locs.zip l ++ G) s)
  {elts : List Expr} {j : Nat} {tpos : Pos} {names : List Str} {is : List Nat} {ps : List Pos} (he : assignEach elts env = (names.zip ps).map fun p => (false, assign (.Name p.1 p.2) env)) (hps : ps.length = names.length)
  (hx : ∀ p ∈ names.zip is, StoreAt R p.1 p.2) (hlen : names.length = is.length) {n : Nat} {xs : List AV} {c : Value} (hxs : σ[n]? = some (.tup xs)) (hn : xs.length = is.length) (r : VR ρ (.ref n) c)
  {Q : Unit → Shared → Prop} {E : Value → Shared → Prop} (hQ : ∀ s', St W ρ σ (locs.zip (sets l is xs) ++ G) s' → Q () s') : wpAny (model W.prog W.w) A (assign (.Tuple elts j tpos) env c) Q E s := by
 refine xEA r fun a ea hrf => ?_; subst hrf
 refine xEEAAEEA (st.at hxs) fun a' o ea' ho vs n' hrf hv => ?_; subst hrf
 rw [ea] at ea'; replace ho := t1 ea' ▸ ho
 have hlen2 := hv.length
 refine PySem.wpAny_assign_Tuple (t := a) (items := vs.toArray) hh ⟨_, ho, rfl, n', rfl⟩ ?_ ?_ fun h' hx' => ?_
 ·rw [he]; simp; lia
 ·rw [he]
  rw [List.findIdx?_eq_none_iff]
  intro x hx
  refine xEA (List.mem_map.mp hx) fun p _ hrf => ?_; subst hrf
  rfl
 ·have st' : St W ρ σ (locs.zip l ++ G) { s with heap := h', toks := s.toks } := st.keeps (fun b o e => hx' b o (Nat.ne_of_lt (Heap.lt_size e)) e) st.tk
  rw [he]
  simp only [List.map_map]
  have : ∀ {names : List Str} {is : List Nat} {ps : List Pos} {vs : List AV} {cs : List Value} {l : List AV} {s : Shared}, ps.length = names.length → (∀ p ∈ names.zip is, StoreAt R p.1 p.2) → names.length = is.length → vs.length = is.length → l.length = locs.length → VRs ρ vs cs → St W ρ σ (locs.zip l ++ G) s →
    ∀ {Q : Unit → Shared → Prop} {E : Value → Shared → Prop}, (∀ s', St W ρ σ (locs.zip (sets l is vs) ++ G) s' → Q () s') → wpAny (model W.prog W.w) A (assignInOrder ((names.zip ps).map ((fun x => x.2) ∘ fun p => (false, assign (.Name p.1 p.2) env))) cs) Q E s := by
   intro names
   induction names with
   | nil =>
    intro is ps vs cs l s h0 hx h1 h2 hl r st Q E hQ
    have h1' : is = [] := List.length_eq_zero_iff.mp h1.symm
    subst h1'
    have h2' : vs = [] := List.length_eq_zero_iff.mp h2
    subst h2'
    rw [r.nil_of]; exact wpAny_pure (hQ s st)
   | cons x xs ih =>
    intro is ps vs cs l s h0 hx h1 h2 hl r st Q E hQ
    cases is with
    | nil => cases h1
    | cons i is =>
     cases ps with
     | nil => cases h0
     | cons p ps =>
      cases vs with
      | nil => cases h2
      | cons v vs =>
       refine xEEAA r.cons_of fun c cs hrf r1 r2 => ?_; subst hrf
       refine wpAny_bind (wpAny_holding (wpAny_assign_Name (store_ok eo hl st (hx (x, i) (by simp)) r1 fun s' st' => ?_)))
       exact ih (by simpa using h0) (fun p hp => hx p (by simp [hp])) (by simpa using h1) (by simpa using h2) (by simpa using hl) r2 st' hQ
  exact this hps hx hlen hn hl (by simpa using hv) st' hQ
theorem ExOK.unp {elts : List Expr} {j : Nat} {tpos pos : Pos} {e : Expr} {f : PE} {names : List Str} {is : List Nat} {ps : List Pos} (he : ∀ env, assignEach elts env = (names.zip ps).map fun p => (false, assign (.Name p.1 p.2) env)) (hps : ps.length = names.length)
  (hx : ∀ p ∈ names.zip is, StoreAt R p.1 p.2) (hlen : names.length = is.length) (h : EvOK W R k e f) (hs : ∀ env, swapsWithSole [.Tuple elts j tpos] e pos.line env = pure false) (hw : ∀ env, swappedStores [.Tuple elts j tpos] e env = pure none) :
  ExOK W R k (.Assign [.Tuple elts j tpos] e pos) (sUnp is f) := by
 intro A fs env locs l G ρ σ s cx eo hfe hl st v l' σ' ev Q E hQ
 refine bindP ev fun y σ₁ e1 e2 => ?_
 dsimp only at e2
 split at e2
 ·rename_i n
  split at e2
  ·rename_i xs hxs
   split at e2
   ·rename_i hn
    cases e2
    refine Assign_Tuple (h A fs env locs l G ρ σ s cx eo hl st _ _ e1 _ E fun ρ₁ s₁ c₁ le₁ r₁ st₁ => ?_) (hs env) (hw env)
    exact assignTup_ok cx.handled eo hl st₁ (he env) hps hx hlen hxs hn r₁ fun s' st' => hQ ρ₁ s' _ le₁ rfl (sets_length ..) st'
   ·exact nn e2
  ·exact nn e2
 ·exact nn e2
theorem setItem_at {A : Around} {E : Value → Shared → Prop} {s : Shared} {a : Addr} {items : Array Value} {n j : Nat} {i : Int} {t : Tok} {v : Value} {Q : Unit → Shared → Prop} (ho : s.heap.get? a = some (listOf items n)) (hi : small i = true)
  (hj : seqIndex? i items.size = some j) (hQ : Q () { s with heap := s.heap.update a (Obj.mapSeq (·.setIfInBounds j v)) }) : wpAny (model W.prog W.w) A (setItem (.ref a) (.int i t) v) Q E s := by
 have hl : s.heap.IsList a items := ⟨_, ho, rfl, n, rfl⟩
 have hsm := small_lt hi
 unfold setItem
 try with_reducible refine wpAny_holding ?_
 first | refine wpAny_bind (wpAny_pure ?_) | skip
 refine wpAny_bind (wpAny_sequenceKey hl.typeIs (by decide) ?_)
 refine wpAny_bind (wpAny_callSpecial?_slot (name := Str.ofString "__setitem__") hl.typeIs slot_list_setitem
  (wpAny_call_entry slot_list_setitem hl.typeIs entry_list_setitem ?_ (args_list_setitem _ _ _)))
 show wpAny _ _ (Builtin.List.listSubscript? (.int i t) >>= _) _ _ s
 have hfit : Builtin.List.listFitsIndex i = true := by
  unfold Builtin.List.listFitsIndex
  simp only [Bool.and_eq_true, decide_eq_true_eq]
  omega
 refine wpAny_bind (wpAny_listSubscript_int hfit ?_)
 clear hfit
 have hjn : j < items.size := by
  rcases seqIndex_of hj with ⟨_, _, h⟩ | ⟨_, _, _, h⟩ <;> exact h
 have hx' : items[j]? = some items[j] := Array.getElem?_eq_getElem hjn
 cases i with
 | ofNat m =>
  have : j = m := by
   rcases seqIndex_of hj with ⟨_, h, _⟩ | ⟨h, _⟩
   ·simpa using h
   ·exact absurd h (by simp)
  subst this
  show wpAny _ _ ((seqItemAt a j >>= fun r => pure (r.map (j, ·))) >>= _) _ _ s
  refine wpAny_bind (wpAny_bind (wpAny_seqItemAt ho rfl (wpAny_pure ?_)))
  rw [hx']
  show wpAny _ _ (setSeqItemAt a j v >>= _) _ _ s
  refine wpAny_bind (wpAny_setSeqItemAt ho rfl ?_)
  first
   | exact wpAny_bind (wpAny_pure (wpAny_pure ⟨.none, rfl, wpAny_pure hQ⟩))
   | exact wpAny_pure ⟨.none, rfl, wpAny_pure hQ⟩
 | negSucc m =>
  show wpAny _ _ ((Builtin.List.listItems (.ref a) >>= fun xs => pure ((seqIndex? (Int.negSucc m) xs.size).bind fun i => xs[i]?.map (i, ·))) >>= _) _ _ s
  refine wpAny_bind (wpAny_bind ?_)
  show wpAny _ _ (seqItems? (.ref a) >>= _) _ _ s
  refine wpAny_bind (wpAny_seqItems ho rfl (wpAny_pure (wpAny_pure ?_)))
  rw [hj]
  simp only [zB, hx', zM]
  show wpAny _ _ (setSeqItemAt a j v >>= _) _ _ s
  refine wpAny_bind (wpAny_setSeqItemAt ho rfl ?_)
  first
   | exact wpAny_bind (wpAny_pure (wpAny_pure ⟨.none, rfl, wpAny_pure hQ⟩))
   | exact wpAny_pure ⟨.none, rfl, wpAny_pure hQ⟩
noncomputable def aSet (o i v : AV) (h : AH) : Option AH := match o, i with
 | .ref n, .int i => if small i then match h[n]? with
  | some (.list xs) => (seqIndex? i xs.length).map fun j => h.set n (.list (xs.set j v))
  | _ => none else none
 | _, _ => none
theorem setItem_ok {A : Around} {G : List (Loc × AV)} {ρ : List Addr} {σ σ' : AH} {s : Shared} (st : St W ρ σ G s) {o i v : AV} {co ci cv : Value} (ro : VR ρ o co) (ri : VR ρ i ci) (rv : VR ρ v cv) (ev : aSet o i v σ = some σ')
  {Q : Unit → Shared → Prop} {E : Value → Shared → Prop} (hQ : ∀ s', St W ρ σ' G s' → Q () s') : wpAny (model W.prog W.w) A (setItem co ci cv) Q E s := by
 cases o <;> cases i <;> simp only [aSet] at ev <;> try exact nn ev
 refine xEA ro fun a ea hrf => ?_; subst hrf
 obtain ⟨t, rfl⟩ := ri
 split at ev
 ·rename_i hz
  split at ev
  ·rename_i xs hx
   refine mapQ ev fun j e1 hrf => ?_; subst hrf
   refine xEEAAEEA (st.at hx) fun a' o ea' ho vs n' hrf hv => ?_; subst hrf
   rw [ea] at ea'; replace ho := t1 ea' ▸ ho
   have hlen := hv.length
   exact setItem_at ho hz (by simpa [hlen] using e1) (hQ _ (st.updList ea ho _ (vs' := vs.set j cv) (by simp) (hv.set rv)))
  ·exact nn ev
 ·exact nn ev
noncomputable def sSet (o i v : PE) : PS := fun l h => (v l h).bind fun p => (o l p.2).bind fun q => (i l q.2).bind fun r => (aSet q.1 r.1 p.1 r.2).map fun h' => (.nxt, l, h')
theorem ExOK.setIt {o i e : Expr} {p pos : Pos} {fo fi fv : PE} (ho : EvOK W R k o fo) (hi : EvOK W R k i fi) (h : EvOK W R k e fv) (hs : ∀ env, swapsWith e (some (.Subscript o i p)) pos.line env = pure false) : ExOK W R k (.Assign [.Subscript o i p] e pos) (sSet fo fi fv) := by
 intro A fs env locs l G ρ σ s cx eo hfe hl st v l' σ' ev Q E hQ
 refine bindP ev fun x σ₁ e1 ev => ?_
 refine bindP ev fun y σ₂ e2 ev => ?_
 refine bindP ev fun z σ₃ e3 ev => ?_
 refine mapQ ev fun σ₄ e4 e5 => ?_
 cases e5
 refine wpAny_Assign_Subscript (h A fs env locs l G ρ σ s cx eo hl st _ _ e1 _ E fun ρ₁ s₁ c₁ le₁ r₁ st₁ => ?_) (hs env)
 refine ho A fs env locs l G ρ₁ σ₁ s₁ cx eo hl st₁ _ _ e2 _ E fun ρ₂ s₂ c₂ le₂ r₂ st₂ => ?_
 refine hi A fs env locs l G ρ₂ σ₂ s₂ cx eo hl st₂ _ _ e3 _ E fun ρ₃ s₃ c₃ le₃ r₃ st₃ => ?_
 exact setItem_ok st₃ (r₂.mono le₃) r₃ ((r₁.mono le₂).mono le₃) e4 fun s' st' => hQ ρ₃ s' _ (le₁.trans (le₂.trans le₃)) rfl rfl st'
noncomputable def sAug (i : Nat) (op : AOp2) (f : PE) : PS := fun l h => (pVar i l h).bind fun p => (f l p.2).bind fun q => (op p.1 q.1 q.2).map fun r => (.nxt, l.set i r.1, r.2)
theorem ExOK.aug {x : Str} {p pos : Pos} {e : Expr} {f : PE} {i : Nat} {op : Operator} {o : AOp2} (hx : StoreAt R x i) (hcd : (x == ("__classdict__" : Str)) = false) (ho : OpOK W (inplaceOp op) o) (h : EvOK W R k e f) : ExOK W R k (.AugAssign (.Name x p) op e pos) (sAug i o f) := by
 intro A fs env locs l G ρ σ s cx eo hfe hl st v l' σ' ev Q E hQ
 refine bindP ev fun y σ₁ e1 ev => ?_
 refine bindP ev fun z σ₂ e2 ev => ?_
 refine mapP ev fun u σ₃ e3 e4 => ?_
 replace hQ := hQ.r3 e4
 refine xEA (eo.slots x i hx.slot) fun loc el hs => ?_
 unfold pVar at e1
 split at e1
 ·exact nn e1
 ·rename_i uu n hu
  cases e1
  have hm : (loc, y) ∈ locs.zip l ++ G := zI (zip_get el hu)
  refine wpAny_AugAssign_Name (loadName_slot eo.kind hs (st.locs _ hm) (fun q => n q) (fun c r => ?_) hcd)
  refine h A fs env locs l G ρ σ s cx eo hl st _ _ e2 _ E fun ρ₂ s₂ c₂ le₂ r₂ st₂ => ?_
  have := cx.units
  refine ho A _ ρ₂ σ₂ s₂ y z c c₂ cx.handled (by exact o0 this) (r.mono le₂) r₂ st₂ _ _ e3 _ E fun ρ₃ s₃ c₃ le₃ r₃ st₃ => ?_
  exact store_ok eo hl st₃ hx r₃ fun s' st' => hQ ρ₃ s' _ (le₂.trans le₃) rfl (by simp) st'
 ·exact nn e1
noncomputable def sAugIt (o i : PE) (op : AOp2) (f : PE) : PS := fun l h => (o l h).bind fun p => (i l p.2).bind fun q => (aItem p.1 q.1 q.2).bind fun r => (f l r.2).bind fun t => (op r.1 t.1 t.2).bind fun u => (aSet p.1 q.1 u.1 u.2).map fun h' => (.nxt, l, h')
theorem ExOK.augIt {o i e : Expr} {p pos : Pos} {fo fi fv : PE} {op : Operator} {oo : AOp2} (hop : OpOK W (inplaceOp op) oo) (ho : EvOK W R k o fo) (hi : EvOK W R k i fi) (h : EvOK W R k e fv)
  (haug : ∀ ov iv new, augStore i ov iv new = (do holding [new, ov, iv] (setItem ov iv new); release [new, ov, iv] []; pure .next)) : ExOK W R k (.AugAssign (.Subscript o i p) op e pos) (sAugIt fo fi oo fv) := by
 intro A fs env locs l G ρ σ s cx eo hfe hl st v l' σ' ev Q E hQ
 refine bindP ev fun x σ₁ e1 ev => ?_
 refine bindP ev fun y σ₂ e2 ev => ?_
 refine bindP ev fun z σ₃ e3 ev => ?_
 refine bindP ev fun u σ₄ e4 ev => ?_
 refine bindP ev fun w σ₅ e5 ev => ?_
 refine mapQ ev fun σ₆ e6 e7 => ?_
 cases e7
 have hun := cx.units
 refine wpAny_AugAssign_SubscriptAny (ho A fs env locs l G ρ σ s cx eo hl st _ _ e1 _ E fun ρ₁ s₁ c₁ le₁ r₁ st₁ => ?_) haug
 refine hi A fs env locs l G ρ₁ σ₁ s₁ cx eo hl st₁ _ _ e2 _ E fun ρ₂ s₂ c₂ le₂ r₂ st₂ => ?_
 refine getItem_ok A _ ρ₂ σ₂ s₂ x y c₁ c₂ cx.handled (by exact o0 hun) (r₁.mono le₂) r₂ st₂ _ _ e3 _ E fun ρ₃ s₃ c₃ le₃ r₃ st₃ => ?_
 refine h A fs env locs l G ρ₃ σ₃ s₃ cx eo hl st₃ _ _ e4 _ E fun ρ₄ s₄ c₄ le₄ r₄ st₄ => ?_
 refine hop A _ ρ₄ σ₄ s₄ z u c₃ c₄ cx.handled (by exact o0 hun) (r₃.mono le₄) r₄ st₄ _ _ e5 _ E fun ρ₅ s₅ c₅ le₅ r₅ st₅ => ?_
 have l2 := le₃.trans (le₄.trans le₅)
 exact setItem_ok st₅ ((r₁.mono le₂).mono l2) (r₂.mono l2) r₅ e6 fun s' st' => hQ ρ₅ s' _ (le₁.trans (le₂.trans l2)) rfl rfl st'
noncomputable def sIf (t : PB) (a b : PS) : PS := fun l h => (t l h).bind fun p => if p.1 then a l p.2 else b l p.2
theorem ExOK.ite {t : Expr} {a b : List Stmt} {pos : Pos} {tf : PB} {f g : PS} (ht : BtOK W R k t tf) (ha : FsOK W R k a f) (hb : FsOK W R k b g) : ExOK W R k (.If t a b pos) (sIf tf f g) := by
 intro A fs env locs l G ρ σ s cx eo hfe hl st v l' σ' ev Q E hQ
 refine bindP ev fun x σ₁ e1 e2 => ?_
 refine wpAny_If (ht A fs env locs l G ρ σ s cx eo hl st x σ₁ e1 _ E fun ρ₁ s₁ c₁ le₁ r₁ st₁ => ?_)
 cases r₁
 cases x with
 | true => exact ha A fs env locs l G ρ₁ σ₁ s₁ cx eo hfe hl st₁ _ _ _ e2 Q E fun ρ₂ s₂ c₂ le₂ => hQ ρ₂ s₂ c₂ (le₁.trans le₂)
 | false => exact hb A fs env locs l G ρ₁ σ₁ s₁ cx eo hfe hl st₁ _ _ _ e2 Q E fun ρ₂ s₂ c₂ le₂ => hQ ρ₂ s₂ c₂ (le₁.trans le₂)
noncomputable def sRet (f : PE) : PS := fun l h => (f l h).map fun p => (.ret p.1, l, p.2)
theorem ExOK.ret {e : Expr} {pos : Pos} {f : PE} (h : EvOK W R k e f) : ExOK W R k (.Return (some e) pos) (sRet f) := by
 intro A fs env locs l G ρ σ s cx eo hfe hl st v l' σ' ev Q E hQ
 refine mapP ev fun x σ₁ e1 e2 => ?_
 replace hQ := hQ.r3 e2
 exact wpAny_Return_some (h A fs env locs l G ρ σ s cx eo hl st _ _ e1 _ E fun ρ₁ s₁ c₁ le₁ r₁ st₁ => hQ ρ₁ s₁ _ le₁ ⟨c₁, rfl, r₁⟩ rfl st₁)
noncomputable def sExpr (f : PE) : PS := fun l h => (f l h).bind fun p => match p.1 with | .none => some (.nxt, l, p.2) | _ => none
theorem ExOK.expr {e : Expr} {pos : Pos} {f : PE} (h : EvOK W R k e f) (hs : ∀ env, swapsWith e none pos.line env = pure false) : ExOK W R k (.Expr e pos) (sExpr f) := by
 intro A fs env locs l G ρ σ s cx eo hfe hl st v l' σ' ev Q E hQ
 refine bindP ev fun x σ₁ e1 e2 => ?_
 dsimp only at e2
 split at e2
 ·cases e2
  refine wpAny_Expr (h A fs env locs l G ρ σ s cx eo hl st _ _ e1 _ E fun ρ₁ s₁ c₁ le₁ r₁ st₁ => ?_) ?_ (hs env)
  ·cases r₁; exact hQ ρ₁ s₁ _ le₁ rfl rfl st₁
  ·unfold interactive; rw [eo.kind]; rfl
 ·exact nn e2
noncomputable def sAssert (t : PB) : PS := fun l h => (t l h).bind fun p => if p.1 then some (.nxt, l, p.2) else none
theorem ExOK.assert {t : Expr} {m : Option Expr} {pos : Pos} {tf : PB} (ht : BtOK W R k t tf) : ExOK W R k (.Assert t m pos) (sAssert tf) := by
 intro A fs env locs l G ρ σ s cx eo hfe hl st v l' σ' ev Q E hQ
 refine bindP ev fun x σ₁ e1 e2 => ?_
 refine wpAny_Assert_holds (ht A fs env locs l G ρ σ s cx eo hl st x σ₁ e1 _ E fun ρ₁ s₁ c₁ le₁ r₁ st₁ => ?_)
 cases r₁
 cases x with
 | true => cases e2; exact ⟨rfl, hQ ρ₁ s₁ _ le₁ rfl rfl st₁⟩
 | false => cases e2
noncomputable def sBrk : PS := fun l h => some (.brk, l, h)
noncomputable def sCont : PS := fun l h => some (.cont, l, h)
theorem ExOK.brk {pos : Pos} : ExOK W R k (.Break pos) sBrk := by
 intro A fs env locs l G ρ σ s cx eo hfe hl st v l' σ' ev Q E hQ
 cases ev
 exact wpAny_Break (hQ ρ s _ (Le.refl _) rfl rfl st)
theorem ExOK.cont {pos : Pos} : ExOK W R k (.Continue pos) sCont := by
 intro A fs env locs l G ρ σ s cx eo hfe hl st v l' σ' ev Q E hQ
 cases ev
 exact wpAny_Continue (hQ ρ s _ (Le.refl _) rfl rfl st)
noncomputable def wLoop (t : PB) (b : PS) : Nat → PS
 | 0, _, _ => none
 | n + 1, l, h => (t l h).bind fun p => if p.1 then (b l p.2).bind fun q => match q.1 with
   | .nxt | .cont => wLoop t b n q.2.1 q.2.2
   | .brk => some (.nxt, q.2.1, q.2.2)
   | .ret v => some (.ret v, q.2.1, q.2.2)
  else some (.nxt, l, p.2)
noncomputable def FUEL : Nat := 1000000000
noncomputable def sWhile (t : PB) (b : PS) : PS := wLoop t b FUEL
theorem ExOK.while {t : Expr} {b : List Stmt} {pos : Pos} {tf : PB} {f : PS} (ht : BtOK W R k t tf) (hb : FsOK W R k b f) : ExOK W R k (.While t b [] pos) (sWhile tf f) := by
 intro A fs env locs l G ρ σ s cx eo hfe hl st v l' σ' ev Q E hQ
 refine wpAny_While ?_
 unfold sWhile at ev
 refine codeAny_whileLoop (fun n s' => ∃ ρ₁ σ₁ l₁, Le ρ ρ₁ ∧ l₁.length = l.length ∧ St W ρ₁ σ₁ (locs.zip l₁ ++ G) s' ∧ wLoop tf f n l₁ σ₁ = some (v, l', σ')) ?_ FUEL ⟨ρ, σ, l, Le.refl _, rfl, st, ev⟩
 rintro n s₁ ⟨ρ₁, σ₁, l₁, le₁, hl₁, st₁, e⟩
 cases n with
 | zero => cases e
 | succ n =>
  refine bindP e fun x σ₂ e1 e2 => ?_
  refine ht A fs env locs l₁ G ρ₁ σ₁ s₁ cx eo (hl₁.trans hl) st₁ x σ₂ e1 _ _ fun ρ₂ s₂ c₂ le₂ r₂ st₂ => ?_
  cases r₂
  cases x with
  | false =>
   cases e2
   exact wpAny_execs_nil (hQ ρ₂ s₂ _ (le₁.trans le₂) rfl hl₁ st₂)
  | true =>
   refine bindP3 e2 fun fl l₃ σ₃ e3 e4 => ?_
   refine hb A fs env locs l₁ G ρ₂ σ₂ s₂ cx eo hfe (hl₁.trans hl) st₂ fl l₃ σ₃ e3 _ _ fun ρ₃ s₃ c₃ le₃ r₃ hl₃ st₃ => ?_
   have le := le₁.trans (le₂.trans le₃)
   cases fl with
   | nxt => cases r₃; exact ⟨n, Nat.lt_succ_self _, ρ₃, σ₃, l₃, le, hl₃.trans hl₁, st₃, e4⟩
   | cont => cases r₃; exact ⟨n, Nat.lt_succ_self _, ρ₃, σ₃, l₃, le, hl₃.trans hl₁, st₃, e4⟩
   | brk => cases r₃; cases e4; exact hQ ρ₃ s₃ _ le rfl (hl₃.trans hl₁) st₃
   | ret v =>
    refine xEA r₃ fun c hrf rc => ?_; subst hrf
    cases e4
    exact hQ ρ₃ s₃ _ le ⟨c, rfl, rc⟩ (hl₃.trans hl₁) st₃
end LI
noncomputable section LJ
open PySem PySem.W PySem.Calls PyProof.Rows
variable {W : Wd} {R : Rs} {k : Nat}
section
variable {ρ : List Addr} {σ : AH} {G G' : List (Loc × AV)} {s : Shared}
theorem St.sub (st : St W ρ σ G s) (h : G'.Sublist G) : St W ρ σ G' s :=
 ⟨st.stays, st.os, st.gens, st.len, st.objs, st.fresh, st.nodup, fun p hp => st.locs p (h.subset hp), fun p hp => st.lfresh p (h.subset hp), st.apart.sublist h, st.tk⟩
theorem St.ext (st : St W ρ σ G s) {a : Addr} (h1 : a ∉ ρ) (h2 : W.B.get? a = none) (h3 : ∀ p ∈ G, p.1.addr ≠ a) {h' : Heap} (he : Heap.ExtBut a s.heap h') {tk : Nat} (htk : 0 < tk) : St W ρ σ G { s with heap := h', toks := tk } :=
 st.same (fun b o e => he b o (fun q => by rw [q, h2] at e; exact nn e) (st.stays b o e)) (fun b hb o e => he b o (fun q => h1 (q ▸ hb)) e) (fun p hp => .of fun o e => he _ o (h3 p hp) e) htk
theorem St.raw0 {a : Addr} {o : Obj} {u : AV} (st : St W ρ σ ((.raw a o, u) :: G) s) : s.heap.get? a = some o ∧ a ∉ ρ ∧ W.B.get? a = none ∧ (∀ p ∈ G, p.1.addr ≠ a) ∧ St W ρ σ G s := by
 have h := st.lfresh (.raw a o, u) (by simp)
 refine ⟨st.locs (.raw a o, u) (by simp), h.1, h.2, fun p hp => ?_, st.sub (List.sublist_cons_self ..)⟩
 have := List.rel_of_pairwise_cons st.apart hp
 exact fun e => this e.symm
theorem St.rawSet (st : St W ρ σ G s) {i : Nat} {a : Addr} {o o' : Obj} {u : AV} (e : G[i]? = some (.raw a o, u)) {h' : Heap} (hs : Heap.SameBut a s.heap h') (ho : h'.get? a = some o') {tk : Nat} (htk : 0 < tk) :
  St W ρ σ (G.set i (.raw a o', u)) { s with heap := h', toks := tk } := by
 have hm : (.raw a o, u) ∈ G := zI e
 have lf := st.lfresh _ hm
 have hi : i < G.length := (zC e).1
 have back : ∀ j p, (G.set i (.raw a o', u))[j]? = some p → (j = i ∧ p = (.raw a o', u)) ∨ (j ≠ i ∧ G[j]? = some p) := fun j p ep => by
  by_cases hj : j = i
  ·subst hj
   rw [List.getElem?_set] at ep
   simp [hi] at ep
   exact .inl ⟨rfl, ep.symm⟩
  ·rw [List.getElem?_set_ne (Ne.symm hj)] at ep
   exact .inr ⟨hj, ep⟩
 have other : ∀ j p, j ≠ i → G[j]? = some p → p.1.addr ≠ a := fun j p n ep => by
  have := apart_at st.apart ep e n
  obtain ⟨pl, pv⟩ := p
  cases pl <;> exact this
 refine ⟨fun b o k => ?_, st.os, st.gens, st.len, fun j b ao e1 e2 => ?_, st.fresh, st.nodup, fun p hp => ?_, fun p hp => ?_, ?_, htk⟩
 ·exact (hs.2 b fun q => by rw [q] at k; rw [show W.B.get? a = none from lf.2] at k; exact nn k).trans (st.stays b o k)
 ·refine xEA (st.objs j b ao e1 e2) fun o ho r => ?_
  exact ⟨o, (hs.2 b fun q => lf.1 (by show a ∈ ρ; exact q ▸ zI e1)).trans ho, r⟩
 ·obtain ⟨j, hj, ej⟩ := List.getElem_of_mem hp
  rcases back j p (by rw [zH hj, ej]) with ⟨_, rfl⟩ | ⟨n, ep⟩
  ·exact ho
  ·exact (st.locs p (zI ep)).alike (.of fun o k => (hs.2 _ (other j p n ep)).trans k)
 ·obtain ⟨j, hj, ej⟩ := List.getElem_of_mem hp
  rcases back j p (by rw [zH hj, ej]) with ⟨_, rfl⟩ | ⟨n, ep⟩
  ·exact lf
  ·exact st.lfresh p (zI ep)
 ·rw [List.pairwise_iff_getElem]
  intro j k hj hk l
  rcases back j _ (zH hj) with ⟨n1, e1⟩ | ⟨n1, e1⟩ <;> rcases back k _ (zH hk) with ⟨n2, e2⟩ | ⟨n2, e2⟩
  ·exact o31 hj hk l n1 n2
  ·rw [e1]
   have := apart_at st.apart e e2 (by exact o34 l n1)
   exact this
  ·rw [e2]
   have := apart_at st.apart e1 e (by omega)
   revert this
   generalize ((G.set i (.raw a o', u))[j]) = p
   obtain ⟨pl, pv⟩ := p
   cases pl <;> exact id
  ·exact apart_at st.apart e1 e2 (by exact Nat.ne_of_lt l)
theorem St.rawNew (st : St W ρ σ G s) {o : Obj} (hf : o.isFreed = false) {tk : Nat} (htk : 0 < tk) : St W ρ σ ((.raw s.heap.objs.size o, .undef) :: G) { s with heap := s.heap.push o, toks := tk } := by
 obtain ⟨n1, n2, n3⟩ := st.newAddr
 have st' := st.push o tk htk
 refine ⟨st'.stays, st'.os, st'.gens, st'.len, st'.objs, st'.fresh, st'.nodup, fun p hp => ?_, fun p hp => ?_, List.pairwise_cons.mpr ⟨fun p hp => ?_, st'.apart⟩, htk⟩
 ·rcases zN hp with rfl | hp
  ·exact Heap.get?_push_size _ hf
  ·exact st'.locs p hp
 ·rcases zN hp with rfl | hp
  ·exact ⟨n1, n2⟩
  ·exact st'.lfresh p hp
 ·exact fun e => n3 p hp e.symm
theorem St.rawAdd (st : St W ρ σ G s) {a : Addr} {o : Obj} (h1 : a ∉ ρ) (h2 : W.B.get? a = none) (h3 : ∀ p ∈ G, p.1.addr ≠ a) (ho : s.heap.get? a = some o) : St W ρ σ ((.raw a o, .undef) :: G) s := by
 refine ⟨st.stays, st.os, st.gens, st.len, st.objs, st.fresh, st.nodup, fun p hp => ?_, fun p hp => ?_, List.pairwise_cons.mpr ⟨fun p hp => ?_, st.apart⟩, st.tk⟩
 ·rcases zN hp with rfl | hp
  ·exact ho
  ·exact st.locs p hp
 ·rcases zN hp with rfl | hp
  ·exact ⟨h1, h2⟩
  ·exact st.lfresh p hp
 ·exact fun e => h3 p hp e.symm
theorem St.adopt (st : St W ρ σ G s) {a : Addr} (h1 : a ∉ ρ) (h2 : W.B.get? a = none) (h3 : ∀ p ∈ G, p.1.addr ≠ a) {o : Obj} {ao : AObj} (ho : s.heap.get? a = some o) (r : OR (ρ ++ [a]) o ao) : St W (ρ ++ [a]) (σ ++ [ao]) G s := by
 have le := Le.app ρ [a]
 refine ⟨st.stays, st.os, st.gens, by simp [st.len], fun i b bo e1 e2 => ?_, fun b hb => ?_, ?_, fun p hp => (st.locs p hp).mono le, fun p hp => ⟨fun h => ?_, (st.lfresh p hp).2⟩, st.apart, st.tk⟩
 ·by_cases hi : i < ρ.length
  ·rw [List.getElem?_append_left hi] at e1
   rw [List.getElem?_append_left (by rw [← st.len]; exact hi)] at e2
   refine xEA (st.objs i b bo e1 e2) fun o' ho r' => ?_
   exact ⟨o', ho, r'.mono le⟩
  ·have hi' : i = ρ.length := by
    have := (zC e1).1
    simp at this; exact o12 hi this
   subst hi'
   rw [List.getElem?_append_right (Nat.le_refl _)] at e1
   rw [st.len, List.getElem?_append_right (Nat.le_refl _)] at e2
   simp at e1 e2
   subst e1 e2
   exact ⟨_, ho, r⟩
 ·rcases List.mem_append.mp hb with h | h
  ·exact st.fresh b h
  ·rw [zL h]; exact h2
 ·rw [List.nodup_append]
  exact ⟨st.nodup, by simp, fun b hb c hc e => by rw [zL hc] at e; exact h1 (e ▸ hb)⟩
 ·rcases List.mem_append.mp h with h | h
  ·exact (st.lfresh p hp).1 h
  ·exact h3 p hp (zL h)
end
inductive SIt where
 | list (n i : Nat) | str (t : List Nat) (i : Nat)
noncomputable def SR (ρ : List Addr) : SIt → Obj → Prop
 | .list n i, o => ∃ ax, ρ[n]? = some ax ∧ o.cls = .type "list_iterator" ∧ o.data = .fields #[.ref ax, .int i 0]
 | .str t i, o => ∃ tk, o.cls = .type "str_ascii_iterator" ∧ o.data = .fields #[.str ⟨t.toArray⟩ tk, .int i 0]
theorem SR.mono {ρ ρ' : List Addr} (h : Le ρ ρ') {o : Obj} : ∀ {it : SIt}, SR ρ it o → SR ρ' it o
 | .list _ _, ⟨ax, e, r⟩ => ⟨ax, h _ _ e, r⟩
 | .str _ _, r => r
theorem SR.ty {ρ : List Addr} {o : Obj} : ∀ {it : SIt}, SR ρ it o → o.cls ≠ .type "zip"
 | .list _ _, ⟨_, _, e, _⟩, q => by rw [e] at q; exact absurd q (by decide)
 | .str _ _, ⟨_, e, _⟩, q => by rw [e] at q; exact absurd q (by decide)
noncomputable def sNext : SIt → AH → Option (Option AV × SIt)
 | .list n i, h => match h[n]? with
  | some (.list xs) => some (match xs[i]? with | some v => (some v, .list n (i + 1)) | none => (none, .list n i))
  | _ => none
 | .str t i, _ => some (match t[i]? with | some c => (some (.str [c]), .str t (i + 1)) | none => (none, .str t i))
section
variable {A : Around} {E : Value → Shared → Prop} {ρ : List Addr} {σ : AH} {G : List (Loc × AV)} {s : Shared}
theorem nextOf_item {j : Nat} {I : Addr} {o : Obj} {u : AV} {it it' : SIt} {v : AV} (st : St W ρ σ G s) (e : G[j]? = some (.raw I o, u)) (r : SR ρ it o) (ev : sNext it σ = some (some v, it')) {Q : Value → Shared → Prop}
  (hQ : ∀ s' o' c, SR ρ it' o' → VR ρ v c → St W ρ σ (G.set j (.raw I o', u)) s' → s'.heap.objs.size = s.heap.objs.size → Q c s') : wpAny (model W.prog W.w) A (Builtin.SmallTypes.nextOf (.ref I)) Q E s := by
 have hI := st.locs _ (zI e)
 cases it with
 | list n i =>
  refine xEAA r fun ax ea hc hd => ?_
  simp only [sNext] at ev
  split at ev
  ·rename_i xs hx
   refine xEEAAEEA (st.at hx) fun a' ol ea' hol vs n' hrf hv => ?_; subst hrf
   rw [ea] at ea'; replace hol := t1 ea' ▸ hol
   split at ev
   ·rename_i v' hxv
    cases ev
    refine xEA (hv.get hxv) fun c ec rc => ?_
    refine wpAny_nextOf_list_item (items := vs.toArray) ⟨o, hI, hc, hd⟩ ⟨_, hol, rfl, n', rfl⟩ (by simpa using ec) fun h' hit hs => ?_
    refine xEAA hit fun o' ho' hc' hd' => ?_
    exact hQ _ o' c ⟨ax, ea, hc', hd'⟩ rc (st.rawSet (tk := s.toks) e hs ho' st.tk) hs.1
   ·cases ev
  ·exact nn ev
 | str t i =>
  refine xEA r fun tk hc hd => ?_
  simp only [sNext] at ev
  split at ev
  ·rename_i c hxv
   cases ev
   refine wpAny_nextOf_ascii_item (x := ⟨t.toArray⟩) ⟨o, hI, hc, hd⟩ (by simpa using hxv) fun h' hit hs => ?_
   refine xEAA hit fun o' ho' hc' hd' => ?_
   exact hQ _ o' _ ⟨tk, hc', hd'⟩ ⟨_, rfl⟩ (st.rawSet (tk := s.toks + 1) e hs ho' (Nat.succ_pos _)) hs.1
  ·cases ev
theorem nextOf_end {G₁ G₂ : List (Loc × AV)} {I : Addr} {o : Obj} {u : AV} {it it' : SIt} (hh : A.handled = none) (st : St W ρ σ (G₁ ++ (.raw I o, u) :: G₂) s) (r : SR ρ it o) (ev : sNext it σ = some (none, it'))
  (hE : ∀ s' x, St W ρ σ (G₁ ++ G₂) s' → (∃ ox, s'.heap.get? x = some ox ∧ ox.cls = .type "StopIteration") → E (.ref x) s') {Q : Value → Shared → Prop} : wpAny (model W.prog W.w) A (Builtin.SmallTypes.nextOf (.ref I)) Q E s := by
 have hm : (.raw I o, u) ∈ G₁ ++ (.raw I o, u) :: G₂ := by simp
 have hI := st.locs _ hm
 have lf := st.lfresh _ hm
 have st₀ : St W ρ σ (G₁ ++ G₂) s := st.sub ((List.sublist_cons_self ..).append_left _)
 have hne : ∀ p ∈ G₁ ++ G₂, p.1.addr ≠ I := by
  have hp := List.pairwise_append.mp st.apart
  intro p hp'
  rcases List.mem_append.mp hp' with h | h
  ·have := hp.2.2 p h (.raw I o, u) (by simp)
   obtain ⟨pl, pv⟩ := p
   cases pl <;> exact this
  ·have := List.rel_of_pairwise_cons hp.2.1 h
   exact fun e => this e.symm
 cases it with
 | list n i =>
  refine xEAA r fun ax ea hc hd => ?_
  simp only [sNext] at ev
  split at ev
  ·rename_i xs hx
   refine xEEAAEEA (st.at hx) fun a' ol ea' hol vs n' hrf hv => ?_; subst hrf
   rw [ea] at ea'; replace hol := t1 ea' ▸ hol
   split at ev
   ·cases ev
   ·rename_i hxv
    have hlen := hv.length
    refine wpAny_nextOf_list_end (items := vs.toArray) hh ⟨o, hI, hc, hd⟩ ⟨_, hol, rfl, n', rfl⟩ (by simp at hxv ⊢; exact o74 hxv hlen) fun h' x hs hx => ?_
    exact hE _ _ (st₀.ext (tk := s.toks) lf.1 lf.2 hne hs st.tk) hx
  ·exact nn ev
 | str t i =>
  refine xEA r fun tk hc hd => ?_
  simp only [sNext] at ev
  split at ev
  ·cases ev
  ·rename_i hxv
   refine wpAny_nextOf_ascii_end (x := ⟨t.toArray⟩) hh ⟨o, hI, hc, hd⟩ (by simpa using hxv) fun h' x hs hx => ?_
   exact hE _ _ (st₀.ext (tk := s.toks) lf.1 lf.2 hne hs st.tk) hx
end
end LJ
noncomputable section LK
open PySem PySem.W PySem.Calls PyProof.Rows
variable {W : Wd} {R : Rs} {k : Nat}
noncomputable def zO (f0 : Value) (TI TO : Addr) : Obj := { cls := .type "zip", dict := none, data := .fields #[f0, .bool false, .bool false, .ref TI, .ref TO], slots := #[] }
noncomputable def pO (a b : Value) : Obj := { cls := .type "tuple", data := .seq #[a, b] }
section
variable {A : Around} {E : Value → Shared → Prop} {ρ : List Addr} {σ : AH} {G : List (Loc × AV)} {s : Shared}
theorem setField_raw {j : Nat} {a : Addr} {cls : Value} {vs : Array Value} {u : AV} {i : Nat} {x : Value} (st : St W ρ σ G s) (e : G[j]? = some (.raw a { cls := cls, dict := none, data := .fields vs, slots := #[] }, u)) (hi : i < vs.size) {Q : Unit → Shared → Prop}
  (hQ : ∀ s', St W ρ σ (G.set j (.raw a { cls := cls, dict := none, data := .fields (vs.setIfInBounds i x), slots := #[] }, u)) s' → s'.heap.objs.size = s.heap.objs.size → s'.toks = s.toks → (∀ b, b ≠ a → s'.heap.get? b = s.heap.get? b) → Q () s') : wpAny (model W.prog W.w) A (setField (.ref a) i x) Q E s := by
 have ho := st.locs _ (zI e)
 exact wpAny_setField_rec ho hi fun h' ho' hs => hQ _ (st.rawSet (tk := s.toks) e hs ho' st.tk) hs.1 rfl hs.2
theorem updSeq_raw {j : Nat} {a : Addr} {x y v : Value} {u : AV} {i : Nat} (st : St W ρ σ G s) (e : G[j]? = some (.raw a (pO x y), u)) {Q : Unit → Shared → Prop}
  (hQ : ∀ s', St W ρ σ (G.set j (.raw a { cls := .type "tuple", data := .seq ((#[x, y] : Array Value).setIfInBounds i v) }, u)) s' → s'.heap.objs.size = s.heap.objs.size → Q () s') : wpAny (model W.prog W.w) A (updateSeq a (·.setIfInBounds i v)) Q E s := by
 have ho := st.locs _ (zI e)
 exact wpAny_updateSeq_pair ho fun h' ho' hs => hQ _ (st.rawSet (tk := s.toks) e hs ho' st.tk) hs.1
theorem zip_item {z TI TO i1 i2 : Addr} {o1 o2 : Obj} {x y : Value} {a b a' b' : SIt} {v w : AV} (st : St W ρ σ ((.raw z (zO .none TI TO), .undef) :: (.raw TI (pO (.ref i1) (.ref i2)), .undef) :: (.raw TO (pO x y), .undef) :: (.raw i1 o1, .undef) :: (.raw i2 o2, .undef) :: G) s)
  (r1 : SR ρ a o1) (r2 : SR ρ b o2) (e1 : sNext a σ = some (some v, a')) (e2 : sNext b σ = some (some w, b')) {Q : Value → Shared → Prop}
  (hQ : ∀ ρ' s' T c d o1' o2', Le ρ ρ' → VR ρ' (.ref σ.length) (.ref T) → SR ρ' a' o1' → SR ρ' b' o2' → St W ρ' (σ ++ [.tup [v, w]]) ((.raw z (zO (rawInt T) TI TO), .undef) :: (.raw TI (pO (.ref i1) (.ref i2)), .undef) :: (.raw TO (pO c d), .undef) :: (.raw i1 o1', .undef) :: (.raw i2 o2', .undef) :: G) s' → Q (.ref T) s') :
  wpAny (model W.prog W.w) A (Builtin.«zip.__next__» ⟨[.ref z], []⟩) (fun fin s' => ∃ v, fin = .done (.ret v) ∧ Q v s') E s := by
 have hz : s.heap.get? z = some (zO .none TI TO) := st.locs (.raw z _, .undef) (by simp)
 have hTI : s.heap.get? TI = some (pO (.ref i1) (.ref i2)) := st.locs (.raw TI _, .undef) (by simp)
 show wpAny _ _ (field (.ref z) 2 >>= _) _ _ _
 refine wpAny_bind (wpAny_field hz rfl (x := .bool false) rfl ?_)
 show wpAny _ _ (field (.ref z) 3 >>= _) _ _ _
 refine wpAny_bind (wpAny_field hz rfl (x := .ref TI) rfl ?_)
 refine wpAny_bind (wpAny_seqItems hTI rfl ?_)
 show wpAny _ _ (Builtin.SmallTypes.ownedTupleIsFree (.ref z) >>= _) _ _ _
 refine wpAny_bind ?_
 unfold Builtin.SmallTypes.ownedTupleIsFree
 refine wpAny_bind (wpAny_field hz rfl (x := .none) rfl (wpAny_pure ?_))
 simp only [if_true]
 refine wpAny_bind (wpAny_rule ?_)
 refine wpAny_bind (wpAny_field hz rfl (x := .ref TO) rfl ?_)
 refine wpAny_bind (setField_raw (j := 0) st rfl (by simp) fun s₁ st₁ _ _ _ => ?_)
 refine wpAny_bind ?_
 simp only [List.zipIdx_cons, List.zipIdx_nil, List.forIn_cons, List.forIn_nil]
 refine wpAny_bind (wpAny_bind (wpAny_onRaise ?_))
 show wpAny _ _ (Builtin.SmallTypes.nextOf (.ref i1) >>= _) _ _ _
 refine wpAny_bind (nextOf_item (j := 3) st₁ rfl r1 e1 fun s₂ o1' c r1' rc st₂ _ => wpAny_pure ?_)
 have hTO₂ : s₂.heap.get? TO = some (pO x y) := st₂.locs (.raw TO _, .undef) (by simp)
 refine wpAny_bind (wpAny_seqItems hTO₂ rfl ?_)
 refine wpAny_bind (updSeq_raw (j := 2) st₂ rfl fun s₃ st₃ _ => ?_)
 refine wpAny_bind (wpAny_letGo (wpAny_pure ?_))
 refine wpAny_bind (wpAny_bind (wpAny_onRaise ?_))
 show wpAny _ _ (Builtin.SmallTypes.nextOf (.ref i2) >>= _) _ _ _
 refine wpAny_bind (nextOf_item (j := 4) st₃ rfl r2 e2 fun s₄ o2' d r2' rd st₄ _ => wpAny_pure ?_)
 have st₄' : St W ρ σ ((.raw z (zO .ellipsis TI TO), .undef) :: (.raw TI (pO (.ref i1) (.ref i2)), .undef) :: (.raw TO (pO c y), .undef) :: (.raw i1 o1', .undef) :: (.raw i2 o2', .undef) :: G) s₄ := st₄
 have hTO₄ : s₄.heap.get? TO = some (pO c y) := st₄'.locs (.raw TO _, .undef) (by simp)
 refine wpAny_bind (wpAny_seqItems hTO₄ rfl ?_)
 refine wpAny_bind (updSeq_raw (j := 2) st₄' rfl fun s₅ st₅ _ => ?_)
 refine wpAny_bind (wpAny_letGo (wpAny_pure (wpAny_pure ?_)))
 have st₅' : St W ρ σ ((.raw z (zO .ellipsis TI TO), .undef) :: (.raw TI (pO (.ref i1) (.ref i2)), .undef) :: (.raw TO (pO c d), .undef) :: (.raw i1 o1', .undef) :: (.raw i2 o2', .undef) :: G) s₅ := st₅
 have hTO₅ : s₅.heap.get? TO = some (pO c d) := st₅'.locs (.raw TO _, .undef) (by simp)
 refine wpAny_bind (wpAny_seqItems hTO₅ rfl ?_)
 refine wpAny_bind (wpAny_newTuple ?_)
 have st₆ := st₅'.newTup (xs := [v, w]) (vs := [c, d]) ⟨rc, rd, trivial⟩ s₅.toks st₅'.tk
 show wpAny _ _ (Builtin.SmallTypes.ownedTupleHandOut (.ref z) (.ref s₅.heap.objs.size) >>= _) _ _ _
 refine wpAny_bind ?_
 unfold Builtin.SmallTypes.ownedTupleHandOut
 refine wpAny_bind (setField_raw (j := 0) st₆ rfl (by simp) fun s₇ st₇ _ _ _ => ?_)
 refine setField_raw (j := 0) st₇ rfl (by simp) fun s₈ st₈ _ _ _ => ?_
 refine wpAny_pure ⟨_, rfl, ?_⟩
 exact hQ _ s₈ _ c d o1' o2' (Le.app _ _) (new_ref st₅') (r1'.mono (Le.app _ _)) (r2'.mono (Le.app _ _)) st₈
theorem zip_stop {z TI TO i1 i2 : Addr} {o1 o2 : Obj} {x y : Value} {a b a' b' : SIt} (hh : A.handled = none) (st : St W ρ σ ((.raw z (zO .none TI TO), .undef) :: (.raw TI (pO (.ref i1) (.ref i2)), .undef) :: (.raw TO (pO x y), .undef) :: (.raw i1 o1, .undef) :: (.raw i2 o2, .undef) :: G) s)
  (r1 : SR ρ a o1) (r2 : SR ρ b o2) (e : sNext a σ = some (none, a') ∨ ∃ v, sNext a σ = some (some v, a') ∧ sNext b σ = some (none, b')) {Q : Fin → Shared → Prop}
  (hE : ∀ s' x, St W ρ σ G s' → (∃ ox, s'.heap.get? x = some ox ∧ ox.cls = .type "StopIteration") → E (.ref x) s') :
  wpAny (model W.prog W.w) A (Builtin.«zip.__next__» ⟨[.ref z], []⟩) Q E s := by
 have hz : s.heap.get? z = some (zO .none TI TO) := st.locs (.raw z _, .undef) (by simp)
 have hTI : s.heap.get? TI = some (pO (.ref i1) (.ref i2)) := st.locs (.raw TI _, .undef) (by simp)
 show wpAny _ _ (field (.ref z) 2 >>= _) _ _ _
 refine wpAny_bind (wpAny_field hz rfl (x := .bool false) rfl ?_)
 show wpAny _ _ (field (.ref z) 3 >>= _) _ _ _
 refine wpAny_bind (wpAny_field hz rfl (x := .ref TI) rfl ?_)
 refine wpAny_bind (wpAny_seqItems hTI rfl ?_)
 show wpAny _ _ (Builtin.SmallTypes.ownedTupleIsFree (.ref z) >>= _) _ _ _
 refine wpAny_bind ?_
 unfold Builtin.SmallTypes.ownedTupleIsFree
 refine wpAny_bind (wpAny_field hz rfl (x := .none) rfl (wpAny_pure ?_))
 simp only [if_true]
 refine wpAny_bind (wpAny_rule ?_)
 refine wpAny_bind (wpAny_field hz rfl (x := .ref TO) rfl ?_)
 refine wpAny_bind (setField_raw (j := 0) st rfl (by simp) fun s₁ st₁ _ _ _ => ?_)
 refine wpAny_bind ?_
 simp only [List.zipIdx_cons, List.zipIdx_nil, List.forIn_cons, List.forIn_nil]
 refine wpAny_bind (wpAny_bind (wpAny_onRaise ?_))
 show wpAny _ _ (Builtin.SmallTypes.nextOf (.ref i1) >>= _) _ _ _
 have fin : ∀ (s' : Shared) (xa : Addr) (rest : List (Loc × AV)), St W ρ σ ((.raw z (zO .ellipsis TI TO), .undef) :: rest) s' → G.Sublist rest → (∃ ox, s'.heap.get? xa = some ox ∧ ox.cls = .type "StopIteration") →
   wpAny (model W.prog W.w) A (setField (.ref z) 0 .none) (fun _ s'' => E (.ref xa) s'') E s' := by
  intro s' xa rest st' hsub hx
  obtain ⟨ox, hox, hc⟩ := hx
  refine setField_raw (j := 0) st' rfl (by simp) fun s'' st'' _ _ hk => ?_
  refine hE s'' xa (st''.sub (hsub.trans (List.sublist_cons_self ..))) ⟨ox, (hk xa ?_).trans hox, hc⟩
  rintro rfl
  rw [(st'.raw0).1] at hox
  replace hc := t1 hox ▸ hc
  exact absurd hc (by simp [zO])
 rcases e with e | ⟨v, e, e'⟩
 ·refine wpAny_bind (nextOf_end (G₁ := [_, _, _]) hh st₁ r1 e fun s₂ xa st₂ hx => ?_)
  exact fin s₂ xa _ st₂ (.cons _ (.cons _ (.cons _ (List.Sublist.refl _)))) hx
 ·refine wpAny_bind (nextOf_item (j := 3) st₁ rfl r1 e fun s₂ o1' c r1' rc st₂ _ => wpAny_pure ?_)
  have hTO₂ : s₂.heap.get? TO = some (pO x y) := st₂.locs (.raw TO _, .undef) (by simp)
  refine wpAny_bind (wpAny_seqItems hTO₂ rfl ?_)
  refine wpAny_bind (updSeq_raw (j := 2) st₂ rfl fun s₃ st₃ _ => ?_)
  refine wpAny_bind (wpAny_letGo (wpAny_pure ?_))
  refine wpAny_bind (wpAny_bind (wpAny_onRaise ?_))
  show wpAny _ _ (Builtin.SmallTypes.nextOf (.ref i2) >>= _) _ _ _
  refine wpAny_bind (nextOf_end (G₁ := [_, _, _, _]) hh st₃ r2 e' fun s₄ xa st₄ hx => ?_)
  exact fin s₄ xa _ st₄ (.cons _ (.cons _ (.cons _ (List.Sublist.refl _)))) hx
end
end LK
noncomputable section LL
open PySem PySem.W PySem.Calls PyProof.Rows
variable {W : Wd} {R : Rs} {k : Nat}
inductive AIt where
 | one (s : SIt) | range (x left step : Int) | enum (n i : Nat) | zip (a b : SIt)
noncomputable def aNext : AIt → AH → Option (Option AV × AIt × AH)
 | .one s, h => (sNext s h).map fun r => (r.1, .one r.2, h)
 | .range x left step, h => some (if 0 < left then (some (.int x), .range (x + step) (left - 1) step, h) else (none, .range x left step, h))
 | .enum n i, h => (sNext (.list n i) h).map fun r => match r.1 with
  | some v => (some (.ref h.length), .enum n (i + 1), h ++ [.tup [.int i, v]])
  | none => (none, .enum n i, h)
 | .zip a b, h => (sNext a h).bind fun r => match r.1 with
  | none => some (none, .zip r.2 b, h)
  | some v => (sNext b h).map fun q => match q.1 with
   | none => (none, .zip r.2 q.2, h)
   | some w => (some (.ref h.length), .zip r.2 q.2, h ++ [.tup [v, w]])
noncomputable def rO (x left step : Int) : Obj := { cls := .type "range_iterator", dict := none, data := .fields #[rawInt x, rawInt left, rawInt step], slots := #[] }
noncomputable def eO (f0 : Value) (it : Addr) (i : Int) (old : Value) : Obj := { cls := .type "enumerate", dict := none, data := .fields #[f0, .bool false, .ref it, rawInt i, .none, old], slots := #[] }
noncomputable def ItR (ρ : List Addr) (I : Addr) : AIt → List (Loc × AV) → Prop
 | .one s, rs => ∃ o, rs = [(.raw I o, .undef)] ∧ SR ρ s o
 | .range x left step, rs => rs = [(.raw I (rO x left step), .undef)]
 | .enum n i, rs => ∃ it o old, rs = [(.raw I (eO .none it i old), .undef), (.raw it o, .undef)] ∧ SR ρ (.list n i) o
 | .zip a b, rs => ∃ TI TO i1 i2 o1 o2 x y, rs = [(.raw I (zO .none TI TO), .undef), (.raw TI (pO (.ref i1) (.ref i2)), .undef), (.raw TO (pO x y), .undef), (.raw i1 o1, .undef), (.raw i2 o2, .undef)] ∧ SR ρ a o1 ∧ SR ρ b o2
theorem ItR.mono {ρ ρ' : List Addr} (h : Le ρ ρ') {I : Addr} {rs : List (Loc × AV)} : ∀ {it : AIt}, ItR ρ I it rs → ItR ρ' I it rs := by
 intro it q
 cases it with
 | one _ => refine xEA q fun o e r => ?_; exact ⟨o, e, r.mono h⟩
 | range _ _ _ => exact q
 | enum _ _ => obtain ⟨it, o, old, e, r⟩ := q; exact ⟨it, o, old, e, r.mono h⟩
 | zip _ _ => obtain ⟨a, b, c, d, e, f, x, y, g, r1, r2⟩ := q; exact ⟨a, b, c, d, e, f, x, y, g, r1.mono h, r2.mono h⟩
section
variable {A : Around} {E : Value → Shared → Prop} {ρ : List Addr} {σ : AH} {G : List (Loc × AV)} {s : Shared}
theorem pyNext_one_item {I : Addr} {o : Obj} {u : AV} {it it' : SIt} {v : AV} (st : St W ρ σ ((.raw I o, u) :: G) s) (r : SR ρ it o) (ev : sNext it σ = some (some v, it')) {Q : Option Value → Shared → Prop}
  (hQ : ∀ s' o' c, SR ρ it' o' → VR ρ v c → St W ρ σ ((.raw I o', u) :: G) s' → Q (some c) s') : wpAny (model W.prog W.w) A (pyNext (.ref I)) Q E s := by
 have hI := st.raw0.1
 cases it with
 | list n i =>
  refine xEAA r fun ax ea hc hd => ?_
  simp only [sNext] at ev
  split at ev
  ·rename_i xs hx
   refine xEEAAEEA (st.at hx) fun a' ol ea' hol vs n' hrf hv => ?_; subst hrf
   rw [ea] at ea'; replace hol := t1 ea' ▸ hol
   split at ev
   ·rename_i v' hxv
    cases ev
    refine xEA (hv.get hxv) fun c ec rc => ?_
    refine wpAny_pyNext_list_item (items := vs.toArray) ⟨o, hI, hc, hd⟩ ⟨_, hol, rfl, n', rfl⟩ (by simpa using ec) fun h' hit hs => ?_
    refine xEAA hit fun o' ho' hc' hd' => ?_
    exact hQ _ o' c ⟨ax, ea, hc', hd'⟩ rc (st.rawSet (i := 0) (tk := s.toks) rfl hs ho' st.tk)
   ·cases ev
  ·exact nn ev
 | str t i =>
  refine xEA r fun tk hc hd => ?_
  simp only [sNext] at ev
  split at ev
  ·rename_i c hxv
   cases ev
   refine wpAny_pyNext_ascii_item (x := ⟨t.toArray⟩) ⟨o, hI, hc, hd⟩ (by simpa using hxv) fun h' hit hs => ?_
   refine xEAA hit fun o' ho' hc' hd' => ?_
   exact hQ _ o' _ ⟨tk, hc', hd'⟩ ⟨_, rfl⟩ (st.rawSet (i := 0) (tk := s.toks + 1) rfl hs ho' (Nat.succ_pos _))
  ·cases ev
theorem pyNext_one_end {I : Addr} {o : Obj} {u : AV} {it it' : SIt} (hh : A.handled = none) (st : St W ρ σ ((.raw I o, u) :: G) s) (r : SR ρ it o) (ev : sNext it σ = some (none, it')) {Q : Option Value → Shared → Prop}
  (hQ : ∀ s', St W ρ σ G s' → Q none s') : wpAny (model W.prog W.w) A (pyNext (.ref I)) Q E s := by
 obtain ⟨hI, h1, h2, h3, st₀⟩ := st.raw0
 cases it with
 | list n i =>
  refine xEAA r fun ax ea hc hd => ?_
  simp only [sNext] at ev
  split at ev
  ·rename_i xs hx
   refine xEEAAEEA (st.at hx) fun a' ol ea' hol vs n' hrf hv => ?_; subst hrf
   rw [ea] at ea'; replace hol := t1 ea' ▸ hol
   split at ev
   ·cases ev
   ·rename_i hxv
    have hlen := hv.length
    exact wpAny_pyNext_list_end (items := vs.toArray) hh ⟨o, hI, hc, hd⟩ ⟨_, hol, rfl, n', rfl⟩ (by simp at hxv ⊢; exact o74 hxv hlen) fun h' hs => hQ _ (st₀.ext (tk := s.toks) h1 h2 h3 hs st.tk)
  ·exact nn ev
 | str t i =>
  refine xEA r fun tk hc hd => ?_
  simp only [sNext] at ev
  split at ev
  ·cases ev
  ·rename_i hxv
   exact wpAny_pyNext_ascii_end (x := ⟨t.toArray⟩) hh ⟨o, hI, hc, hd⟩ (by simpa using hxv) fun h' hs => hQ _ (st₀.ext (tk := s.toks) h1 h2 h3 hs st.tk)
noncomputable def AIt.tgt : AIt → Expr → Prop
 | .one _, t => (∃ x p, t = .Name x p) ∨ (∃ e j p, t = .Tuple e j p)
 | .range _ _ _, t => ∃ x p, t = .Name x p
 | _, t => ∃ e j p, t = .Tuple e j p
theorem noOwn {n : String} {b : Bool} (h : (["enumerate", "zip", "dict_itemiterator", "dict_reverseitemiterator", "odict_iterator", "itertools.zip_longest", "itertools.pairwise"].contains n) = false) :
  decide ((["enumerate", "zip", "dict_itemiterator", "dict_reverseitemiterator", "odict_iterator", "itertools.zip_longest", "itertools.pairwise"].contains n && b) = true) = false := by rw [h]; rfl
theorem go_one {I : Addr} {o : Obj} {u : AV} {it : SIt} (st : St W ρ σ ((.raw I o, u) :: G) s) (r : SR ρ it o) {t : Expr} (ht : (∃ x p, t = .Name x p) ∨ (∃ e j p, t = .Tuple e j p)) (c : Value) {Q : Unit → Shared → Prop} (hQ : Q () s) :
  wpAny (model W.prog W.w) A (letOwnedTupleGo t (.ref I) c) Q E s := by
 rcases ht with ⟨x, p, rfl⟩ | ⟨e, j, p, rfl⟩
 ·exact wpAny_pure hQ
 ·cases c <;> try exact wpAny_pure hQ
  rename_i T
  have hI := st.raw0.1
  unfold letOwnedTupleGo
  refine wpAny_bind (wpAny_load hI ?_)
  cases it with
  | list n i =>
   refine xEAA r fun ax ea hc hd => ?_
   rw [hc, hd]
   exact wpAny_ite_false (noOwn (n := "list_iterator") (by decide)) (wpAny_pure hQ)
  | str t i =>
   refine xEA r fun ax hc hd => ?_
   rw [hc, hd]
   exact wpAny_ite_false (noOwn (n := "str_ascii_iterator") (by decide)) (wpAny_pure hQ)
noncomputable abbrev Hn (W : Wd) (ρ : List Addr) (G : List (Loc × AV)) (r : Option AV) (σ' : AH) (Qn : Shared → Prop) : Prop := r = none → ∀ s', St W ρ σ' G s' → Qn s'
noncomputable abbrev Hs (W : Wd) (ρ : List Addr) (G : List (Loc × AV)) (I : Addr) (r : Option AV) (it' : AIt) (σ' : AH) (Qs : Value → Shared → Prop) : Prop :=
 ∀ v, r = some v → ∀ ρ' c rs' s', Le ρ ρ' → VR ρ' v c → ItR ρ' I it' rs' → St W ρ' σ' (rs' ++ G) s' → Qs c s'
noncomputable abbrev TG (W : Wd) (A : Around) (I : Addr) (t : Expr) (Qn : Shared → Prop) (Qs : Value → Shared → Prop) (E' E : Value → Shared → Prop) (s : Shared) : Prop :=
 wpAny (model W.prog W.w) A (pyNext (.ref I)) (fun r s₁ => match r with | none => Qn s₁ | some c => wpAny (model W.prog W.w) A (letOwnedTupleGo t (.ref I) c) (fun _ s₂ => Qs c s₂) E' s₁) E s
theorem hnr {r r' : Option AV} {it it' : AIt} {σ₁ σ' : AH} {Qn : Shared → Prop} (e : (r, it, σ₁) = (r', it', σ')) (h : Hn W ρ G r' σ' Qn) : Hn W ρ G r σ₁ Qn := r3a e ▸ r3c e ▸ h
theorem hsr {I : Addr} {r r' : Option AV} {it it' : AIt} {σ₁ σ' : AH} {Qs : Value → Shared → Prop} (e : (r, it, σ₁) = (r', it', σ')) (h : Hs W ρ G I r' it' σ' Qs) : Hs W ρ G I r it σ₁ Qs := r3a e ▸ r3b e ▸ r3c e ▸ h
theorem turn_ok {I : Addr} {it it' : AIt} {r : Option AV} {σ' : AH} {rs : List (Loc × AV)} (hh : A.handled = none) (st : St W ρ σ (rs ++ G) s) (hI : ItR ρ I it rs) (ev : aNext it σ = some (r, it', σ')) {t : Expr} (ht : it.tgt t)
  {Qn : Shared → Prop} {Qs : Value → Shared → Prop} {E' : Value → Shared → Prop} (hn : Hn W ρ G r σ' Qn) (hs : Hs W ρ G I r it' σ' Qs) : TG W A I t Qn Qs E' E s := by
 cases it with
 | one it =>
  refine xEA hI fun o hrf r0 => ?_; subst hrf
  refine mapP ev fun rr it₂ e1 e2 => ?_
  replace hn := hnr e2 hn; replace hs := hsr e2 hs
  cases rr with
  | none => exact pyNext_one_end hh st r0 e1 fun s' st' => hn rfl s' st'
  | some v => exact pyNext_one_item st r0 e1 fun s' o' c r' rc st' => go_one st' r' ht c (hs v rfl ρ c _ s' (Le.refl _) rc ⟨o', rfl, r'⟩ st')
 | range x left step =>
  cases hI
  obtain ⟨h0, h1, h2, h3, st₀⟩ := st.raw0
  obtain ⟨y, p, rfl⟩ := ht
  simp only [aNext] at ev
  split at ev
  ·rename_i hl
   replace hn := hnr (Option.some.inj ev) hn; replace hs := hsr (Option.some.inj ev) hs
   refine wpAny_pyNext_range_item h0 hl fun h' hit hsb => ?_
   exact wpAny_pure (hs _ rfl ρ _ _ _ (Le.refl _) ⟨_, rfl⟩ rfl (st.rawSet (i := 0) (tk := s.toks + 1) rfl hsb hit (Nat.succ_pos _)))
  ·rename_i hl
   replace hn := hnr (Option.some.inj ev) hn; replace hs := hsr (Option.some.inj ev) hs
   exact wpAny_pyNext_range_end hh h0 (by lia) fun h' hsb => hn rfl _ (st₀.ext (tk := s.toks) h1 h2 h3 hsb st.tk)
 | enum n i =>
  obtain ⟨ia, o, old, rfl, r0⟩ := hI
  refine mapP ev fun rr it₂ e1 e2 => ?_
  obtain ⟨el, j, p, rfl⟩ := ht
  obtain ⟨h0, h1, h2, h3, st₀⟩ := st.raw0
  refine xEAA r0 fun ax ea hc hd => ?_
  simp only [sNext] at e1
  split at e1
  ·rename_i xs hx
   refine xEEAAEEA (st.at hx) fun a' ol ea' hol vs n' hrf hv => ?_; subst hrf
   rw [ea] at ea'; replace hol := t1 ea' ▸ hol
   obtain ⟨i0, i1, i2, i3, st₁⟩ := st₀.raw0
   have hit : s.heap.IsListIter ia ax i := ⟨o, i0, hc, hd⟩
   have hL : s.heap.IsList ax vs.toArray := ⟨_, hol, rfl, n', rfl⟩
   have hne : I ≠ ia := fun e => h3 (.raw ia o, .undef) (by simp) e.symm
   split at e1
   ·rename_i v hxv
    replace e2 := t2a e1 ▸ t2b e1 ▸ e2
    replace hn := hnr e2 hn; replace hs := hsr e2 hs
    refine xEA (hv.get hxv) fun c ec rc => ?_
    obtain ⟨n1, n2, n3⟩ := st.newAddr
    refine wpAny_pyNext_enum_item (i := i) h0 hit hL (by simpa using ec) hne fun h' he' hit' hT hsz hk => ?_
    refine wpAny_letOwnedTupleGo_enum he' fun h'' he'' hs'' => ?_
    refine xEAA hit' fun o' ho' hc' hd' => ?_
    have k0 : ∀ b o, b ≠ I → b ≠ ia → s.heap.get? b = some o → h''.get? b = some o := fun b o b1 b2 e => hs''.extBut b o b1 (hk b o b1 b2 e)
    have stG : St W ρ σ G { s with heap := h'', toks := s.toks + 1 } :=
     st₁.same (fun b o e => k0 b o (fun q => by rw [q, h2] at e; exact nn e) (fun q => by rw [q, i2] at e; exact nn e) (st.stays b o e)) (fun b hb o e => k0 b o (fun q => h1 (q ▸ hb)) (fun q => i1 (q ▸ hb)) e)
      (fun p hp => .of fun o e => k0 _ o (h3 p (List.mem_cons_of_mem _ hp)) (i3 p hp) e)
    have hTne : s.heap.objs.size ≠ I := fun e => n3 (.raw I (eO .none ia i old), .undef) (by simp) e.symm
    have stT := stG.adopt (ao := .tup [.int i, v]) n1 n2 (fun p hp => n3 p (List.mem_append_right _ hp)) (hs''.extBut _ _ hTne hT) ⟨[.int i s.toks, c], 0, rfl, ⟨_, rfl⟩, rc.mono (Le.app _ _), trivial⟩
    have up : ∀ {b : Addr}, b ∉ ρ → b ≠ s.heap.objs.size → b ∉ ρ ++ [s.heap.objs.size] := fun {b} x y z => by
     rcases List.mem_append.mp z with z | z
     ·exact x z
     ·exact y (zL z)
    have st2 := stT.rawAdd (a := ia) (o := o') (up i1 (fun e => n3 (.raw ia o, .undef) (by simp) e)) i2 i3 (hs''.extBut _ _ (Ne.symm hne) ho')
    have st3 := st2.rawAdd (a := I) (o := eO .none ia ((i : Int) + 1) c) (up h1 (Ne.symm hTne)) h2 (fun p hp => by
     rcases zN hp with rfl | hp
     ·exact Ne.symm hne
     ·exact h3 p (List.mem_cons_of_mem _ hp)) he''
    refine hs _ rfl _ _ [_, _] _ (Le.app ρ [s.heap.objs.size]) (new_refAt st _) ⟨ia, o', c, ?_, ⟨ax, Le.app _ _ _ _ ea, hc', hd'⟩⟩ st3
    simp
   ·rename_i hxv
    replace e2 := t2a e1 ▸ t2b e1 ▸ e2
    replace hn := hnr e2 hn
    have hlen := hv.length
    refine wpAny_pyNext_enum_end hh h0 hit hL (by simp at hxv ⊢; exact o74 hxv hlen) fun h' he => hn rfl _ ?_
    exact st₁.ext (tk := s.toks) i1 i2 i3 he st.tk
  ·exact nn e1
 | zip a b =>
  obtain ⟨TI, TO, i1, i2, o1, o2, x, y, rfl, r1, r2⟩ := hI
  obtain ⟨el, j, p, rfl⟩ := ht
  have hz : s.heap.get? I = some (zO .none TI TO) := st.raw0.1
  have hT : s.TypeIs (.ref I) "zip" := ⟨_, hz, rfl⟩
  have hstop : (∃ a', sNext a σ = some (none, a')) ∨ (∃ v a' b', sNext a σ = some (some v, a') ∧ sNext b σ = some (none, b')) → Hn W ρ G none σ Qn → TG W A I (.Tuple el j p) Qn Qs E' E s := by
   intro he hn
   have main : ∀ {Q : Fin → Shared → Prop} {E : Value → Shared → Prop}, (∀ s' x, St W ρ σ G s' → (∃ ox, s'.heap.get? x = some ox ∧ ox.cls = .type "StopIteration") → E (.ref x) s') → wpAny (model W.prog W.w) A.in1 (Builtin.«zip.__next__» ⟨[.ref I], []⟩) Q E s := by
    intro Q E hE
    rcases he with ⟨a', e⟩ | ⟨v, a', b', e, e'⟩
    ·exact zip_stop (a' := a') (b' := a') (show A.in1.handled = none from hh) st r1 r2 (.inl e) hE
    ·exact zip_stop (show A.in1.handled = none from hh) st r1 r2 (.inr ⟨v, e, e'⟩) hE
   unfold TG pyNext
   refine wpAny_bind (wpAny_attempt (wpAny_callSpecial?_slot (name := Str.ofString "__next__") hT F.slot_zip_next
    (wpAny_call_entry F.slot_zip_next hT F.entry_zip_next (main fun s' xa st' hx => ?_) (F.args_zip_next_1 _))))
   refine xEA hx fun ox hox hc => ?_
   refine wpAny_bind (wpAny_isInstance (T := "StopIteration") (b := true) ⟨ox, hox, hc⟩ isSubtype_stop ?_)
   exact wpAny_pure (hn rfl s' st')
  refine bindP ev fun ra a' e1 e2 => ?_
  cases ra with
  | none => exact hstop (.inl ⟨_, e1⟩) (hnr (Option.some.inj e2) hn)
  | some v =>
   refine mapP e2 fun rb b' e3 e4 => ?_
   cases rb with
   | none => exact hstop (.inr ⟨_, _, _, e1, e3⟩) (hnr e4 hn)
   | some w =>
    replace hs := hsr e4 hs
    unfold TG pyNext
    refine wpAny_bind (wpAny_attempt (wpAny_callSpecial?_slot (name := Str.ofString "__next__") hT F.slot_zip_next
     (wpAny_call_entry F.slot_zip_next hT F.entry_zip_next (zip_item st r1 r2 e1 e3 fun ρ' s' T c d o1' o2' le rT r1' r2' st' => wpAny_pure ?_) (F.args_zip_next_1 _))))
    have hz' := st'.raw0.1
    refine wpAny_letOwnedTupleGo_zip hz' fun h'' hz'' hs'' => ?_
    exact hs _ rfl ρ' _ [_, _, _, _, _] _ le rT ⟨TI, TO, i1, i2, o1', o2', c, d, rfl, r1', r2'⟩ (st'.rawSet (i := 0) (tk := s'.toks) rfl hs'' hz'' st'.tk)
end
end LL
noncomputable section LM
open PySem PySem.W PySem.Calls PyProof.Rows
variable {W : Wd} {R : Rs} {k : Nat}
noncomputable def SelfIt (W : Wd) (A : Around) (I : Addr) (s : Shared) : Prop := ∀ (Q : Value → Shared → Prop) (E : Value → Shared → Prop) s', (∀ b o, s.heap.get? b = some o → s'.heap.get? b = some o) → Q (.ref I) s' → wpAny (model W.prog W.w) A (pyIter (.ref I)) Q E s'
noncomputable abbrev PI := List AV → AH → Option (AIt × AH)
noncomputable def ItEv (W : Wd) (R : Rs) (k : Nat) (e : Expr) (g : PI) : Prop :=
 ∀ A fs env locs l G ρ σ s, CxA A k fs (locs ++ G.map (·.1)) → EnvOK R env locs → l.length = locs.length → St W ρ σ (locs.zip l ++ G) s → ∀ it σ', g l σ = some (it, σ') → ∀ (Q : Value → Shared → Prop) (E : Value → Shared → Prop),
  (∀ ρ' s' I rs, Le ρ ρ' → ItR ρ' I it rs → St W ρ' σ' (rs ++ (locs.zip l ++ G)) s' → SelfIt W A I s' → Q (.ref I) s') →
  wpAny (model W.prog W.w) A (eval e env) (fun x s₁ => wpAny (model W.prog W.w) A (pyIter x) Q E s₁) E s
noncomputable def aIter : AV → AH → Option AIt
 | .ref n, h => match h[n]? with
  | some (.list _) => some (.one (.list n 0))
  | _ => none
 | .str t, _ => if t.all (· < 128) then some (.one (.str t 0)) else none
 | _, _ => none
noncomputable def iOf (f : PE) : PI := fun l h => (f l h).bind fun p => (aIter p.1 p.2).map fun it => (it, p.2)
theorem self_one {A : Around} {I : Addr} {o : Obj} {ρ : List Addr} {it : SIt} {s : Shared} (ho : s.heap.get? I = some o) (r : SR ρ it o) {Q : Value → Shared → Prop} {E : Value → Shared → Prop} (h : Q (.ref I) s) : wpAny (model W.prog W.w) A (pyIter (.ref I)) Q E s := by
 cases it with
 | list n i => refine xEAA r fun ax _ hc hd => ?_; exact wpAny_pyIter_listiter ⟨o, ho, hc, hd⟩ h
 | str t i => refine xEA r fun tk hc hd => ?_; exact wpAny_pyIter_striter_ascii ⟨o, ho, hc, hd⟩ h
theorem iter_ok {A : Around} {ρ : List Addr} {σ : AH} {G : List (Loc × AV)} {s : Shared} (st : St W ρ σ G s) {x : AV} {c : Value} (r : VR ρ x c) {it : AIt} (ev : aIter x σ = some it) {Q : Value → Shared → Prop} {E : Value → Shared → Prop}
  (hQ : ∀ s' I rs, ItR ρ I it rs → St W ρ σ (rs ++ G) s' → SelfIt W A I s' → Q (.ref I) s') :
  wpAny (model W.prog W.w) A (pyIter c) Q E s := by
 cases x <;> simp only [aIter] at ev <;> try exact nn ev
 ·rename_i t
  obtain ⟨tk, rfl⟩ := r
  split at ev
  ·rename_i ha
   replace hQ := t1 ev ▸ hQ
   refine wpAny_pyIter_strU ?_
   have hty : strIterType ⟨t.toArray⟩ = "str_ascii_iterator" := by
    unfold strIterType
    rw [if_pos (by simpa using ha)]
   rw [hty]
   have stn := st.rawNew (o := { cls := .type "str_ascii_iterator", data := .fields #[.str ⟨t.toArray⟩ tk, .int 0 0] }) (tk := s.toks) rfl st.tk
   exact hQ _ _ [_] ⟨_, rfl, tk, rfl, rfl⟩ stn fun Q' E' s'' hk hq => self_one (it := .str t 0) (ρ := ρ) (hk _ _ (Heap.get?_push_size _ rfl)) ⟨tk, rfl, rfl⟩ hq
  ·exact nn ev
 ·refine xEA r fun a ea hrf => ?_; subst hrf
  split at ev
  ·rename_i xs hx
   replace hQ := t1 ev ▸ hQ
   refine xEEAAEEA (st.at hx) fun a' o ea' ho vs n' hrf hv => ?_; subst hrf
   rw [ea] at ea'; replace ho := t1 ea' ▸ ho
   refine wpAny_pyIter_list (items := vs.toArray) ⟨_, ho, rfl, n', rfl⟩ ?_
   have stn := st.rawNew (o := { cls := .type "list_iterator", data := .fields #[.ref a, .int 0 0] }) (tk := s.toks) rfl st.tk
   exact hQ _ _ [_] ⟨_, rfl, a, ea, rfl, rfl⟩ stn fun Q' E' s'' hk hq => self_one (it := .list _ 0) (ρ := ρ) (hk _ _ (Heap.get?_push_size _ rfl)) ⟨a, ea, rfl, rfl⟩ hq
  ·exact nn ev
theorem ItEv.of {e : Expr} {f : PE} (h : EvOK W R k e f) : ItEv W R k e (iOf f) := by
 intro A fs env locs l G ρ σ s cx eo hl st it σ' ev Q E hQ
 refine bindP ev fun x σ₁ e1 e2 => ?_
 refine mapQ e2 fun it' e3 e4 => ?_
 cases e4
 exact h A fs env locs l G ρ σ s cx eo hl st x _ e1 _ E fun ρ₁ s₁ c₁ le₁ r₁ st₁ => iter_ok st₁ r₁ e3 fun s' I rs hI st' hself => hQ ρ₁ s' I rs le₁ hI st' hself
theorem callTy_gen {x : Str} {np pos : Pos} {n : String} {es : List Expr} {fs' : List PE} (e : R.globs.contains x = true) (hg : W.mg x = none) (hb : bootBuiltins x = some (.type n)) (hn : x ≠ "__name__") (hd : (x == ("__debug__" : Str)) = false) (h : EvsOK W R k es fs')
  {A : Around} {fs : List Env} {env : Env} {locs : List Loc} {l : List AV} {G : List (Loc × AV)} {ρ : List Addr} {σ : AH} {s : Shared} (cx : CxA A k fs (locs ++ G.map (·.1))) (eo : EnvOK R env locs) (hl : l.length = locs.length) (st : St W ρ σ (locs.zip l ++ G) s)
  {xs : List AV} {σ₁ : AH} (ev : pArgs fs' l σ = some (xs, σ₁)) {Q : Value → Shared → Prop} {E : Value → Shared → Prop}
  (hc : ∀ ρ₁ s₁ cs, Le ρ ρ₁ → VRs ρ₁ xs cs → St W ρ₁ σ₁ (locs.zip l ++ G) s₁ → wpAny (model W.prog W.w) A (call (.type n) cs) Q E s₁) : wpAny (model W.prog W.w) A (eval (.Call (.Name x np) es [] pos) env) Q E s := by
 refine Call_ ?_
 refine EvOK.bltnT (k := k) e hg hb hn hd A fs env locs l G ρ σ s cx eo hl st (.ty n) σ rfl _ E fun ρ₁ s₁ c₁ le₁ r₁ st₁ => ?_
 cases r₁
 have hplain := h.noStar pos env
 refine callWith_of (P := fun _ => True) (by rw [hplain]; rfl) (fun hp hx => ⟨.machine, .inr (.inl rfl), .of_pure rfl⟩) ?_
 cases h with
 | nil =>
  cases ev
  exact PyProof.Rows.evalArgs_none ⟨trivial, hc ρ₁ s₁ [] le₁ trivial st₁⟩
 | cons h hs r =>
  have main := args_ok (pos := pos) (EvsOK.cons h hs r) cx eo hl st₁ xs σ₁ ev (fun vs s₁ => True ∧ wpAny (model W.prog W.w) A (call (.type n) ([] ++ vs) []) Q E s₁) E fun ρ₂ s₂ cs le₂ r₂ st₂ =>
   ⟨trivial, hc ρ₂ s₂ cs (le₁.trans le₂) r₂ st₂⟩
  rw [hs] at main ⊢
  exact evalArgs_plain main
noncomputable def rngI (p : List AV × AH) : Option (AIt × AH) := match p.1 with
 | [x] => match x with
  | .int b => if Builtin.Range.small 0 b 1 then some (.range 0 (Builtin.Range.rangeSize 0 b 1) 1, p.2) else none
  | _ => none
 | [x, y, z] => match x with
  | .int a => match y with
   | .int b => match z with
    | .int c => if Builtin.Range.small a b c ∧ c ≠ 0 ∧ small c = true then some (.range a (Builtin.Range.rangeSize a b c) c, p.2) else none
    | _ => none
   | _ => none
  | _ => none
 | _ => none
theorem rng1 {b : Int} {h : AH} : rngI ([.int b], h) = if Builtin.Range.small 0 b 1 then some (.range 0 (Builtin.Range.rangeSize 0 b 1) 1, h) else none := rfl
theorem rng3 {a b c : Int} {h : AH} : rngI ([.int a, .int b, .int c], h) = if Builtin.Range.small a b c ∧ c ≠ 0 ∧ small c = true then some (.range a (Builtin.Range.rangeSize a b c) c, h) else none := rfl
noncomputable def iRange (fs : List PE) : PI := fun l h => (pArgs fs l h).bind rngI
theorem range_ok {A : Around} {ρ : List Addr} {σ : AH} {G : List (Loc × AV)} {s : Shared} (st : St W ρ σ G s) {r : Addr} {a b c : Int} {t u v : Tok} (h1 : r ∉ ρ) (h2 : W.B.get? r = none) (h3 : ∀ p ∈ G, p.1.addr ≠ r) (hr : IsRange s.heap r a b c t u v) (hs : Builtin.Range.small a b c = true) {Q : Value → Shared → Prop} {E : Value → Shared → Prop}
  (hQ : ∀ s' I rs, ItR ρ I (.range a (Builtin.Range.rangeSize a b c) c) rs → St W ρ σ (rs ++ G) s' → SelfIt W A I s' → Q (.ref I) s') :
  wpAny (model W.prog W.w) A (pyIter (.ref r)) Q E s := by
 refine wpAny_pyIter_range hr hs ?_
 have stn := st.rawNew (o := { cls := .type "range_iterator", data := .fields #[rawInt a, rawInt (Builtin.Range.rangeSize a b c), rawInt c] }) (tk := s.toks) rfl st.tk
 exact hQ _ _ [_] rfl stn fun Q' E' s'' hk hq => wpAny_pyIter_rangeiter (hk _ _ (Heap.get?_push_size _ rfl)) hq
theorem ItEv.range {x : Str} {np pos : Pos} {es : List Expr} {fs' : List PE} (e : R.globs.contains x = true) (hg : W.mg x = none) (hb : bootBuiltins x = some (.type "range")) (hn : x ≠ "__name__") (hd : (x == ("__debug__" : Str)) = false) (h : EvsOK W R k es fs') :
  ItEv W R k (.Call (.Name x np) es [] pos) (iRange fs') := by
 intro A fs env locs l G ρ σ s cx eo hl st it σ' ev Q E hQ
 refine bindP ev fun xs σ₁ e1 e2 => ?_
 refine callTy_gen e hg hb hn hd h cx eo hl st e1 fun ρ₁ s₁ cs le₁ r₁ st₁ => ?_
 obtain ⟨n1, n2, n3⟩ := st₁.newAddr
 rcases xs with _ | ⟨x, _ | ⟨y, _ | ⟨z, _ | ⟨u, xs⟩⟩⟩⟩
 ·exact nn e2
 ·refine xEEAA r₁.cons_of fun c1 us hrf q1 r2 => ?_; subst hrf
  cases r2.nil_of
  cases x with
  | int b => ?_
  | _ => exact nn e2
  obtain ⟨t, rfl⟩ := q1
  rw [rng1] at e2
  split at e2
  ·rename_i hs
   cases e2
   refine call_range_1 (range_ok (st₁.push _ _ (Nat.succ_pos _)) n1 n2 n3 (Heap.get?_push_size _ rfl) hs fun s' I rs hI st' hself => hQ ρ₁ s' I rs le₁ hI st' hself)
  ·exact nn e2
 ·exact nn e2
 ·refine xEEAA r₁.cons_of fun c1 us hrf q1 r2 => ?_; subst hrf
  refine xEEAA r2.cons_of fun c2 us hrf q2 r3 => ?_; subst hrf
  refine xEEAA r3.cons_of fun c3 us hrf q3 r4 => ?_; subst hrf
  cases r4.nil_of
  cases x with
  | int a => ?_
  | _ => exact nn e2
  cases y with
  | int b => ?_
  | _ => exact nn e2
  cases z with
  | int c => ?_
  | _ => exact nn e2
  obtain ⟨t1, rfl⟩ := q1
  obtain ⟨t2, rfl⟩ := q2
  obtain ⟨t3, rfl⟩ := q3
  rw [rng3] at e2
  split at e2
  ·rename_i hs
   cases e2
   refine call_range_3 hs.2.1 (range_ok (st₁.push _ s₁.toks st₁.tk) n1 n2 n3 (Heap.get?_push_size _ rfl) hs.1 fun s' I rs hI st' hself => hQ ρ₁ s' I rs le₁ hI st' hself) (Or.inl (PyProof.noPylong_small (by have := small_lt hs.2.2; exact o41 this)))
  ·exact nn e2
 ·exact nn e2
noncomputable def iEnum (fs : List PE) : PI := fun l h => (pArgs fs l h).bind fun p => match p.1 with
 | [.ref n] => match p.2[n]? with
  | some (.list _) => some (.enum n 0, p.2)
  | _ => none
 | _ => none
theorem ItEv.enum {x : Str} {np pos : Pos} {es : List Expr} {fs' : List PE} (e : R.globs.contains x = true) (hg : W.mg x = none) (hb : bootBuiltins x = some (.type "enumerate")) (hn : x ≠ "__name__") (hd : (x == ("__debug__" : Str)) = false) (h : EvsOK W R k es fs') :
  ItEv W R k (.Call (.Name x np) es [] pos) (iEnum fs') := by
 intro A fs env locs l G ρ σ s cx eo hl st it σ' ev Q E hQ
 refine bindP ev fun xs σ₁ e1 e2 => ?_
 refine callTy_gen e hg hb hn hd h cx eo hl st e1 fun ρ₁ s₁ cs le₁ r₁ st₁ => ?_
 dsimp only at e2
 split at e2
 ·rename_i n
  refine xEEAA r₁.cons_of fun c1 us hrf q1 r2 => ?_; subst hrf
  cases r2.nil_of
  refine xEA q1 fun a ea hrf => ?_; subst hrf
  split at e2
  ·rename_i xs hx
   cases e2
   refine xEEAAEEA (st₁.at hx) fun a' o ea' ho vs n' hrf hv => ?_; subst hrf
   rw [ea] at ea'; replace ho := t1 ea' ▸ ho
   obtain ⟨n1, n2, n3⟩ := st₁.newAddr
   refine call_enumerate_list (items := vs.toArray) ⟨_, ho, rfl, n', rfl⟩ fun h' he hit hsz hk => ?_
   refine xEAA hit fun oi hoi hci hdi => ?_
   have st₂ : St W ρ₁ σ' (locs.zip l ++ G) { s₁ with heap := h', toks := s₁.toks } := st₁.keeps hk st₁.tk
   have f0 : ∀ a, s₁.heap.objs.size ≤ a → a ∉ ρ₁ ∧ W.B.get? a = none ∧ ∀ p ∈ locs.zip l ++ G, p.1.addr ≠ a := fun a ha => by
    refine ⟨fun h => ?_, ?_, fun p hp e => ?_⟩
    ·obtain ⟨o, ho⟩ := st₁.there h
     exact absurd (Heap.lt_size ho) (Nat.not_lt.mpr ha)
    ·cases q : W.B.get? a with
     | none => rfl
     | some o => exact absurd (Heap.lt_size (st₁.stays _ _ q)) (Nat.not_lt.mpr ha)
    ·obtain ⟨o, ho⟩ := (st₁.locs p hp).there
     rw [e] at ho
     exact absurd (Heap.lt_size ho) (Nat.not_lt.mpr ha)
   obtain ⟨a1, a2, a3⟩ := f0 s₁.heap.objs.size (Nat.le_refl _)
   obtain ⟨b1, b2, b3⟩ := f0 (s₁.heap.objs.size + 1) (Nat.le_succ _)
   have st₃ := st₂.rawAdd a1 a2 a3 hoi
   have st₄ := st₃.rawAdd b1 b2 (fun p hp => by
    rcases zN hp with rfl | hp
    ·exact Nat.ne_of_lt (Nat.lt_succ_self _)
    ·exact b3 p hp) he
   have hself : SelfIt W A (s₁.heap.objs.size + 1) { s₁ with heap := h', toks := s₁.toks } := by
    intro Q' E' s'' hkk hq
    have hT : s''.TypeIs (.ref (s₁.heap.objs.size + 1)) "enumerate" := ⟨_, hkk _ _ he, rfl⟩
    refine wpAny_pyIter_slot hT F.slot_enumerate_iter (wpAny_call_entry F.slot_enumerate_iter hT F.entry_enumerate_iter ?_ (F.args_enumerate_iter_1 _))
    show wpAny _ _ (ret (.ref (s₁.heap.objs.size + 1))) _ _ s''
    exact wpAny_pure ⟨_, rfl, "enumerate", _, hT, F.slot_enumerate_next.lookup, hq⟩
   exact hself _ _ _ (fun _ _ h => h) (hQ ρ₁ _ _ [_, _] le₁ ⟨_, oi, .none, rfl, a, ea, hci, hdi⟩ st₄ hself)
  ·exact nn e2
 ·exact nn e2
end LM
noncomputable section LN
open PySem PySem.W PySem.Calls PyProof.Rows
variable {W : Wd} {R : Rs} {k : Nat}
theorem St.freshAt {ρ : List Addr} {σ : AH} {G : List (Loc × AV)} {s : Shared} (st : St W ρ σ G s) {a : Addr} (ha : s.heap.objs.size ≤ a) : a ∉ ρ ∧ W.B.get? a = none ∧ ∀ p ∈ G, p.1.addr ≠ a := by
 refine ⟨fun h => ?_, ?_, fun p hp e => ?_⟩
 ·obtain ⟨o, ho⟩ := st.there h
  exact absurd (Heap.lt_size ho) (Nat.not_lt.mpr ha)
 ·cases q : W.B.get? a with
  | none => rfl
  | some o => exact absurd (Heap.lt_size (st.stays _ _ q)) (Nat.not_lt.mpr ha)
 ·obtain ⟨o, ho⟩ := (st.locs p hp).there
  rw [e] at ho
  exact absurd (Heap.lt_size ho) (Nat.not_lt.mpr ha)
noncomputable def zE : Obj := pO .none .none
noncomputable abbrev zh1 (h : Heap) (o1 : Obj) : Heap := h.push o1
noncomputable abbrev zh2 (h : Heap) (o1 o2 : Obj) : Heap := (zh1 h o1).push o2
noncomputable abbrev zh3 (h : Heap) (o1 o2 : Obj) : Heap := (zh2 h o1 o2).push { cls := .type "tuple", data := .seq #[.ref h.objs.size, .ref (zh1 h o1).objs.size] }
noncomputable abbrev zh4 (h : Heap) (o1 o2 : Obj) : Heap := (zh3 h o1 o2).push { cls := .type "tuple", data := .seq #[.none, .none] }
noncomputable abbrev zh5 (h : Heap) (o1 o2 : Obj) : Heap := (zh4 h o1 o2).push { cls := .type "zip", data := .fields #[.none, .bool false, .bool false, .ref (zh2 h o1 o2).objs.size, .ref (zh3 h o1 o2).objs.size] }
noncomputable abbrev lO (l : Addr) : Obj := { cls := .type "list_iterator", data := .fields #[.ref l, .int 0 0] }
noncomputable abbrev tO (x : Str) (t : Tok) : Obj := { cls := .type (strIterType x), data := .fields #[.str x t, .int 0 0] }
set_option maxHeartbeats 4000000 in
theorem meets_zip_sl (x : Str) (t : Tok) (l2 : Addr) (ys : Array Value) :
  Meets (Builtin.«zip.__new__» ⟨[.type "zip", .str x t, .ref l2], []⟩) (fun _ R s => s.heap.IsList l2 ys ∧ R (.ok (.ret (.ref (zh4 s.heap (tO x t) (lO l2)).objs.size))) { s with heap := zh5 s.heap (tO x t) (lO l2) }) :=
 .of_wp fun prog w A R s h => by
  obtain ⟨hp, g, d, tk, os⟩ := s; obtain ⟨hl2, h⟩ := h
  have hsub := sub_zip
  have hL2 : Heap.IsList (Shared.heap ⟨hp.push (tO x t), g, d, tk, os⟩) l2 ys := Heap.IsList.push hl2 _
  wp_walk using wpAny_pyIter_strU, wpAny_pyIter_list hL2
  exact ⟨_, rfl, h⟩
theorem zip_made {A : Around} {ρ : List Addr} {σ : AH} {G : List (Loc × AV)} {s : Shared} (st : St W ρ σ G s) {o1 o2 : Obj} {a b : SIt} (r1 : SR ρ a o1) (r2 : SR ρ b o2) (f1 : o1.isFreed = false) (f2 : o2.isFreed = false) {h' : Heap} (he : h' = zh5 s.heap o1 o2)
  {Q : Value → Shared → Prop} {E : Value → Shared → Prop} (hQ : ∀ s' I rs, ItR ρ I (.zip a b) rs → St W ρ σ (rs ++ G) s' → SelfIt W A I s' → Q (.ref I) s') :
  (zh4 s.heap o1 o2).objs.size = s.heap.objs.size + 4 ∧ h'.get? (s.heap.objs.size + 4) = some (zO .none (s.heap.objs.size + 2) (s.heap.objs.size + 3)) ∧ wpAny (model W.prog W.w) A (pyIter (.ref (s.heap.objs.size + 4))) Q E { s with heap := h' } := by
 have z1 : (zh1 s.heap o1).objs.size = s.heap.objs.size + 1 := Heap.size_push ..
 have z2 : (zh2 s.heap o1 o2).objs.size = s.heap.objs.size + 2 := by rw [Heap.size_push, z1]
 have z3 : (zh3 s.heap o1 o2).objs.size = s.heap.objs.size + 3 := by rw [Heap.size_push, z2]
 have z4 : (zh4 s.heap o1 o2).objs.size = s.heap.objs.size + 4 := by rw [Heap.size_push, z3]
 have z5 : (zh5 s.heap o1 o2).objs.size = s.heap.objs.size + 5 := by rw [Heap.size_push, z4]
 have g5 : (zh5 s.heap o1 o2).get? (zh4 s.heap o1 o2).objs.size = some _ := Heap.get?_push_size _ rfl
 have g4 : (zh5 s.heap o1 o2).get? (zh3 s.heap o1 o2).objs.size = some _ := Heap.get?_push_of_some _ (Heap.get?_push_size _ rfl)
 have g3 : (zh5 s.heap o1 o2).get? (zh2 s.heap o1 o2).objs.size = some _ := Heap.get?_push_of_some _ (Heap.get?_push_of_some _ (Heap.get?_push_size _ rfl))
 have g2 : (zh5 s.heap o1 o2).get? (zh1 s.heap o1).objs.size = some _ := Heap.get?_push_of_some _ (Heap.get?_push_of_some _ (Heap.get?_push_of_some _ (Heap.get?_push_size _ f2)))
 have g1 : (zh5 s.heap o1 o2).get? s.heap.objs.size = some _ := Heap.get?_push_of_some _ (Heap.get?_push_of_some _ (Heap.get?_push_of_some _ (Heap.get?_push_of_some _ (Heap.get?_push_size _ f1))))
 rw [z2, z3, z4] at g5
 rw [z1, z2] at g3
 rw [z3] at g4
 rw [z1] at g2
 subst he
 have keep : ∀ c o, s.heap.get? c = some o → (zh5 s.heap o1 o2).get? c = some o := fun c o x =>
  Heap.get?_push_of_some _ (Heap.get?_push_of_some _ (Heap.get?_push_of_some _ (Heap.get?_push_of_some _ (Heap.get?_push_of_some _ x))))
 have st₀ : St W ρ σ G { s with heap := zh5 s.heap o1 o2, toks := s.toks } := st.keeps keep st.tk
 generalize zh5 s.heap o1 o2 = H at g1 g2 g3 g4 g5 st₀
 have fr := fun a ha => st.freshAt (a := a) ha
 generalize hN : s.heap.objs.size = N at g1 g2 g3 g4 g5 fr
 have S5 := st₀.rawAdd (fr (N + 1) (by exact Nat.le_add_right _ _)).1 (fr (N + 1) (by exact Nat.le_add_right _ _)).2.1 (fr (N + 1) (by exact Nat.le_add_right _ _)).2.2 g2
 have S4 := S5.rawAdd (fr N (by exact Nat.le_refl _)).1 (fr N (by exact Nat.le_refl _)).2.1 (fun p hp => by
  rcases zN hp with rfl | hp
  ·show N + 1 ≠ N; exact Nat.ne_of_gt (Nat.lt_succ_self _)
  ·exact (fr N (by exact Nat.le_refl _)).2.2 p hp) g1
 have S3 := S4.rawAdd (fr (N + 3) (by exact Nat.le_add_right _ _)).1 (fr (N + 3) (by exact Nat.le_add_right _ _)).2.1 (fun p hp => by
  rcases zN hp with rfl | hp
  ·show N ≠ N + 3; exact Nat.ne_of_lt (Nat.lt_add_of_pos_right (by decide))
  rcases zN hp with rfl | hp
  ·show N + 1 ≠ N + 3; exact Nat.ne_of_lt (Nat.add_lt_add_left (by decide) _)
  ·exact (fr (N + 3) (by exact Nat.le_add_right _ _)).2.2 p hp) g4
 have S2 := S3.rawAdd (fr (N + 2) (by exact Nat.le_add_right _ _)).1 (fr (N + 2) (by exact Nat.le_add_right _ _)).2.1 (fun p hp => by
  rcases zN hp with rfl | hp
  ·show N + 3 ≠ N + 2; exact Nat.ne_of_gt (Nat.lt_succ_self _)
  rcases zN hp with rfl | hp
  ·show N ≠ N + 2; exact Nat.ne_of_lt (Nat.lt_add_of_pos_right (by decide))
  rcases zN hp with rfl | hp
  ·show N + 1 ≠ N + 2; exact Nat.ne_of_lt (Nat.lt_succ_self _)
  ·exact (fr (N + 2) (by exact Nat.le_add_right _ _)).2.2 p hp) g3
 have S1 := S2.rawAdd (fr (N + 4) (by exact Nat.le_add_right _ _)).1 (fr (N + 4) (by exact Nat.le_add_right _ _)).2.1 (fun p hp => by
  rcases zN hp with rfl | hp
  ·show N + 2 ≠ N + 4; exact Nat.ne_of_lt (Nat.add_lt_add_left (by decide) _)
  rcases zN hp with rfl | hp
  ·show N + 3 ≠ N + 4; exact Nat.ne_of_lt (Nat.lt_succ_self _)
  rcases zN hp with rfl | hp
  ·show N ≠ N + 4; exact Nat.ne_of_lt (Nat.lt_add_of_pos_right (by decide))
  rcases zN hp with rfl | hp
  ·show N + 1 ≠ N + 4; exact Nat.ne_of_lt (Nat.add_lt_add_left (by decide) _)
  ·exact (fr (N + 4) (by exact Nat.le_add_right _ _)).2.2 p hp) g5
 refine ⟨by rw [z4, hN], g5, ?_⟩
 have hself : SelfIt W A (N + 4) { s with heap := H, toks := s.toks } := fun Q' E' s'' hkk hq => wpAny_pyIter_zip (hkk _ _ g5) hq
 exact hself _ _ _ (fun _ _ h => h) (hQ _ _ [_, _, _, _, _] ⟨N + 2, N + 3, N, N + 1, o1, o2, .none, .none, rfl, r1, r2⟩ S1 hself)
noncomputable def aSIt : AV → AH → Option SIt
 | .ref n, h => match h[n]? with
  | some (.list _) => some (.list n 0)
  | _ => none
 | .str t, _ => if t.all (· < 128) then some (.str t 0) else none
 | _, _ => none
noncomputable def iZip (fs : List PE) : PI := fun l h => (pArgs fs l h).bind fun p => match p.1 with
 | [x, .ref n] => (aSIt x p.2).bind fun a => (aSIt (.ref n) p.2).map fun b => (.zip a b, p.2)
 | _ => none
theorem ItEv.zip {x : Str} {np pos : Pos} {es : List Expr} {fs' : List PE} (e : R.globs.contains x = true) (hg : W.mg x = none) (hb : bootBuiltins x = some (.type "zip")) (hn : x ≠ "__name__") (hd : (x == ("__debug__" : Str)) = false) (h : EvsOK W R k es fs') :
  ItEv W R k (.Call (.Name x np) es [] pos) (iZip fs') := by
 intro A fs env locs l G ρ σ s cx eo hl st it σ' ev Q E hQ
 refine bindP ev fun xs σ₁ e1 e2 => ?_
 refine callTy_gen e hg hb hn hd h cx eo hl st e1 fun ρ₁ s₁ cs le₁ r₁ st₁ => ?_
 dsimp only at e2
 split at e2
 ·rename_i x n
  refine xEEAA r₁.cons_of fun c1 us hrf q1 r2 => ?_; subst hrf
  refine xEEAA r2.cons_of fun c2 us hrf q2 r3 => ?_; subst hrf
  cases r3.nil_of
  refine bindQ e2 fun a ea e3 => ?_
  refine mapQ e3 fun b eb e4 => ?_
  cases e4
  refine xEA q2 fun a2 ea2 hrf => ?_; subst hrf
  simp only [aSIt] at eb
  split at eb
  ·rename_i ys hy
   replace hQ := t1 eb ▸ hQ
   refine xEEAAEEA (st₁.at hy) fun a' o ea' ho vs n' hrf hv => ?_; subst hrf
   rw [ea2] at ea'; replace ho := t1 ea' ▸ ho
   have hl2 : s₁.heap.IsList a2 vs.toArray := ⟨_, ho, rfl, n', rfl⟩
   cases x <;> simp only [aSIt] at ea <;> try exact nn ea
   ·rename_i t
    split at ea
    ·rename_i hasc
     replace hQ := t1 ea ▸ hQ
     obtain ⟨tk, rfl⟩ := q1
     have hty : strIterType ⟨t.toArray⟩ = "str_ascii_iterator" := by
      unfold strIterType
      rw [if_pos (by simpa using hasc)]
     obtain ⟨m1, m2, m3⟩ := zip_made (A := A) (E := E) st₁ (o1 := tO ⟨t.toArray⟩ tk) (o2 := lO a2) (a := .str t 0) (b := .list n 0) ⟨tk, by show Value.type (strIterType _) = _; rw [hty], rfl⟩ ⟨a2, ea2, rfl, rfl⟩ rfl rfl rfl fun s' I rs hI st' hself => hQ ρ₁ s' I rs le₁ hI st' hself
     refine callType_new F.called_zip (by decide) (F.typeCall_zip_2 _ _) (F.newCall_zip_2 _ _) (fun obj => F.args_object_init_3 obj _ _) F.entry_zip_new (meets_zip_sl ⟨t.toArray⟩ tk a2 vs.toArray) ⟨hl2, ?_⟩
     show _ ∧ _
     rw [m1]
     exact ⟨⟨_, m2, rfl⟩, m3⟩
    ·exact nn ea
   ·refine xEA q1 fun a1 ea1 hrf => ?_; subst hrf
    split at ea
    ·rename_i xs hx
     replace hQ := t1 ea ▸ hQ
     refine xEEAAEEA (st₁.at hx) fun a' o ea' ho' vs' n'' hrf hv' => ?_; subst hrf
     rw [ea1] at ea'; replace ho' := t1 ea' ▸ ho'
     have hl1 : s₁.heap.IsList a1 vs'.toArray := ⟨_, ho', rfl, n'', rfl⟩
     obtain ⟨m1, m2, m3⟩ := zip_made (A := A) (E := E) st₁ (o1 := lO a1) (o2 := lO a2) (a := .list _ 0) (b := .list n 0) ⟨a1, ea1, rfl, rfl⟩ ⟨a2, ea2, rfl, rfl⟩ rfl rfl rfl fun s' I rs hI st' hself => hQ ρ₁ s' I rs le₁ hI st' hself
     refine callType_new F.called_zip (by decide) (F.typeCall_zip_2 _ _) (F.newCall_zip_2 _ _) (fun obj => F.args_object_init_3 obj _ _) F.entry_zip_new (meets_zip_new a1 a2 vs'.toArray vs.toArray) ⟨hl1, hl2, ?_⟩
     show _ ∧ _
     have m1' : (zipH4 s₁.heap a1 a2).objs.size = s₁.heap.objs.size + 4 := m1
     rw [m1']
     exact ⟨⟨_, m2, rfl⟩, m3⟩
    ·exact nn ea
  ·exact nn eb
 ·exact nn e2
inductive Tgt where
 | nm (i : Nat) | tup (is : List Nat)
noncomputable def aBind : Tgt → AV → List AV → AH → Option (List AV)
 | .nm i, v, l, _ => some (l.set i v)
 | .tup is, v, l, h => match v with
  | .ref n => match h[n]? with
   | some (.tup xs) => if xs.length = is.length then some (sets l is xs) else none
   | _ => none
  | _ => none
inductive TgtOK (R : Rs) : Expr → Tgt → Prop
 | nm {x : Str} {p : Pos} {i : Nat} (hx : StoreAt R x i) : TgtOK R (.Name x p) (.nm i)
 | tup {elts : List Expr} {j : Nat} {p : Pos} {names : List Str} {is : List Nat} {ps : List Pos} (he : ∀ env, assignEach elts env = (names.zip ps).map fun p => (false, assign (.Name p.1 p.2) env)) (hps : ps.length = names.length)
   (hx : ∀ p ∈ names.zip is, StoreAt R p.1 p.2) (hlen : names.length = is.length) : TgtOK R (.Tuple elts j p) (.tup is)
noncomputable def AIt.fits : AIt → Tgt → Bool
 | .one _, _ => true
 | .range _ _ _, .nm _ => true
 | .enum _ _, .tup _ => true
 | .zip _ _, .tup _ => true
 | _, _ => false
theorem TgtOK.tgt {t : Expr} {tg : Tgt} (h : TgtOK R t tg) {it : AIt} (hf : it.fits tg = true) : it.tgt t := by
 cases h <;> cases it <;> try exact (Bool.false_ne_true hf).elim
 ·exact .inl ⟨_, _, rfl⟩
 ·exact ⟨_, _, rfl⟩
 ·exact .inr ⟨_, _, _, rfl⟩
 ·exact ⟨_, _, _, rfl⟩
 ·exact ⟨_, _, _, rfl⟩
theorem aBind_length {tg : Tgt} {v : AV} {l l' : List AV} {h : AH} (e : aBind tg v l h = some l') : l'.length = l.length := by
 cases tg with
 | nm i => cases e; simp
 | tup is =>
  simp only [aBind] at e
  split at e
  ·split at e
   ·split at e
    ·obtain rfl := Option.some.inj e; exact sets_length ..
    ·exact nn e
   ·exact nn e
  ·exact nn e
theorem assign_ok {A : Around} {env : Env} {locs : List Loc} {l l' : List AV} {G : List (Loc × AV)} {ρ : List Addr} {σ : AH} {s : Shared} (hh : A.handled = none) (eo : EnvOK R env locs) (hl : l.length = locs.length) (st : St W ρ σ (locs.zip l ++ G) s)
  {t : Expr} {tg : Tgt} (ht : TgtOK R t tg) {v : AV} {c : Value} (r : VR ρ v c) (e : aBind tg v l σ = some l') {Q : Unit → Shared → Prop} {E : Value → Shared → Prop} (hQ : ∀ s', St W ρ σ (locs.zip l' ++ G) s' → Q () s') : wpAny (model W.prog W.w) A (assign t env c) Q E s := by
 cases ht with
 | nm hx => cases e; exact wpAny_assign_Name (store_ok eo hl st hx r hQ)
 | tup he hps hx hlen =>
  simp only [aBind] at e
  split at e
  ·split at e
   ·rename_i xs hxs
    split at e
    ·rename_i hn
     replace hQ := t1 e ▸ hQ
     exact assignTup_ok hh eo hl st (he env) hps hx hlen hxs hn r hQ
    ·exact nn e
   ·exact nn e
  ·exact nn e
noncomputable def fLoop (tg : Tgt) (b : PS) : Nat → AIt → PS
 | 0, _, _, _ => none
 | n + 1, it, l, h => if it.fits tg then (aNext it h).bind fun r => match r.1 with
   | none => some (.nxt, l, r.2.2)
   | some v => (aBind tg v l r.2.2).bind fun l1 => (b l1 r.2.2).bind fun q => match q.1 with
    | .nxt | .cont => fLoop tg b n r.2.1 q.2.1 q.2.2
    | .brk => some (.nxt, q.2.1, q.2.2)
    | .ret v => some (.ret v, q.2.1, q.2.2)
  else none
noncomputable def sFor (g : PI) (tg : Tgt) (b : PS) : PS := fun l h => (g l h).bind fun p => fLoop tg b FUEL p.1 l p.2
theorem CxA.of_raws {A : Around} {k : Nat} {fs : List Env} {locs : List Loc} {G rs : List (Loc × AV)} (cx : CxA A k fs (locs ++ G.map (·.1))) : CxA A k fs (locs ++ (rs ++ G).map (·.1)) := by
 refine ⟨cx.handled, cx.depth, cx.units, cx.frames, fun e he => ?_⟩
 refine xAEEA (cx.fun' e he) fun h1 L x h2 h3 => ?_
 refine ⟨h1, L, x, h2, ?_⟩
 simp only [List.map_append, List.mem_append] at h3 ⊢
 rcases h3 with h3 | h3
 ·exact .inl h3
 ·exact .inr (.inr h3)
theorem apart_perm {p q : Loc × AV} (h : p.1.apart q.1) : q.1.apart p.1 := apart_symm h
theorem St.perm {ρ : List Addr} {σ : AH} {G G' : List (Loc × AV)} {s : Shared} (st : St W ρ σ G s) (h : G.Perm G') : St W ρ σ G' s :=
 ⟨st.stays, st.os, st.gens, st.len, st.objs, st.fresh, st.nodup, fun p hp => st.locs p (h.mem_iff.mpr hp), fun p hp => st.lfresh p (h.mem_iff.mpr hp), (h.pairwise_iff (fun h => apart_symm h)).mp st.apart, st.tk⟩
theorem perm_raws (a b c : List (Loc × AV)) : (a ++ (b ++ c)).Perm (b ++ (a ++ c)) := by
 rw [← List.append_assoc, ← List.append_assoc]
 exact List.Perm.append_right _ List.perm_append_comm
theorem ExOK.for {t e : Expr} {b : List Stmt} {pos : Pos} {tg : Tgt} {g : PI} {f : PS} (ht : TgtOK R t tg) (he : ItEv W R k e g) (hb : FsOK W R k b f) (hs : ∀ env x, foldedSetIterable e env x = pure x) : ExOK W R k (.For t e b [] pos) (sFor g tg f) := by
 intro A fs env locs l G ρ σ s cx eo hfe hl st v l' σ' ev Q E hQ
 refine bindP ev fun it σ₁ e1 e2 => ?_
 refine wpAny_For (he A fs env locs l G ρ σ s cx eo hl st it σ₁ e1 _ E fun ρ₁ s₁ I rs le₁ hI st₁ _ => ?_) (hs env)
 dsimp only at e2
 refine codeAny_forLoop_any (fun n s' => ∃ ρ₂ σ₂ l₂ it₂ rs₂, Le ρ ρ₂ ∧ l₂.length = l.length ∧ ItR ρ₂ I it₂ rs₂ ∧ St W ρ₂ σ₂ (rs₂ ++ (locs.zip l₂ ++ G)) s' ∧ fLoop tg f n it₂ l₂ σ₂ = some (v, l', σ')) ?_ FUEL ⟨ρ₁, σ₁, l, it, rs, le₁, rfl, hI, st₁, e2⟩
 rintro n s₂ ⟨ρ₂, σ₂, l₂, it₂, rs₂, le₂, hl₂, hI₂, st₂, e⟩
 cases n with
 | zero => cases e
 | succ n =>
  unfold fLoop at e
  split at e
  ·rename_i hf
   refine bindP3 e fun r it₃ σ₃ e3 e4 => ?_
   refine turn_ok cx.handled st₂ hI₂ e3 (ht.tgt hf) (fun hr s₃ st₃ => ?_) fun v₁ hr ρ₃ c rs₃ s₃ le₃ rc hI₃ st₃ => ?_
   ·subst hr
    cases e4
    exact wpAny_execs_nil (hQ ρ₂ s₃ _ le₂ rfl hl₂ st₃)
   ·subst hr
    refine bindQ e4 fun l₄ e5 e6 => ?_
    refine bindP3 e6 fun fl l₅ σ₅ e7 e8 => ?_
    have hl₄ := aBind_length e5
    refine assign_ok (G := rs₃ ++ G) cx.handled eo (hl₂.trans hl) (st₃.perm (perm_raws _ _ _)) ht rc e5 fun s₄ st₄ => ?_
    refine hb A fs env locs l₄ (rs₃ ++ G) ρ₃ σ₃ s₄ cx.of_raws eo hfe (hl₄.trans (hl₂.trans hl)) st₄ fl l₅ σ₅ e7 _ _ fun ρ₅ s₅ cf le₅ rf hl₅ st₅ => ?_
    have le := le₂.trans (le₃.trans le₅)
    have hll := hl₅.trans (hl₄.trans hl₂)
    have st₅' := st₅.perm (perm_raws _ _ _)
    have st₅G : St W ρ₅ σ₅ (locs.zip l₅ ++ G) s₅ := st₅'.sub (List.sublist_append_right _ _)
    cases fl with
    | nxt => cases rf; exact ⟨n, Nat.lt_succ_self _, ρ₅, σ₅, l₅, it₃, rs₃, le, hll, hI₃.mono le₅, st₅', e8⟩
    | cont => cases rf; exact ⟨n, Nat.lt_succ_self _, ρ₅, σ₅, l₅, it₃, rs₃, le, hll, hI₃.mono le₅, st₅', e8⟩
    | brk => cases rf; cases e8; exact hQ ρ₅ s₅ _ le rfl hll st₅G
    | ret v =>
     refine xEA rf fun c hrf rc => ?_; subst hrf
     cases e8
     exact hQ ρ₅ s₅ _ le ⟨c, rfl, rc⟩ hll st₅G
  ·exact nn e
end LN
noncomputable section LO
open PySem PySem.W PySem.Calls PyProof.Rows
variable {W : Wd} {R : Rs} {k : Nat}
theorem apart_of_addr {p q : Loc} (h : p.addr ≠ q.addr) : p.apart q := by
 cases p <;> cases q <;> first | exact h | exact .inl h
theorem St.frame {ρ : List Addr} {σ : AH} {G : List (Loc × AV)} {s : Shared} (st : St W ρ σ G s) {h' : Heap} {tk : Nat} (hk : ∀ b o, s.heap.get? b = some o → h'.get? b = some o) (htk : 0 < tk) {own : List Loc} {vals : List AV}
  (hv : ∀ p ∈ own.zip vals, LocVal ρ h' p.1 p.2) (hf : ∀ q ∈ own, s.heap.objs.size ≤ q.addr) (hap : own.Pairwise Loc.apart) : St W ρ σ (own.zip vals ++ G) { s with heap := h', toks := tk } := by
 have st' : St W ρ σ G { s with heap := h', toks := tk } := st.keeps hk htk
 have hmem : ∀ p ∈ own.zip vals, p.1 ∈ own := fun p hp => (List.of_mem_zip (a := p.1) (b := p.2) hp).1
 refine ⟨st'.stays, st'.os, st'.gens, st'.len, st'.objs, st'.fresh, st'.nodup, fun p hp => ?_, fun p hp => ?_, List.pairwise_append.mpr ⟨?_, st'.apart, fun p hp q hq => ?_⟩, htk⟩
 ·rcases List.mem_append.mp hp with h | h
  ·exact hv p h
  ·exact st'.locs p h
 ·rcases List.mem_append.mp hp with h | h
  ·have := st.freshAt (hf _ (hmem p h))
   exact ⟨this.1, this.2.1⟩
  ·exact st'.lfresh p h
 ·have : ∀ (own : List Loc) (vals : List AV), own.Pairwise Loc.apart → (own.zip vals).Pairwise fun p q => p.1.apart q.1 := by
   intro own
   induction own with
   | nil => intro vals _; simp
   | cons a own ih =>
    intro vals h
    cases vals with
    | nil => simp
    | cons v vals =>
     obtain ⟨h1, h2⟩ := List.pairwise_cons.mp h
     exact List.pairwise_cons.mpr ⟨fun p hp => h1 p.1 (List.of_mem_zip (a := p.1) (b := p.2) hp).1, ih vals h2⟩
  exact this own vals hap
 ·have := st.freshAt (hf _ (hmem p hp))
  exact apart_of_addr fun e => this.2.2 q hq e.symm
theorem lookup_mem {α : Type} {l : List (Str × α)} {x : Str} {v : α} (h : l.lookup x = some v) : (x, v) ∈ l := mem_of_lookup h
theorem lookup_app {α : Type} : ∀ (l l' : List (Str × α)) (x : Str), (l ++ l').lookup x = (l.lookup x).or (l'.lookup x)
 | [], l', x => by simp
 | (y, v) :: r, l', x => by
  simp only [List.cons_append, List.lookup_cons]
  cases x == y <;> simp [lookup_app r l' x]
noncomputable def closL (cells : List (Str × Addr)) : List (Str × NameKind) → List (Str × Addr) → List (Str × Addr)
 | [], acc => acc
 | (n, k) :: r, acc => if k == .free then closL cells r ((n, (cells.lookup n).getD 0) :: acc) else closL cells r acc
theorem closL_app (cells : List (Str × Addr)) : ∀ (names : List (Str × NameKind)) (acc : List (Str × Addr)), closL cells names acc = closL cells names [] ++ acc
 | [], acc => rfl
 | (n, k) :: r, acc => by
  unfold closL
  split
  ·rw [closL_app cells r (_ :: acc), closL_app cells r [_]]; simp
  ·exact closL_app cells r acc
theorem closL_mem {cells : List (Str × Addr)} : ∀ {names : List (Str × NameKind)} {x : Str} {a : Addr}, (x, a) ∈ closL cells names [] → (x, NameKind.free) ∈ names ∧ a = (cells.lookup x).getD 0
 | (n, k) :: r, x, a, h => by
  unfold closL at h
  split at h
  ·rename_i hk
   rw [closL_app] at h
   rcases List.mem_append.mp h with h | h
   ·obtain ⟨h1, h2⟩ := closL_mem h
    exact ⟨List.mem_cons_of_mem _ h1, h2⟩
   ·cases zL h
    rw [eq_of_beq hk]
    exact ⟨List.mem_cons_self .., rfl⟩
  ·obtain ⟨h1, h2⟩ := closL_mem h
   exact ⟨List.mem_cons_of_mem _ h1, h2⟩
theorem closL_has {cells : List (Str × Addr)} : ∀ {names : List (Str × NameKind)} {x : Str}, (x, NameKind.free) ∈ names → ∃ a, (closL cells names []).lookup x = some a
 | (n, k) :: r, x, h => by
  unfold closL
  rcases zN h with e | h
  ·cases e
   rw [if_pos (by rfl), closL_app, lookup_app]
   cases h : (closL cells r []).lookup n with
   | none => exact ⟨(cells.lookup n).getD 0, by simp⟩
   | some a => exact ⟨a, by simp⟩
  ·obtain ⟨a, e⟩ := closL_has (cells := cells) h
   split
   ·rw [closL_app, lookup_app, e]; exact ⟨a, rfl⟩
   ·exact ⟨a, e⟩
theorem closureFor_ok {scope : Scope} {env : Env} (h : ∀ x, (x, NameKind.free) ∈ scope.names → ∃ a, env.cells.lookup x = some a) : closureFor scope env = pure (closL env.cells scope.names []) := by
 simp only [closureFor]
 have : ∀ (names : List (Str × NameKind)) (acc : List (Str × Addr)) (f : Str × NameKind → List (Str × Addr) → Sem (ForInStep (List (Str × Addr)))),
   (∀ n k acc, (n, k) ∈ names → f (n, k) acc = pure (.yield (if k == .free then (n, (env.cells.lookup n).getD 0) :: acc else acc))) → forIn names acc f = pure (closL env.cells names acc) := by
  intro names
  induction names with
  | nil => intro acc f _; rfl
  | cons p r ih =>
   intro acc f hf
   obtain ⟨n, k⟩ := p
   rw [List.forIn_cons, hf n k acc (by simp)]
   simp only [pure_bind]
   rw [ih _ f fun n k acc hm => hf n k acc (List.mem_cons_of_mem _ hm)]
   conv => rhs; unfold closL
   split <;> rfl
 rw [this scope.names [] _ fun n k acc hm => ?_]
 ·rfl
 ·cases hk : k == NameKind.free with
  | false => simp [hk]
  | true =>
   rw [eq_of_beq hk] at hm
   obtain ⟨a, ha⟩ := h n hm
   simp [hk, cellOf, ha]
theorem cellsFrom_app : ∀ (names : List (Str × NameKind)) (n : Nat) (acc : List (Str × Addr)), cellsFrom n names acc = cellsFrom n names [] ++ acc
 | [], _, _ => rfl
 | (x, k) :: r, n, acc => by
  unfold cellsFrom
  split
  ·rw [cellsFrom_app r _ (_ :: acc), cellsFrom_app r _ [_]]; simp
  ·exact cellsFrom_app r n acc
theorem cellsFrom_mem : ∀ {names : List (Str × NameKind)} {n : Nat} {x : Str} {a : Addr}, (x, a) ∈ cellsFrom n names [] → (x, NameKind.cell) ∈ names
 | (y, k) :: r, n, x, a, h => by
  unfold cellsFrom at h
  split at h
  ·rename_i hk
   rw [cellsFrom_app] at h
   rcases List.mem_append.mp h with h | h
   ·exact List.mem_cons_of_mem _ (cellsFrom_mem h)
   ·cases zL h
    rw [eq_of_beq hk]
    exact List.mem_cons_self ..
  ·exact List.mem_cons_of_mem _ (cellsFrom_mem h)
theorem cellsFrom_has : ∀ {names : List (Str × NameKind)} {n : Nat} {x : Str}, (x, NameKind.cell) ∈ names → ∃ a, (cellsFrom n names []).lookup x = some a
 | (y, k) :: r, n, x, h => by
  unfold cellsFrom
  rcases zN h with e | h
  ·cases e
   rw [if_pos (by rfl), cellsFrom_app, lookup_app]
   cases h : (cellsFrom (n + 1) r []).lookup y with
   | none => exact ⟨n, by simp⟩
   | some a => exact ⟨a, by simp⟩
  ·split
   ·obtain ⟨a, e⟩ := cellsFrom_has (n := n + 1) h
    rw [cellsFrom_app, lookup_app, e]; exact ⟨a, rfl⟩
   ·exact cellsFrom_has h
theorem newEnv_comp {M : Model} {A : Around} {E : Value → Shared → Prop} {s : Shared} {scope : Scope} {g : Addr} {cl : List (Str × Addr)} {qual : Str} {env : Env} {Q : Env → Shared → Prop}
  (hQ : Q (newEnv scope s.heap.objs.size g (cellsFrom (s.heap.objs.size + 1) scope.names cl) qual none .none (some env) builtinsNs) { s with heap := pushCells (s.heap.push { cls := .type "dict", data := .dict #[] }) scope.names }) :
  wpAny M A (newFunctionEnv scope g cl [] qual none .none (some env)) Q E s := by
 simp only [newFunctionEnv, Option.isSome_some, if_true]
 refine wpAny_bind (wpAny_alloc ?_)
 refine wpAny_bind (wpAny_layCells _ (fun name kind cells => by cases hkc : kind == NameKind.cell <;> simp [hkc]) _ _ _ _ ?_)
 rw [show ({ s with heap := s.heap.push { cls := .type "dict", data := .dict #[] } } : Shared).heap.objs.size = s.heap.objs.size + 1 from Heap.size_push ..]
 exact wpAny_bind (wpAny_pure (wpAny_pure hQ))
structure CompSpec (scope : Scope) (own : List (Str × Bool)) (cap : List (Str × Nat)) (R R' : Rs) : Prop where
 kind : scope.kind = .function
 notco : scope.isCoroutine = false
 names : ∀ x ∈ scope.names, x.2 = .local → scope.names.lookup x.1 = some .local
 first : own.head? = some ((".0" : Str), false)
 ownK : ∀ p ∈ own, scope.names.lookup p.1 = some (if p.2 then .cell else .local)
 nodup : (own.map (·.1)).Nodup
 freeN : ∀ p ∈ scope.names, p.2 = .free → p.1 ∈ cap.map (·.1)
 capK : ∀ p ∈ cap, scope.names.lookup p.1 = some .free ∧ R.slots.lookup p.1 = some p.2 ∧ R.capt.contains p.1 = true
 cellN : ∀ p ∈ scope.names, p.2 = .cell → p.1 ∈ own.map (·.1)
 slots : ∀ p ∈ R'.slots, (∃ q, own[p.2]? = some q ∧ q.1 = p.1) ∨ (∃ q ∈ cap, q.1 = p.1 ∧ p.2 = own.length + q.2)
 globs : ∀ x ∈ R'.globs, scope.names.lookup x = some .globalImplicit
 loc : ∀ x ∈ R'.loc, (x, false) ∈ own
 cel : ∀ x ∈ R'.cel, (x, true) ∈ own
 capt : ∀ x ∈ R'.capt, (x, true) ∈ own ∨ x ∈ cap.map (·.1)
 code : R'.code = none := by rfl
noncomputable def ownLoc (L : Addr) (cs : List (Str × Addr)) (p : Str × Bool) : Loc := if p.2 then .cell ((cs.lookup p.1).getD 0) else .ns L p.1
theorem lookup_relabel_ne {env : Env} {x : Str} {kd : NameKind} (hk : kd ≠ .free) : ∀ {names : List (Str × NameKind)}, names.lookup x = some kd →
  (names.map fun (n, k) => if (k == NameKind.free && env.scope.kind == .function && env.kindOf n == some .cell) then (n, NameKind.cell) else (n, k)).lookup x = some kd
 | [], h => by simp at h
 | (n, k) :: r, h => by
  have ih := @lookup_relabel_ne env x kd hk r
  show List.lookup x ((if (k == NameKind.free && env.scope.kind == .function && env.kindOf n == some .cell) = true then (n, NameKind.cell) else (n, k)) :: _) = _
  cases hx : x == n with
  | true =>
   simp only [List.lookup_cons, hx] at h
   cases h
   have : (kd == NameKind.free) = false := by simpa using hk
   simp [List.lookup_cons, hx, this]
  | false =>
   simp only [List.lookup_cons, hx] at h
   by_cases hc : (k == NameKind.free && env.scope.kind == .function && env.kindOf n == some .cell) = true
   ·rw [if_pos hc]; simp only [List.lookup_cons, hx]; exact ih h
   ·rw [if_neg hc]; simp only [List.lookup_cons, hx]; exact ih h
theorem lookup_relabel_free {env : Env} {x : Str} : ∀ {names : List (Str × NameKind)}, names.lookup x = some .free →
  (names.map fun (n, k) => if (k == NameKind.free && env.scope.kind == .function && env.kindOf n == some .cell) then (n, NameKind.cell) else (n, k)).lookup x = some .cell ∨
  (names.map fun (n, k) => if (k == NameKind.free && env.scope.kind == .function && env.kindOf n == some .cell) then (n, NameKind.cell) else (n, k)).lookup x = some .free
 | [], h => by simp at h
 | (n, k) :: r, h => by
  have ih := @lookup_relabel_free env x r
  show List.lookup x ((if (k == NameKind.free && env.scope.kind == .function && env.kindOf n == some .cell) = true then (n, NameKind.cell) else (n, k)) :: _) = _ ∨ List.lookup x ((if (k == NameKind.free && env.scope.kind == .function && env.kindOf n == some .cell) = true then (n, NameKind.cell) else (n, k)) :: _) = _
  cases hx : x == n with
  | true =>
   simp only [List.lookup_cons, hx] at h
   cases h
   by_cases hc : (NameKind.free == NameKind.free && env.scope.kind == .function && env.kindOf n == some .cell) = true
   ·rw [if_pos hc]; simp [List.lookup_cons, hx]
   ·rw [if_neg hc]; simp [List.lookup_cons, hx]
  | false =>
   simp only [List.lookup_cons, hx] at h
   by_cases hc : (k == NameKind.free && env.scope.kind == .function && env.kindOf n == some .cell) = true
   ·rw [if_pos hc]; simp only [List.lookup_cons, hx]; exact ih h
   ·rw [if_neg hc]; simp only [List.lookup_cons, hx]; exact ih h
theorem CompSpec.env {scope : Scope} {own : List (Str × Bool)} {cap : List (Str × Nat)} {R R' : Rs} (C : CompSpec scope own cap R R') {env : Env} {locs : List Loc} (eo : EnvOK R env locs) (N : Nat) :
  closureFor scope env = pure (closL env.cells scope.names []) ∧
  EnvOK R' { newEnv scope N env.globals (cellsFrom (N + 1) scope.names (closL env.cells scope.names [])) env.qual none .none (some env) builtinsNs with scope := relabel scope env } (own.map (ownLoc N (cellsFrom (N + 1) scope.names [])) ++ locs) := by
 have capA : ∀ p ∈ cap, ∃ a, env.cells.lookup p.1 = some a ∧ locs[p.2]? = some (.cell a) := by
  intro p hp
  obtain ⟨h1, h2, h3⟩ := C.capK p hp
  refine xEA (eo.slots _ _ h2) fun loc el hs => ?_
  cases loc with
  | ns L y =>
   obtain ⟨rfl, _, hk⟩ := hs
   rcases eo.capt _ h3 with h | h <;> rw [hk] at h <;> cases h
  | cell a => exact ⟨a, hs.1, el⟩
  | raw _ _ => exact hs.elim
 have freeA : ∀ x, (x, NameKind.free) ∈ scope.names → ∃ a, env.cells.lookup x = some a := by
  intro x hx
  refine xEA (List.mem_map.mp (C.freeN _ hx rfl)) fun p hp e => ?_
  refine xEA (capA p hp) fun a ha _ => ?_
  have e' : p.1 = x := e
  exact ⟨a, by rw [← e']; exact ha⟩
 have hcap : ∀ p ∈ cap, ∀ a, env.cells.lookup p.1 = some a → (cellsFrom (N + 1) scope.names (closL env.cells scope.names [])).lookup p.1 = some a := by
  intro p hp a ha
  have hk := (C.capK p hp).1
  rw [cellsFrom_app, lookup_app]
  have h1 : (cellsFrom (N + 1) scope.names []).lookup p.1 = none := by
   cases h : (cellsFrom (N + 1) scope.names []).lookup p.1 with
   | none => rfl
   | some b =>
    have hm := C.cellN _ (cellsFrom_mem (lookup_mem h)) rfl
    refine xEA (List.mem_map.mp hm) fun q hq e => ?_
    have := C.ownK q hq
    rw [e] at this
    simp only at this
    rw [hk] at this
    split at this <;> cases this
  rw [h1]
  obtain ⟨b, hb⟩ := closL_has (cells := env.cells) (lookup_mem hk)
  obtain ⟨_, h2⟩ := closL_mem (lookup_mem hb)
  rw [hb]
  show some b = some a
  rw [h2, ha]; rfl
 have ownC : ∀ p ∈ own, p.2 = true → (cellsFrom (N + 1) scope.names (closL env.cells scope.names [])).lookup p.1 = some (((cellsFrom (N + 1) scope.names []).lookup p.1).getD 0) := by
  intro p hp e
  have hk := C.ownK p hp
  rw [e] at hk
  obtain ⟨a, ha⟩ := cellsFrom_has (n := N + 1) (lookup_mem hk)
  rw [cellsFrom_app, lookup_app, ha]
  rfl
 refine ⟨closureFor_ok freeA, ?_⟩
 refine ⟨C.kind, eo.globals, eo.builtins, C.notco, fun x i h => ?_, fun x h => ?_, fun x h => ?_, fun x h => ?_, fun x h => ?_, fun c h => by rw [C.code] at h; exact nn h⟩
 ·rcases C.slots _ (lookup_mem h) with ⟨q, h1, h2⟩ | ⟨q, h1, h2, h3⟩
  ·have hi : i < own.length := (zC h1).1
   refine ⟨ownLoc N _ q, by rw [List.getElem?_append_left (by simpa using hi), List.getElem?_map]; simp only at h1; rw [h1]; rfl, ?_⟩
   have hq : q ∈ own := zI h1
   have hk := C.ownK q hq
   simp only at h2
   unfold ownLoc
   cases e : q.2 with
   | true =>
    rw [e] at hk
    refine ⟨?_, .inl (lookup_relabel_ne (by decide) ?_)⟩
    ·rw [← h2]; exact ownC q hq e
    ·rw [← h2]; exact hk
   | false =>
    rw [e] at hk
    refine ⟨h2, rfl, lookup_relabel_ne (by decide) ?_⟩
    rw [← h2]; exact hk
  ·simp only at h2 h3
   refine xEA (capA q h1) fun a ha el => ?_
   refine ⟨.cell a, by rw [List.getElem?_append_right (by simp; exact o70 h3)]; simp only [List.length_map]; rw [h3, Nat.add_sub_cancel_left]; exact el, ?_, ?_⟩
   ·rw [← h2]; exact hcap q h1 a ha
   ·have hk := (C.capK q h1).1
    rw [h2] at hk
    exact lookup_relabel_free hk
 ·exact lookup_relabel_ne (by decide) (C.globs x (by simpa using h))
 ·have hm := C.loc x (by simpa using h)
  exact lookup_relabel_ne (by decide) (C.ownK _ hm)
 ·have hm := C.cel x (by simpa using h)
  exact lookup_relabel_ne (by decide) (C.ownK _ hm)
 ·rcases C.capt x (by simpa using h) with hm | hm
  ·exact .inl (lookup_relabel_ne (by decide) (C.ownK _ hm))
  ·refine xEA (List.mem_map.mp hm) fun q hq e => ?_
   have hk := (C.capK q hq).1
   rw [e] at hk
   exact lookup_relabel_free hk
theorem CompSpec.frame {scope : Scope} {own : List (Str × Bool)} {cap : List (Str × Nat)} {R R' : Rs} (C : CompSpec scope own cap R R') {ρ : List Addr} {σ : AH} {G : List (Loc × AV)} {s : Shared} (st : St W ρ σ G s) :
  St W ρ σ ((own.map (ownLoc s.heap.objs.size (cellsFrom (s.heap.objs.size + 1) scope.names []))).zip (List.replicate own.length .undef) ++ G) { s with heap := pushCells (s.heap.push { cls := .type "dict", data := .dict #[] }) scope.names, toks := s.toks } := by
 have ok := cellsFrom_ok scope.names (s.heap.push { cls := .type "dict", data := .dict #[] }) (s.heap.objs.size + 1) [] ⟨fun _ _ hm => (nomatch hm), List.Pairwise.nil⟩ (by rw [Heap.size_push]; exact Nat.le_refl _)
 rw [Heap.size_push] at ok
 have hns : (pushCells (s.heap.push { cls := .type "dict", data := .dict #[] }) scope.names).Ns s.heap.objs.size (fun _ => none) := (Heap.Ns.new s.heap (.type "dict")).keeps (pushCells_keeps _ _)
 have hcell : ∀ p ∈ own, p.2 = true → ∃ a, (cellsFrom (s.heap.objs.size + 1) scope.names []).lookup p.1 = some a := by
  intro p hp e
  have hk := C.ownK p hp
  rw [e] at hk
  exact cellsFrom_has (lookup_mem hk)
 refine st.frame (fun b o e => pushCells_keeps _ _ b o (Heap.get?_push_of_some _ e)) st.tk (fun p hp => ?_) (fun q hq => ?_) ?_
 ·obtain ⟨h1, h2⟩ := List.of_mem_zip (a := p.1) (b := p.2) hp
  refine xEA (List.mem_map.mp h1) fun q hq e => ?_
  have hu := (List.mem_replicate.mp h2).2
  rw [← e, hu]
  unfold ownLoc
  cases e2 : q.2 with
  | true =>
   obtain ⟨a, ha⟩ := hcell q hq e2
   rw [ha]
   exact ⟨none, (ok.empty _ _ (lookup_mem ha)).1, fun n => absurd rfl n⟩
  | false => exact ⟨_, hns, fun n => absurd rfl n⟩
 ·refine xEA (List.mem_map.mp hq) fun p hp hrf => ?_; subst hrf
  unfold ownLoc
  cases e2 : p.2 with
  | true =>
   obtain ⟨a, ha⟩ := hcell p hp e2
   rw [ha]
   exact Nat.le_of_succ_le (ok.empty _ _ (lookup_mem ha)).2
  | false => exact Nat.le_refl _
 ·rw [List.pairwise_map]
  have hn := C.nodup
  rw [List.nodup_iff_pairwise_ne, List.pairwise_map] at hn
  refine List.Pairwise.imp_of_mem (fun {p q} hp hq hne => ?_) hn
  unfold ownLoc
  cases e1 : p.2 with
  | true =>
   obtain ⟨a, ha⟩ := hcell p hp e1
   have h1 := (ok.empty _ _ (lookup_mem ha)).2
   cases e2 : q.2 with
   | true =>
    obtain ⟨b, hb⟩ := hcell q hq e2
    rw [ha, hb]
    intro e
    have e' : a = b := e
    subst e'
    exact hne (name_of_addr ok.apart (lookup_mem ha) (lookup_mem hb))
   | false =>
    rw [ha]
    exact Nat.ne_of_gt h1
  | false =>
   cases e2 : q.2 with
   | true =>
    obtain ⟨b, hb⟩ := hcell q hq e2
    have h1 := (ok.empty _ _ (lookup_mem hb)).2
    rw [hb]
    exact Nat.ne_of_lt h1
   | false => exact .inr hne
end LO
noncomputable section LP
open PySem PySem.W PySem.Calls PyProof.Rows
variable {W : Wd} {R : Rs} {k : Nat}
theorem compLoop_any {prog : Program} {w : World} {A : Around} {RR : Result → Shared → Prop} {s : Shared} {elt target iter : Expr} {ifs : List Expr} {scope : Scope} {pos : Pos} {it acc : Value} {env : Env} (I : Nat → Shared → Prop)
  (turn : ∀ n s, I n s → wpAny (model prog w) A (pyNext it) (fun r s₁ => match r with
   | none => RR (.ok .next) s₁
   | some v => wpAny (model prog w) A (letOwnedTupleGo target it v) (fun _ s₁' => wpAny (model prog w) A (assign target env v) (fun _ s₂ =>
     wpAny (model prog w) A (forIn ifs true fun c r => if r = true then do let ok ← isTrue c env (eval c env); pure (ForInStep.yield ok) else pure (ForInStep.yield r)) (fun ok s₃ =>
      if ok = true then wpAny (model prog w) A (eval elt env) (fun x s₄ =>
       wpAny (model prog w) A (call (.builtin "list.append") [acc, x]) (fun _ s₅ => ∃ m, m < n ∧ I m s₅) (notedBy (model prog w) A env fun e s' => RR (.error e) s') s₄) (notedBy (model prog w) A env fun e s' => RR (.error e) s') s₃
      else ∃ m, m < n ∧ I m s₃) (notedBy (model prog w) A env fun e s' => RR (.error e) s') s₂) (notedBy (model prog w) A env fun e s' => RR (.error e) s') s₁') (notedBy (model prog w) A env fun e s' => RR (.error e) s') s₁) (notedBy (model prog w) A env fun e s' => RR (.error e) s') s)
  (n : Nat) (h : I n s) : codeAny (model prog w) A (.compLoop (.ListComp elt [⟨target, iter, ifs, 0⟩] scope pos) 0 it acc env) RR s := by
 refine codeAny_loop rfl I (fun n s hI => ?_) n h
 show wpAny _ _ ((compTurn (.ListComp elt [⟨target, iter, ifs, 0⟩] scope pos) 0 it acc env).onRaise (fun x => do noteFrame x env; theTreesLotGoes x)) _ _ s
 refine wpAny_noted ?_
 rw [compTurn_list]
 refine wpAny_bind (wpAny_standAt (wpAny_bind (wpAny_mono (turn n s hI) (fun r s₁ h₁ => ?_) fun _ _ h' => h')))
 cases r with
 | none => exact wpAny_pure h₁
 | some v =>
  refine wpAny_bind (wpAny_mono h₁ (fun _ s₁' h₁' => ?_) fun _ _ h' => h')
  refine wpAny_bind (wpAny_mono h₁' (fun _ s₂ h₂ => wpAny_bind (wpAny_mono h₂ (fun ok s₃ h₃ => ?_) fun _ _ h' => h')) fun _ _ h' => h')
  cases ok with
  | false => exact wpAny_pure ⟨rfl, h₃⟩
  | true =>
   exact wpAny_bind (wpAny_bind (wpAny_mono h₃ (fun x s₄ h₄ => wpAny_bind (wpAny_mono h₄ (fun _ s₅ h₅ => wpAny_pure (wpAny_pure ⟨rfl, h₅⟩)) fun _ _ h' => h')) fun _ _ h' => h'))
inductive IfsOK (W : Wd) (R : Rs) (k : Nat) : List Expr → PB → Prop
 | nil : IfsOK W R k [] (fun _ h => some (true, h))
 | one {c : Expr} {t : PB} (h : BtOK W R k c t) : IfsOK W R k [c] t
theorem IfsOK.ok {ifs : List Expr} {t : PB} (h : IfsOK W R k ifs t) {A : Around} {fs : List Env} {env : Env} {locs : List Loc} {l : List AV} {G : List (Loc × AV)} {ρ : List Addr} {σ : AH} {s : Shared} (cx : CxA A k fs (locs ++ G.map (·.1))) (eo : EnvOK R env locs) (hl : l.length = locs.length) (st : St W ρ σ (locs.zip l ++ G) s) :
  Comp W VB A (forIn ifs true fun c r => if r = true then do let ok ← isTrue c env (eval c env); pure (ForInStep.yield ok) else pure (ForInStep.yield r)) ρ (locs.zip l ++ G) s (t l σ) := by
 intro v σ' ev Q E hQ
 cases h with
 | nil => cases ev; exact wpAny_tests_nil (hQ ρ s _ (Le.refl _) rfl st)
 | one h => exact wpAny_tests_one (h A fs env locs l G ρ σ s cx eo hl st v σ' ev Q E hQ)
noncomputable def cLoop (tg : Tgt) (t : PB) (elt : PE) (acc : Nat) : Nat → AIt → List AV → AH → Option AH
 | 0, _, _, _ => none
 | n + 1, it, l, h => if it.fits tg then (aNext it h).bind fun r => match r.1 with
   | none => some r.2.2
   | some v => (aBind tg v l r.2.2).bind fun l1 => (t l1 r.2.2).bind fun q => if q.1 then (elt l1 q.2).bind fun x => (mAppend (.ref acc) [x.1] x.2).bind fun y => cLoop tg t elt acc n r.2.1 l1 y.2
    else cLoop tg t elt acc n r.2.1 l1 q.2
  else none
noncomputable def pComp (n : Nat) (g : PI) (tg : Tgt) (t : PB) (elt : PE) : PE := fun l h => (g l h).bind fun p => (cLoop tg t elt p.2.length FUEL p.1 (List.replicate n .undef ++ l) (p.2 ++ [.list []])).map fun h' => (.ref p.2.length, h')
noncomputable def Tgt.below (n : Nat) : Tgt → Prop
 | .nm i => i < n
 | .tup is => ∀ i ∈ is, i < n
theorem set_drop {l : List AV} {i n : Nat} {v : AV} (h : i < n) : (l.set i v).drop n = l.drop n := by
 apply List.ext_getElem?
 intro j
 simp only [List.getElem?_drop]
 rw [List.getElem?_set_ne (by exact Nat.ne_of_lt (o9 (Nat.add_lt_add_right h _)))]
theorem sets_drop {n : Nat} : ∀ (is : List Nat) (vs : List AV) (l : List AV), (∀ i ∈ is, i < n) → (sets l is vs).drop n = l.drop n
 | [], _, _, _ => by simp [sets]
 | i :: is, [], _, _ => by simp [sets]
 | i :: is, v :: vs, l, h => by
  rw [sets, sets_drop is vs _ fun j hj => h j (List.mem_cons_of_mem _ hj), set_drop (h i (List.mem_cons_self ..))]
theorem aBind_drop {tg : Tgt} {n : Nat} (hb : tg.below n) {v : AV} {l l' : List AV} {h : AH} (e : aBind tg v l h = some l') : l'.drop n = l.drop n := by
 cases tg with
 | nm i => cases e; exact set_drop hb
 | tup is =>
  simp only [aBind] at e
  split at e
  ·split at e
   ·split at e
    ·obtain rfl := Option.some.inj e; exact sets_drop _ _ _ hb
    ·exact nn e
   ·exact nn e
  ·exact nn e
theorem append_call2 {A : Around} {ρ : List Addr} {σ σ' : AH} {G : List (Loc × AV)} {s : Shared} (st : St W ρ σ G s) {n : Nat} {a : Addr} (ea : ρ[n]? = some a) {y v : AV} {c : Value} (r : VR ρ y c) (e : mAppend (.ref n) [y] σ = some (v, σ'))
  {Q : Value → Shared → Prop} {E : Value → Shared → Prop} (hQ : ∀ s' u, St W ρ σ' G s' → Q u s') : wpAny (model W.prog W.w) A (call (.builtin "list.append") [.ref a, c]) Q E s := by
 simp only [mAppend] at e
 split at e
 ·rename_i xs hx
  split at e
  ·rename_i hz
   replace hQ := t2b e ▸ hQ
   refine xEEAAEEA (st.at hx) fun a' o ea' ho vs n' hrf hv => ?_; subst hrf
   rw [ea] at ea'; replace ho := t1 ea' ▸ ho
   have hlen := hv.length
   refine call_meets F.slot_list_append ⟨_, ho, rfl⟩ F.entry_list_append (F.args_list_append_2 _ _) (PySem.AutoListH.list_append_list_val_0 _ vs.toArray n' c (by simp; rw [sizeLine_eq]; exact o10 hz hlen)) ⟨ho, ?_⟩
   exact hQ _ _ (st.updList ea ho _ (vs' := vs ++ [c]) (by simp) (hv.app ⟨r, trivial⟩))
  ·exact nn e
 ·exact nn e
noncomputable def UseOK (W : Wd) (A : Around) (E : Value → Shared → Prop) (use : Option (Value → Sem Unit)) (Q : Value → Shared → Prop) (ρ : List Addr) (σ' : AH) (n : Nat) (G : List (Loc × AV)) : Prop :=
 match use with
 | none => ∀ ρ' s' c, Le ρ ρ' → VR ρ' (.ref n) c → St W ρ' σ' G s' → Q c s'
 | some u => ∀ ρ' s' c (K : List (Loc × AV)), Le ρ ρ' → VR ρ' (.ref n) c → St W ρ' σ' (K ++ G) s' → ∀ (Q' : Unit → Shared → Prop), (∀ s'', (∀ L h', (Heap.SameBut L s''.heap h') → (∃ x v, (Loc.ns L x, v) ∈ K) → (∀ p ∈ G, p.1.addr ≠ L) → Q .none { s'' with heap := h' }) → (∃ G', St W ρ' σ' (K ++ G') s'') → Q' () s'') → wpAny (model W.prog W.w) A (u c) Q' E s'
theorem St.drop {ρ : List Addr} {σ : AH} {K G : List (Loc × AV)} {s : Shared} {L : Addr} {x : Str} {v : AV} (st : St W ρ σ (K ++ G) s) (hm : (Loc.ns L x, v) ∈ K) (hG : ∀ p ∈ G, p.1.addr ≠ L) {h' : Heap} (hs : Heap.SameBut L s.heap h') : St W ρ σ G { s with heap := h' } := by
 have lf := st.lfresh _ (List.mem_append_left _ hm)
 exact (st.sub (List.sublist_append_right K G)).ext (tk := s.toks) lf.1 lf.2 hG hs.extBut st.tk
noncomputable abbrev CInv (W : Wd) (ρA : List Addr) (n : Nat) (L locs : List Loc) (l : List AV) (G : List (Loc × AV)) (I : Addr) (tg : Tgt) (t : PB) (f : PE) (q : Nat) (σ' : AH) (m : Nat) (s' : Shared) : Prop :=
 ∃ ρ₂ σ₃ lc it₂ rs₂, Le ρA ρ₂ ∧ lc.length = n + l.length ∧ lc.drop n = l ∧ ItR ρ₂ I it₂ rs₂ ∧ St W ρ₂ σ₃ (rs₂ ++ ((L ++ locs).zip lc ++ G)) s' ∧ cLoop tg t f q m it₂ lc σ₃ = some σ'
theorem comp_okG {elt target iter : Expr} {ifs : List Expr} {scope : Scope} {pos : Pos} {own : List (Str × Bool)} {cap : List (Str × Nat)} {R' : Rs} (C : CompSpec scope own cap R R') {g : PI} {tg : Tgt} {t : PB} {f : PE} (ht : TgtOK R' target tg) (hb : tg.below own.length)
  (hifs : IfsOK W R' k ifs t) (he : EvOK W R' k elt f) (hs : ∀ env x, foldedSetIterable iter env x = pure x)
  {A : Around} {fs : List Env} {env : Env} {locs : List Loc} {l : List AV} {G : List (Loc × AV)} {ρ : List Addr} {σ : AH} {s : Shared} (cx : CxA A k fs (locs ++ G.map (·.1))) (eo : EnvOK R env locs) (hl : l.length = locs.length)
  (hi' : ∀ it σ', g l σ = some (it, σ') → ∀ (Q : Value → Shared → Prop) (E : Value → Shared → Prop), (∀ ρ' s' I rs, Le ρ ρ' → ItR ρ' I it rs → St W ρ' σ' (rs ++ (locs.zip l ++ G)) s' → SelfIt W A I s' → Q (.ref I) s') →
   wpAny (model W.prog W.w) A (eval iter env) (fun x s₁ => wpAny (model W.prog W.w) A (pyIter x) Q E s₁) E s)
  {n : Nat} {σ' : AH} (ev : pComp own.length g tg t f l σ = some (.ref n, σ')) {use : Option (Value → Sem Unit)} {Q : Value → Shared → Prop} {E : Value → Shared → Prop}
  (hQ : UseOK W A E use Q ρ σ' n (locs.zip l ++ G)) : wpAny (model W.prog W.w) A (comprehension (.ListComp elt [⟨target, iter, ifs, 0⟩] scope pos) scope env (firstIterPos [⟨target, iter, ifs, 0⟩] pos) (newList []) false (eval iter env) use) Q E s := by
 refine bindP ev fun it σ₁ e1 e2 => ?_
 refine mapQ e2 fun σ₂ e3 e4 => ?_
 cases e4
 dsimp only at e3
 obtain ⟨hclo, _⟩ := C.env eo 0
 refine wpAny_comprehension_free rfl (hs env) hclo C.kind C.names ?_
 refine hi' it σ₁ e1 _ E fun ρ₁ s₁ I rs le₁ hI st₁ hself => ?_
 have stA : St W (ρ₁ ++ [s₁.heap.objs.size]) (σ₁ ++ [.list []]) (rs ++ (locs.zip l ++ G)) { s₁ with heap := s₁.heap.push (listOf ([] : List Value).toArray 0), toks := s₁.toks } := st₁.newList (xs := []) (vs := []) trivial s₁.toks st₁.tk
 refine wpAny_newList ?_ (Nat.zero_le _)
 have hacc := new_ref st₁
 refine newEnv_comp ?_
 generalize hs₂ : ({ s₁ with heap := s₁.heap.push { cls := .type "list", data := .seq ([] : List Value).toArray } } : Shared) = s₂
 have stA' : St W (ρ₁ ++ [s₁.heap.objs.size]) (σ₁ ++ [.list []]) (rs ++ (locs.zip l ++ G)) s₂ := by rw [← hs₂]; exact stA
 have grow2 : ∀ b o, s₁.heap.get? b = some o → s₂.heap.get? b = some o := fun b o e => by rw [← hs₂]; exact Heap.get?_push_of_some _ e
 obtain ⟨_, eoC⟩ := C.env eo s₂.heap.objs.size
 have stF := C.frame stA'
 have hbase : ∀ p ∈ rs ++ (locs.zip l ++ G), p.1.addr ≠ s₂.heap.objs.size := (stA'.freshAt (Nat.le_refl _)).2.2
 generalize hcs : cellsFrom (s₂.heap.objs.size + 1) scope.names [] = cs at eoC stF
 have hown : (own.map (ownLoc s₂.heap.objs.size cs)).length = own.length := by simp
 generalize hol : own.map (ownLoc s₂.heap.objs.size cs) = ol at eoC stF hown
 have hol0 : ∃ r, ol = Loc.ns s₂.heap.objs.size (".0" : Str) :: r := by
  have := C.first
  rw [← hol]
  cases own with
  | nil => cases this
  | cons p own => simp only [List.head?_cons, Option.some.injEq] at this; subst this; exact ⟨_, rfl⟩
 generalize hcenv : ({ newEnv scope s₂.heap.objs.size env.globals (cellsFrom (s₂.heap.objs.size + 1) scope.names (closL env.cells scope.names [])) env.qual none .none (some env) builtinsNs with scope := relabel scope env } : Env) = cenv at eoC
 have hcL : (newEnv scope s₂.heap.objs.size env.globals (cellsFrom (s₂.heap.objs.size + 1) scope.names (closL env.cells scope.names [])) env.qual none .none (some env) builtinsNs).locals = s₂.heap.objs.size := rfl
 rw [hcL]
 have hN : s₂.heap.objs.size = s₂.heap.objs.size := rfl
 revert hN
 generalize s₂.heap.objs.size = N at *
 intro _
 generalize hs₃ : ({ s₂ with heap := pushCells (s₂.heap.push { cls := .type "dict", data := .dict #[] }) scope.names } : Shared) = s₃
 have grow3 : ∀ b o, s₁.heap.get? b = some o → s₃.heap.get? b = some o := fun b o e => by rw [← hs₃]; exact pushCells_keeps _ _ _ _ (Heap.get?_push_of_some _ (grow2 b o e))
 have stF' : St W (ρ₁ ++ [s₁.heap.objs.size]) (σ₁ ++ [.list []]) (ol.zip (List.replicate own.length .undef) ++ (rs ++ (locs.zip l ++ G))) s₃ := by rw [← hs₃]; exact stF
 have eacc : (ρ₁ ++ [s₁.heap.objs.size])[σ₁.length]? = some s₁.heap.objs.size := by
  refine xEA hacc fun acc eacc hacc' => ?_
  injection hacc' with hacc'
  rw [eacc, hacc']
 have hloop : codeAny (model W.prog W.w) A (.compLoop (.ListComp elt [⟨target, iter, ifs, 0⟩] scope pos) 0 (.ref I) (.ref s₁.heap.objs.size) cenv) (compPost (model W.prog W.w) A E use Q (.ref s₁.heap.objs.size) N) s₃ := by
  have leA : Le ρ₁ (ρ₁ ++ [s₁.heap.objs.size]) := Le.app _ _
  refine compLoop_any (CInv W (ρ₁ ++ [s₁.heap.objs.size]) own.length ol locs l G I tg t f σ₁.length σ') ?_ FUEL ?_
  ·rintro m s' ⟨ρ₂, σ₃, lc, it₂, rs₂, le₂, hlc, hdr, hI₂, st₂, e⟩
   cases m with
   | zero => cases e
   | succ m =>
    unfold cLoop at e
    split at e
    ·rename_i hf
     have hlcl : lc.length = (ol ++ locs).length := by rw [List.length_append, hown, hlc, hl]
     refine bindP3 e fun r it₃ σ₄ e5 e6 => ?_
     refine turn_ok cx.handled st₂ hI₂ e5 (ht.tgt hf) (fun hr s₄ st₄ => ?_) fun v₁ hr ρ₃ c rs₃ s₄ le₃ rc hI₃ st₄ => ?_
     ·subst hr
      cases e6
      obtain ⟨r0, rfl⟩ := hol0
      have hsplit : ((Loc.ns N (".0" : Str) :: r0) ++ locs).zip lc = ((Loc.ns N (".0" : Str) :: r0).zip (lc.take own.length)) ++ locs.zip l := by
       conv => lhs; rw [← List.take_append_drop own.length lc, hdr]
       rw [List.zip_append]
       rw [hown, List.length_take]; lia
      rw [hsplit, List.append_assoc] at st₄
      have hpos : 0 < own.length := by rw [← hown]; simp
      obtain ⟨v0, hv0⟩ : ∃ v0, (Loc.ns N (".0" : Str), v0) ∈ (Loc.ns N (".0" : Str) :: r0).zip (lc.take own.length) := by
       cases hlt : lc.take own.length with
       | nil => have := congrArg List.length hlt; rw [List.length_take, hlc] at this; simp only [List.length_nil] at this; lia
       | cons v0 r1 => exact ⟨v0, by simp⟩
      have hGN : ∀ p ∈ locs.zip l ++ G, p.1.addr ≠ N := fun p hp => hbase p (List.mem_append_right _ hp)
      have hres : VR ρ₂ (.ref σ₁.length) (.ref s₁.heap.objs.size) := ⟨_, le₂ _ _ eacc, rfl⟩
      refine xEA (st₄.locs _ (List.mem_append_left _ hv0)) fun mm hns _ => ?_
      cases use with
      | none =>
       refine ⟨mm, hns, fun h' hsb => ?_⟩
       exact hQ ρ₂ _ _ (le₁.trans (leA.trans le₂)) hres (st₄.drop hv0 hGN hsb)
      | some u =>
       refine hQ ρ₂ s₄ _ _ (le₁.trans (leA.trans le₂)) hres st₄ _ fun s'' hdone hst => ?_
       obtain ⟨G', st''⟩ := hst
       refine xEA (st''.locs _ (List.mem_append_left _ hv0)) fun mm hns _ => ?_
       exact ⟨mm, hns, fun h' hsb => hdone N h' hsb ⟨_, _, hv0⟩ hGN⟩
     ·subst hr
      refine bindQ e6 fun l₄ e7 e8 => ?_
      refine bindP e8 fun b σ₅ e9 e10 => ?_
      have hl₄ := aBind_length e7
      have hd₄ := aBind_drop hb e7
      have cx' : CxA A k fs ((ol ++ locs) ++ (rs₃ ++ G).map (·.1)) := by
       refine ⟨cx.handled, cx.depth, cx.units, cx.frames, fun ee hee => ?_⟩
       refine xAEEA (cx.fun' ee hee) fun h1 L x h2 h3 => ?_
       refine ⟨h1, L, x, h2, ?_⟩
       simp only [List.map_append, List.mem_append] at h3 ⊢
       rcases h3 with h3 | h3
       ·exact .inl (.inr h3)
       ·exact .inr (.inr h3)
      refine assign_ok (G := rs₃ ++ G) cx.handled eoC hlcl (st₄.perm (perm_raws _ _ _)) ht rc e7 fun s₅ st₅ => ?_
      have hll : l₄.length = (ol ++ locs).length := hl₄.trans hlcl
      refine hifs.ok (G := rs₃ ++ G) cx' eoC hll st₅ b σ₅ e9 _ _ fun ρ₆ s₆ c₆ le₆ r₆ st₆ => ?_
      cases r₆
      have leX := le₂.trans (le₃.trans le₆)
      cases b with
      | false =>
       rw [if_neg Bool.false_ne_true]
       exact ⟨m, Nat.lt_succ_self _, ρ₆, σ₅, l₄, it₃, rs₃, leX, hl₄.trans hlc, hd₄.trans hdr, hI₃.mono le₆, st₆.perm (perm_raws _ _ _), e10⟩
      | true =>
       rw [if_pos rfl]
       refine bindP e10 fun x σ₆ e11 e12 => ?_
       refine bindP e12 fun y σ₇ e13 e14 => ?_
       refine he A fs cenv (ol ++ locs) l₄ (rs₃ ++ G) ρ₆ σ₅ s₆ cx' eoC hll st₆ x σ₆ e11 _ _ fun ρ₇ s₇ c₇ le₇ r₇ st₇ => ?_
       have hA7 : ρ₇[σ₁.length]? = some s₁.heap.objs.size := le₇ _ _ (leX _ _ eacc)
       refine append_call2 st₇ hA7 r₇ e13 fun s₈ _ st₈ => ?_
       exact ⟨m, Nat.lt_succ_self _, ρ₇, σ₇, l₄, it₃, rs₃, leX.trans le₇, hl₄.trans hlc, hd₄.trans hdr, hI₃.mono (le₆.trans le₇), st₈.perm (perm_raws _ _ _), e14⟩
    ·exact nn e
  ·refine ⟨_, _, List.replicate own.length .undef ++ l, it, rs, Le.refl _, by simp, by rw [List.drop_left' (by simp)], hI.mono leA, ?_, e3⟩
   have : (ol ++ locs).zip (List.replicate own.length .undef ++ l) = ol.zip (List.replicate own.length .undef) ++ locs.zip l := by
    rw [List.zip_append]; rw [hown]; simp
   rw [this, List.append_assoc]
   exact stF'.perm (perm_raws _ _ _)
 exact codeAny_compStart_list hloop (hself _ _ _ grow3 hloop)
theorem comp_ok {elt target iter : Expr} {ifs : List Expr} {scope : Scope} {pos : Pos} {own : List (Str × Bool)} {cap : List (Str × Nat)} {R' : Rs} (C : CompSpec scope own cap R R') {g : PI} {tg : Tgt} {t : PB} {f : PE} (hi : ItEv W R k iter g) (ht : TgtOK R' target tg) (hb : tg.below own.length)
  (hifs : IfsOK W R' k ifs t) (he : EvOK W R' k elt f) (hs : ∀ env x, foldedSetIterable iter env x = pure x)
  {A : Around} {fs : List Env} {env : Env} {locs : List Loc} {l : List AV} {G : List (Loc × AV)} {ρ : List Addr} {σ : AH} {s : Shared} (cx : CxA A k fs (locs ++ G.map (·.1))) (eo : EnvOK R env locs) (hl : l.length = locs.length) (st : St W ρ σ (locs.zip l ++ G) s)
  {n : Nat} {σ' : AH} (ev : pComp own.length g tg t f l σ = some (.ref n, σ')) {use : Option (Value → Sem Unit)} {Q : Value → Shared → Prop} {E : Value → Shared → Prop}
  (hQ : UseOK W A E use Q ρ σ' n (locs.zip l ++ G)) : wpAny (model W.prog W.w) A (comprehension (.ListComp elt [⟨target, iter, ifs, 0⟩] scope pos) scope env (firstIterPos [⟨target, iter, ifs, 0⟩] pos) (newList []) false (eval iter env) use) Q E s :=
 comp_okG C ht hb hifs he hs cx eo hl (fun it σ' e Q E h => hi A fs env locs l G ρ σ s cx eo hl st it σ' e Q E h) ev hQ
end LP
noncomputable section LQ
open PySem PySem.W PySem.Calls PyProof.Rows
variable {W : Wd} {R : Rs} {k : Nat}
theorem EvOK.comp {elt target iter : Expr} {ifs : List Expr} {scope : Scope} {pos : Pos} {own : List (Str × Bool)} {cap : List (Str × Nat)} {R' : Rs} (C : CompSpec scope own cap R R') {g : PI} {tg : Tgt} {t : PB} {f : PE} (hi : ItEv W R k iter g) (ht : TgtOK R' target tg) (hb : tg.below own.length)
  (hifs : IfsOK W R' k ifs t) (he : EvOK W R' k elt f) (hs : ∀ env x, foldedSetIterable iter env x = pure x) : EvOK W R k (.ListComp elt [⟨target, iter, ifs, 0⟩] scope pos) (pComp own.length g tg t f) := by
 intro A fs env locs l G ρ σ s cx eo hl st v σ' ev Q E hQ
 have hv : ∃ n, v = .ref n := by
  refine bindP ev fun it σ₁ e1 e2 => ?_
  refine mapQ e2 fun σ₂ e3 e4 => ?_
  cases e4; exact ⟨_, rfl⟩
 obtain ⟨n, rfl⟩ := hv
 rw [eval_ListComp]
 exact comp_ok C hi ht hb hifs he hs cx eo hl st ev (use := none) fun ρ' s' c le r st' => hQ ρ' s' c le r st'
theorem ExOK.asgComp {x : Str} {p pos : Pos} {i : Nat} (hx : StoreAt R x i) {elt target iter : Expr} {ifs : List Expr} {scope : Scope} {cpos : Pos} {own : List (Str × Bool)} {cap : List (Str × Nat)} {R' : Rs} (C : CompSpec scope own cap R R') {g : PI} {tg : Tgt} {t : PB} {f : PE} (hi : ItEv W R k iter g) (ht : TgtOK R' target tg) (hb : tg.below own.length)
  (hifs : IfsOK W R' k ifs t) (he : EvOK W R' k elt f) (hs : ∀ env x, foldedSetIterable iter env x = pure x)
  (hloc : R.loc.contains x = true) (hsw : ∀ env : Env, env.scope.kind = .function → env.kindOf x = some .local → swapsWith (.ListComp elt [⟨target, iter, ifs, 0⟩] scope cpos) (some (.Name x p)) pos.line env = pure true) :
  ExOK W R k (.Assign [.Name x p] (.ListComp elt [⟨target, iter, ifs, 0⟩] scope cpos) pos) (sAsg i (pComp own.length g tg t f)) := by
 intro A fs env locs l G ρ σ s cx eo hfe hl st v l' σ' ev Q E hQ
 refine mapP ev fun y σ₁ e1 e2 => ?_
 replace hQ := hQ.r3 e2
 have hv : ∃ n, y = .ref n := by
  refine bindP e1 fun it σ₁ e1 e2 => ?_
  refine mapQ e2 fun σ₂ e3 e4 => ?_
  cases e4; exact ⟨_, rfl⟩
 obtain ⟨n, rfl⟩ := hv
 rw [exec_Assign_Name_used _ _ _ _ (hsw env eo.kind (eo.loc x hloc))]
 refine wpAny_bind (wpAny_standAt (wpAny_bind ?_))
 show wpAny _ A (do let _ ← comprehension (.ListComp elt [⟨target, iter, ifs, 0⟩] scope cpos) scope env (firstIterPos [⟨target, iter, ifs, 0⟩] cpos) (newList []) false (eval iter env) (some (assign (.Name x p) env))) _ _ s
 refine wpAny_bind (wpAny_mono (comp_ok (Q := fun _ s' => Q .next s') C hi ht hb hifs he hs cx eo hl st e1 (use := some (assign (.Name x p) env)) ?_) (fun _ s' hq => wpAny_pure (wpAny_pure hq)) fun _ _ e => e)
 intro ρ' s' c K le r st' Q' hQ'
 refine wpAny_assign_Name (store_ok eo hl (st'.perm (perm_raws _ _ _)) hx r fun s'' st'' => ?_)
 have st₂ := st''.perm (perm_raws _ _ _)
 refine hQ' s'' (fun L h' hs' hm hG => ?_) ⟨_, st₂⟩
 obtain ⟨x', v', hm⟩ := hm
 have hG' : ∀ p ∈ locs.zip (l.set i (.ref n)) ++ G, p.1.addr ≠ L := by
  intro p hp
  rcases List.mem_append.mp hp with h | h
  ·have h1 := (List.of_mem_zip (a := p.1) (b := p.2) h).1
   obtain ⟨j, hj, ej⟩ := List.getElem_of_mem h1
   have : (p.1, l[j]'(by exact o52 hj (Eq.symm hl))) ∈ locs.zip l := by
    refine zI (i := j) (List.getElem?_zip_eq_some.mpr ⟨?_, ?_⟩)
    ·rw [zH hj, ej]
    ·exact zH _
   exact hG (p.1, l[j]'(by exact o52 hj (Eq.symm hl))) (List.mem_append_left _ this)
  ·exact hG p (List.mem_append_right _ h)
 exact hQ ρ' _ _ le rfl (by simp) (st₂.drop hm hG' hs')
noncomputable def DefAt (W : Wd) (a : Addr) (name : Str) (params : Arguments) (body : List Stmt) (scope : Scope) : Prop :=
 ∃ o pm code doc, W.B.get? a = some o ∧ o.data = .func (docDef name params body scope pm code doc) ∧ W.B.CodeRec code name
theorem DefAt.fn {a : Addr} {name : Str} {params : Arguments} {body : List Stmt} {scope : Scope} (h : DefAt W a name params body scope) : FnAt W a := by
 refine xEEEEAA h fun o pm code doc h1 h2 h3 => ?_
 exact ⟨o, _, h1, h2⟩
structure FnSpec (scope : Scope) (own : List (Str × Bool)) (n : Nat) (R : Rs) : Prop where
 kind : scope.kind = .function
 notco : scope.isCoroutine = false
 notgen : scope.isGenerator = false
 many : n ≤ own.length
 ownK : ∀ p ∈ own, scope.names.lookup p.1 = some (if p.2 then .cell else .local)
 nodup : ((".0" : Str) :: own.map (·.1)).Nodup
 slots : ∀ p ∈ R.slots, ∃ q, own[p.2 - 1]? = some q ∧ 1 ≤ p.2 ∧ q.1 = p.1
 globs : ∀ x ∈ R.globs, scope.names.lookup x = some .globalImplicit
 loc : ∀ x ∈ R.loc, (x, false) ∈ own
 cel : ∀ x ∈ R.cel, (x, true) ∈ own
 capt : ∀ x ∈ R.capt, (x, true) ∈ own
theorem bindL_other {kf : Str → Option NameKind} : ∀ (binds : List (Str × Value)) (m : Str → Option Value) (x : Str), x ∉ binds.map (·.1) → bindL kf binds m x = m x
 | [], _, _, _ => rfl
 | (n, v) :: r, m, x, h => by
  simp only [List.map_cons, List.mem_cons, not_or] at h
  unfold bindL
  rw [bindL_other r _ x h.2]
  split
  ·simp [h.1]
  ·rfl
theorem bindC_other {kf : Str → Option NameKind} : ∀ (binds : List (Str × Value)) (m : Str → Option Value) (x : Str), x ∉ binds.map (·.1) → bindC kf binds m x = m x
 | [], _, _, _ => rfl
 | (n, v) :: r, m, x, h => by
  simp only [List.map_cons, List.mem_cons, not_or] at h
  unfold bindC
  rw [bindC_other r _ x h.2]
  split
  ·rfl
  ·simp [h.1]
theorem bindL_get {kf : Str → Option NameKind} : ∀ (binds : List (Str × Value)) (m : Str → Option Value) {x : Str} {v : Value}, (binds.map (·.1)).Nodup → (x, v) ∈ binds → kf x = some .local → bindL kf binds m x = some v := by
 intro binds
 induction binds with
 | nil => exact fun _ _ _ _ hm => absurd hm List.not_mem_nil
 | cons p r ih =>
  obtain ⟨n, u⟩ := p
  intro m x v hn hm hk
  simp only [List.map_cons, List.nodup_cons] at hn
  unfold bindL
  rcases zN hm with e | hm
  ·cases e
   rw [bindL_other r _ n hn.1, if_pos hk]
   simp
  ·exact ih _ hn.2 hm hk
theorem bindC_get {kf : Str → Option NameKind} : ∀ (binds : List (Str × Value)) (m : Str → Option Value) {x : Str} {v : Value}, (binds.map (·.1)).Nodup → (x, v) ∈ binds → kf x ≠ some .local → bindC kf binds m x = some v := by
 intro binds
 induction binds with
 | nil => exact fun _ _ _ _ hm => absurd hm List.not_mem_nil
 | cons p r ih =>
  obtain ⟨n, u⟩ := p
  intro m x v hn hm hk
  simp only [List.map_cons, List.nodup_cons] at hn
  unfold bindC
  rcases zN hm with e | hm
  ·cases e
   rw [bindC_other r _ n hn.1, if_neg hk]
   simp
  ·exact ih _ hn.2 hm hk
noncomputable def bodyF (n t : Nat) (f : PS) : PF := fun args h => if args.length = n then (f (.undef :: (args ++ List.replicate (t - n) .undef)) h).bind fun q => match q.1 with
 | .ret v => some (v, q.2.2)
 | .nxt => some (.none, q.2.2)
 | _ => none else none
noncomputable def St0 (W : Wd) (ρ : List Addr) (σ : AH) (G : List (Loc × AV)) (s : Shared) : Prop := St W ρ σ G { s with toks := s.toks + 1 }
theorem St.to0 {ρ : List Addr} {σ : AH} {G : List (Loc × AV)} {s : Shared} (st : St W ρ σ G s) : St0 W ρ σ G s := st.toks (s.toks + 1)
theorem St0.full {ρ : List Addr} {σ : AH} {G : List (Loc × AV)} {s : Shared} (st : St0 W ρ σ G s) (h : 0 < s.toks) : St W ρ σ G s := St.toks (s := { s with toks := s.toks + 1 }) st s.toks h
theorem of_bodyG {a : Addr} {name : Str} {params : Arguments} {body : List Stmt} {scope : Scope} (D : DefAt W a name params body scope) {own : List (Str × Bool)} {n : Nat} (S : FnSpec scope own n R) {f : PS} {nt : Nat}
  (hb : ∀ A fs env locs l G ρ σ s, CxA A k fs (locs ++ G.map (·.1)) → EnvOK R env locs → fs.head? = some env → l.length = locs.length → St0 W ρ σ (locs.zip l ++ G) s → nt ≤ s.toks → CompS W FR A (execs body env) locs l G ρ s (f l σ))
  (hbind : ∀ (vals : List Value), vals.length = n → ∀ pm code doc, bindArgs (docDef name params body scope pm code doc) ⟨vals, []⟩ = pure (((own.take n).map (·.1)).zip vals))
  (hcode : ∀ c pm code doc o, R.code = some c → W.B.get? a = some o → o.data = .func (docDef name params body scope pm code doc) → code = c := by intro c pm code doc o h; cases h) :
  ∀ A fs G ρ σ s args cargs, CxA A (k + 1) fs (G.map (·.1)) → St0 W ρ σ G s → nt ≤ s.toks → VRs ρ args cargs → Comp W VR A (call (.ref a) cargs) ρ G s (bodyF n own.length f args σ) := by
 intro A fs G ρ σ s args cargs cx st hnt ra v σ' ev Q E hQ
 unfold bodyF at ev
 split at ev
 ·rename_i hn
  refine bindP3 ev fun fl l' σ₁ e1 e2 => ?_
  refine xEEEEAA D fun o pm code doc ho hd hc => ?_
  have hlen := ra.length
  have hcn : cargs.length = n := by exact Eq.trans hlen hn
  have hnod : (own.map (·.1)).Nodup := (List.nodup_cons.mp S.nodup).2
  have hpn : (((own.take n).map (·.1)).zip cargs).map (·.1) = (own.take n).map (·.1) := by
   rw [List.map_fst_zip]; simp only [List.length_map, List.length_take]; have := S.many; lia
  have hdep := cx.depth
  have hun := cx.units
  refine wpAny_call (codeAny_call_function (by exact o9 hdep) (st.stays _ _ ho) hd S.notco S.notgen rfl (hc.keeps st.stays) ?_)
  rw [hbind cargs hcn pm code doc]
  refine wpAny_pure (wpAny_with_toks (n := nt) hnt (wpAny_newFunctionEnv_cells S.kind (fun x hx => ?_) fun env henv s₁ ic htk => ?_))
  ·refine xEA (List.mem_map.mp (List.of_mem_zip (a := x.1) (b := x.2) hx).1) fun p hp e => ?_
   have hk := S.ownK p (List.mem_of_mem_take hp)
   rw [e] at hk
   cases e2 : p.2 with
   | false => rw [e2] at hk; exact .inl hk
   | true =>
    rw [e2] at hk
    obtain ⟨b, hb⟩ := cellsFrom_has (n := s.heap.objs.size + 1) (lookup_mem hk)
    exact .inr ⟨hk, by show ((cellsFrom (s.heap.objs.size + 1) scope.names []).lookup x.1).isSome = true; rw [hb]; rfl⟩
  ·subst henv
   refine ⟨(W.nolimit.keeps st.stays).keeps ic.toInCall.keep, codeAny_func ?_⟩
   change InCallC s (callEnvC (docDef name params body scope pm code doc) s.heap.objs.size a).locals (bindL (callEnvC (docDef name params body scope pm code doc) s.heap.objs.size a).kindOf (((own.take n).map (·.1)).zip cargs) fun _ => none) (callEnvC (docDef name params body scope pm code doc) s.heap.objs.size a).cells (bindC (callEnvC (docDef name params body scope pm code doc) s.heap.objs.size a).kindOf (((own.take n).map (·.1)).zip cargs) fun _ => none) s₁ at ic
   change wpAny (model W.prog W.w) (A.deeper (callEnvC (docDef name params body scope pm code doc) s.heap.objs.size a)) (execs body (callEnvC (docDef name params body scope pm code doc) s.heap.objs.size a)) _ _ s₁
   generalize hN : s.heap.objs.size = N at ic ⊢
   generalize hcs : cellsFrom (N + 1) scope.names [] = cs
   have hcells : (callEnvC (docDef name params body scope pm code doc) N a).cells = cs := hcs
   have hkf : (callEnvC (docDef name params body scope pm code doc) N a).kindOf = fun x => scope.names.lookup x := rfl
   have hL : (callEnvC (docDef name params body scope pm code doc) N a).locals = N := rfl
   rw [hcells, hkf, hL] at ic
   have cellA : ∀ p ∈ own, p.2 = true → ∃ b, cs.lookup p.1 = some b := by
    intro p hp e
    have hk := S.ownK p hp
    rw [e] at hk
    obtain ⟨b, hb⟩ := cellsFrom_has (n := N + 1) (lookup_mem hk)
    exact ⟨b, by rw [← hcs]; exact hb⟩
   have hlocs : ∀ p ∈ own, ∀ v, (∀ i, own[i]? = some p → v ≠ .undef → ∃ c, cargs[i]? = some c ∧ VR ρ v c ∧ i < n) → LocVal ρ s₁.heap (ownLoc N cs p) v := by
    intro p hp v hv
    obtain ⟨i, hi, ei⟩ := List.getElem_of_mem hp
    have hk := S.ownK p hp
    have hmem : ∀ c, cargs[i]? = some c → i < n → (p.1, c) ∈ ((own.take n).map (·.1)).zip cargs := fun c hc hin => by
     refine zI (i := i) (List.getElem?_zip_eq_some.mpr ⟨?_, hc⟩)
     rw [List.getElem?_map, List.getElem?_take, if_pos hin, zH hi, ei]; rfl
    have hpi : own[i]? = some p := by rw [zH hi, ei]
    unfold ownLoc
    cases e2 : p.2 with
    | false =>
     rw [e2] at hk
     refine ⟨_, ic.toInCall.ns, fun hne => ?_⟩
     refine xEAA (hv i hpi hne) fun c hc rc hin => ?_
     exact ⟨c, bindL_get _ _ (by rw [hpn]; exact (List.Sublist.map _ (List.take_sublist ..)).nodup hnod) (hmem c hc hin) hk, rc⟩
    | true =>
     rw [e2] at hk
     obtain ⟨b, hb⟩ := cellA p hp e2
     rw [hb]
     refine ⟨_, ic.cell _ _ hb, fun hne => ?_⟩
     refine xEAA (hv i hpi hne) fun c hc rc hin => ?_
     exact ⟨c, bindC_get _ _ (by rw [hpn]; exact (List.Sublist.map _ (List.take_sublist ..)).nodup hnod) (hmem c hc hin) (by simp only [hk]; decide), rc⟩
   obtain ⟨h₁, tk₁, hs₁⟩ := ic.toInCall.same
   have htoks : St0 W ρ σ ((Loc.ns N (".0" : Str) :: own.map (ownLoc N cs)).zip (.undef :: (args ++ List.replicate (own.length - n) .undef)) ++ G) s₁ := by
    have st' := st.frame (h' := s₁.heap) (tk := s₁.toks + 1) ic.toInCall.keep (Nat.succ_pos _) (own := Loc.ns N (".0" : Str) :: own.map (ownLoc N cs)) (vals := .undef :: (args ++ List.replicate (own.length - n) .undef)) ?_ ?_ ?_
    ·unfold St0; rw [hs₁] at st' ⊢; exact st'
    ·intro p hp
     rw [List.zip_cons_cons] at hp
     rcases zN hp with rfl | hp
     ·exact ⟨_, ic.toInCall.ns, fun h => absurd rfl h⟩
     ·obtain ⟨j, hj, ej⟩ := List.getElem_of_mem hp
      have hz : ((own.map (ownLoc N cs)).zip (args ++ List.replicate (own.length - n) .undef))[j]? = some p := by rw [zH hj, ej]
      obtain ⟨z1, z2⟩ := List.getElem?_zip_eq_some.mp hz
      rw [List.getElem?_map] at z1
      refine mapQ z1 fun q hq eq => ?_
      rw [← eq]
      refine hlocs q (zI hq) _ fun i hi hne => ?_
      have hij : i = j := by
       have h1 : (own.map (·.1))[i]? = some q.1 := by rw [List.getElem?_map, hi]; rfl
       have h2 : (own.map (·.1))[j]? = some q.1 := by rw [List.getElem?_map, hq]; rfl
       obtain ⟨a1, b1⟩ := zC h1
       obtain ⟨a2, b2⟩ := zC h2
       exact (List.getElem_inj hnod).mp (b1.trans b2.symm)
      subst hij
      by_cases hin : i < n
      ·rw [List.getElem?_append_left (by exact o52 hin (Eq.symm hn))] at z2
       refine xEA (ra.get z2) fun c hc rc => ?_
       exact ⟨c, hc, rc, hin⟩
      ·rw [List.getElem?_append_right (by exact Nat.le_of_lt_succ (o51 hn (Nat.lt_of_not_le hin)))] at z2
       have := zI z2
       exact absurd (List.mem_replicate.mp this).2 hne
    ·intro q hq
     rcases zN hq with rfl | hq
     ·exact Nat.le_of_eq hN
     ·refine xEA (List.mem_map.mp hq) fun p hp hrf => ?_; subst hrf
      unfold ownLoc
      cases e2 : p.2 with
      | false => exact Nat.le_of_eq hN
      | true =>
       obtain ⟨b, hb⟩ := cellA p hp e2
       rw [hb]
       have := ic.above _ _ (lookup_mem hb)
       show s.heap.objs.size ≤ b
       rw [hN]; exact Nat.le_of_lt this
    ·refine List.pairwise_cons.mpr ⟨fun q hq => ?_, ?_⟩
     ·refine xEA (List.mem_map.mp hq) fun p hp hrf => ?_; subst hrf
      unfold ownLoc
      cases e2 : p.2 with
      | false => exact .inr fun e => (List.nodup_cons.mp S.nodup).1 (by rw [e]; exact List.mem_map_of_mem hp)
      | true =>
       obtain ⟨b, hb⟩ := cellA p hp e2
       rw [hb]
       exact Nat.ne_of_lt (ic.above _ _ (lookup_mem hb))
     ·rw [List.pairwise_map]
      have hn' := hnod
      rw [List.nodup_iff_pairwise_ne, List.pairwise_map] at hn'
      refine List.Pairwise.imp_of_mem (fun {p q} hp hq hne => ?_) hn'
      unfold ownLoc
      cases e3 : p.2 with
      | false =>
       cases e4 : q.2 with
       | false => exact .inr hne
       | true =>
        obtain ⟨b, hb⟩ := cellA q hq e4
        rw [hb]
        exact Nat.ne_of_lt (ic.above _ _ (lookup_mem hb))
      | true =>
       obtain ⟨b, hb⟩ := cellA p hp e3
       cases e4 : q.2 with
       | false =>
        rw [hb]
        exact Nat.ne_of_gt (ic.above _ _ (lookup_mem hb))
       | true =>
        obtain ⟨c, hc⟩ := cellA q hq e4
        rw [hb, hc]
        intro e
        have e' : b = c := e
        subst e'
        exact hne (name_of_addr ic.apart (lookup_mem hb) (lookup_mem hc))
   have eoF : EnvOK R (callEnvC (docDef name params body scope pm code doc) N a) (Loc.ns N (".0" : Str) :: own.map (ownLoc N cs)) := by
    refine ⟨S.kind, rfl, rfl, S.notco, fun x i h => ?_, fun x h => ?_, fun x h => ?_, fun x h => ?_, fun x h => ?_, fun c h => hcode c pm code doc o h ho hd⟩
    ·refine xEAA (S.slots _ (lookup_mem h)) fun q h1 h2 h3 => ?_
     simp only at h1 h2 h3
     obtain ⟨j, rfl⟩ : ∃ j, i = j + 1 := ⟨i - 1, by exact o65 (ohp h2)⟩
     refine ⟨ownLoc N cs q, by rw [zS, List.getElem?_map]; rw [Nat.add_sub_cancel] at h1; rw [h1]; rfl, ?_⟩
     have hq := zI h1
     have hk := S.ownK q hq
     rw [h3] at hk
     unfold ownLoc
     cases e4 : q.2 with
     | false => rw [e4] at hk; exact ⟨h3, rfl, hk⟩
     | true =>
      rw [e4] at hk
      obtain ⟨b, hb⟩ := cellA q hq e4
      rw [hb]
      exact ⟨by rw [hcells, ← h3]; exact hb, .inl hk⟩
    ·exact S.globs x (by simpa using h)
    ·exact S.ownK _ (S.loc x (by simpa using h))
    ·exact S.ownK _ (S.cel x (by simpa using h))
    ·exact .inl (S.ownK _ (S.capt x (by simpa using h)))
   have cxF : CxA (A.deeper (callEnvC (docDef name params body scope pm code doc) N a)) k (callEnvC (docDef name params body scope pm code doc) N a :: fs) ((Loc.ns N (".0" : Str) :: own.map (ownLoc N cs)) ++ G.map (·.1)) := by
    refine ⟨cx.handled, by show A.depth + 1 + k < _; lia, by show A.units + 3 + 4 * k + 200 < _; lia, by show A.frames.map _ = _; rw [cx.frames]; rfl, fun e he => ?_⟩
    rcases zN he with rfl | he
    ·refine ⟨?_, N, ".0", rfl, by simp⟩
     show scope.kind ≠ .module
     rw [S.kind]; decide
    ·refine xAEEA (cx.fun' e he) fun h1 L x h2 h3 => ?_
     exact ⟨h1, L, x, h2, List.mem_append_right _ h3⟩
   have hll : (AV.undef :: (args ++ List.replicate (own.length - n) .undef)).length = (Loc.ns N (".0" : Str) :: own.map (ownLoc N cs)).length := by
    have := S.many
    simp; lia
   refine hb _ _ _ _ _ G ρ σ s₁ cxF eoF rfl hll htoks htk fl l' σ₁ e1 _ _ fun ρ' s' cf le rf hl' st' => ?_
   have st'' : St W ρ' σ₁ G s' := st'.sub (List.sublist_append_right _ _)
   cases fl with
   | nxt => cases rf; cases e2; exact hQ ρ' s' _ le rfl st''
   | brk => cases e2
   | cont => cases e2
   | ret v =>
    refine xEA rf fun c hrf rc => ?_; subst hrf
    cases e2
    exact hQ ρ' s' _ le rc st''
 ·exact nn ev
theorem CallOK.of_body {a : Addr} {name : Str} {params : Arguments} {body : List Stmt} {scope : Scope} (D : DefAt W a name params body scope) {own : List (Str × Bool)} {n : Nat} (S : FnSpec scope own n R) {f : PS} (hb : FsOK W R k body f)
  (hbind : ∀ (vals : List Value), vals.length = n → ∀ pm code doc, bindArgs (docDef name params body scope pm code doc) ⟨vals, []⟩ = pure (((own.take n).map (·.1)).zip vals))
  (hcode : ∀ c pm code doc o, R.code = some c → W.B.get? a = some o → o.data = .func (docDef name params body scope pm code doc) → code = c := by intro c pm code doc o h; cases h) :
  CallOK W (k + 1) a (bodyF n own.length f) :=
 fun A fs G ρ σ s args cargs cx st ra => of_bodyG (nt := 1) D S (fun A fs env locs l G ρ σ s cx eo hf hl st hn => hb A fs env locs l G ρ σ s cx eo hf hl (st.full hn)) hbind hcode A fs G ρ σ s args cargs cx st.to0 st.tk ra
end LQ
noncomputable section LR
open PySem PySem.W PySem.Calls PyProof.Rows
variable {W : Wd} {R : Rs} {k : Nat}
noncomputable def hideA (h : Heap) : List Addr → Heap
 | [] => h
 | a :: r => (hideA h r).update a (fun o => { o with data := .freed })
theorem hide_of (h : Heap) (a : Addr) : (h.update a (fun o => { o with data := .freed })).get? a = none := by
 cases e : (h.update a (fun o => { o with data := .freed })).get? a with
 | none => rfl
 | some o =>
  exfalso
  have h1 := (Heap.get?_eq_some _ a o).mp e
  rw [Heap.objs_update_self] at h1
  obtain ⟨h2, h3⟩ := h1
  cases q : h.objs[a]? with
  | none => rw [q] at h2; cases h2
  | some o' =>
   rw [q] at h2
   cases h2
   cases h3
theorem hideA_in : ∀ (l : List Addr) (h : Heap) (a : Addr), a ∈ l → (hideA h l).get? a = none := by
 intro l
 induction l with
 | nil => exact fun _ _ hm => absurd hm List.not_mem_nil
 | cons b r ih =>
  intro h a hm
  unfold hideA
  by_cases e : a = b
  ·subst e; exact hide_of _ _
  ·rw [Heap.get?_update_other _ _ (Ne.symm e)]
   exact ih h a ((zN hm).resolve_left e)
theorem hideA_out : ∀ (l : List Addr) (h : Heap) (a : Addr), a ∉ l → (hideA h l).get? a = h.get? a
 | [], _, _, _ => rfl
 | b :: r, h, a, hm => by
  simp only [List.mem_cons, not_or] at hm
  unfold hideA
  rw [Heap.get?_update_other _ _ (Ne.symm hm.1)]
  exact hideA_out r h a hm.2
theorem frames_of {h : Heap} {base : Heap} : ∀ (fs : List Env), (∀ e ∈ fs, e.scope.kind ≠ .module ∧ ∃ L o, e.frame = some L ∧ base.get? L = none ∧ h.get? L = some o ∧ ∀ vs, o.data ≠ .fields vs) → h.FunFrames base fs
 | [], _ => trivial
 | e :: r, hh => ⟨(hh e (List.mem_cons_self ..)).1, (hh e (List.mem_cons_self ..)).2, frames_of r fun x hx => hh x (List.mem_cons_of_mem _ hx)⟩
theorem St.slots {ρ : List Addr} {σ : AH} {G : List (Loc × AV)} {s : Shared} (st : St W ρ σ G s) {fs : List Env} {Ls : List Loc} (hG : G.map (·.1) = Ls) (hfs : ∀ e ∈ fs, e.scope.kind ≠ .module ∧ ∃ L x, e.frame = some L ∧ Loc.ns L x ∈ Ls)
  {h' : Heap} (h1 : ∀ b o, b ∉ fs.filterMap (·.frame) → s.heap.get? b = some o → h'.get? b = some o) (h2 : ∀ b o, b ∈ fs.filterMap (·.frame) → s.heap.get? b = some o → ∃ o', h'.get? b = some o' ∧ o'.cls = o.cls ∧ o'.data = o.data) {tk : Nat} (htk : 0 < tk) :
  St W ρ σ G { s with heap := h', toks := tk } := by
 have hF : ∀ a ∈ fs.filterMap (·.frame), ∃ p ∈ G, ∃ x, p.1 = .ns a x := by
  intro a ha
  refine xEA (List.mem_filterMap.mp ha) fun e he ef => ?_
  refine xAEEA (hfs e he) fun _ L x e1 e2 => ?_
  rw [ef] at e1; replace e2 := t1 e1 ▸ e2
  rw [← hG] at e2
  refine xEA (List.mem_map.mp e2) fun p hp e3 => ?_
  exact ⟨p, hp, x, e3⟩
 refine st.same (fun b o e => h1 b o (fun q => ?_) (st.stays b o e)) (fun a ha o e => h1 a o (fun q => ?_) e) (fun p hp => ?_) htk
 ·obtain ⟨p, hp, x, e1⟩ := hF b q
  have := (st.lfresh p hp).2
  rw [e1] at this
  rw [show W.B.get? b = none from this] at e; exact nn e
 ·obtain ⟨p, hp, x, e1⟩ := hF a q
  have := (st.lfresh p hp).1
  rw [e1] at this
  exact this ha
 ·by_cases hq : p.1.addr ∈ fs.filterMap (·.frame)
  ·intro o ho
   refine xEAA (h2 _ o hq ho) fun o' e1 e2 e3 => ?_
   refine ⟨o', e1, .inr ⟨?_, e2, e3⟩⟩
   obtain ⟨q, hq', x, e4⟩ := hF _ hq
   cases hpl : p.1 with
   | raw a ob =>
    exfalso
    have hne : p ≠ q := fun e => by rw [e, e4] at hpl; cases hpl
    obtain ⟨i, hi, ei⟩ := List.getElem_of_mem hp
    obtain ⟨j, hj, ej⟩ := List.getElem_of_mem hq'
    have hij : i ≠ j := fun e => by subst e; exact hne (ei.symm.trans ej)
    have := apart_at st.apart (zH hi) (zH hj) hij
    rw [ei, ej, hpl, e4] at this
    exact this (by show a = p.1.addr; rw [hpl]; rfl)
   | _ => rfl
  ·exact .of fun o ho => h1 _ o hq ho
namespace Vx
theorem exc : isSubtype (.type "ValueError") (.type "BaseException") = pure true := by rw [isSubtype_type]; kernel_rfl
theorem nt : isSubtype (.type ((Manifest.find? "ValueError").elim "type" fun x => x.metatype)) (.type "tuple") = pure false := by rw [show ((Manifest.find? "ValueError").elim "type" fun x => x.metatype) = "type" by decide +kernel, isSubtype_type]; kernel_rfl
theorem self : isSubtype (.type "ValueError") (.type "ValueError") = pure true := by rw [isSubtype_type]; kernel_rfl
end Vx
noncomputable def sTry3 (na : Nat) (t : List Nat) (nb : Nat) : PS := fun l h => match h[na]? with
 | some (.list xs) => (allStr xs).bind fun ys => if xs.length ≤ 1000000 then match ys.findIdx? (· == t) with
  | some j => some (.nxt, l, h.set na (.list (xs.eraseIdx j)))
  | none => (mAppend (.ref nb) [.str t] h).map fun p => (.nxt, l, p.2)
  else none
 | _ => none
noncomputable def sTry (ia ix ib : Nat) : PS := fun l h => (l[ia]?).bind fun a => (l[ix]?).bind fun x => (l[ib]?).bind fun b => match a with
 | .ref na => match x with
  | .str t => match b with
   | .ref nb => sTry3 na t nb l h
   | _ => none
  | _ => none
 | _ => none
theorem VRs.eraseIdx {ρ : List Addr} : ∀ {xs : List AV} {vs : List Value} (j : Nat), VRs ρ xs vs → VRs ρ (xs.eraseIdx j) (vs.eraseIdx j)
 | [], vs, j, h => by rw [h.nil_of]; exact trivial
 | x :: xs, vs, j, h => by
  refine xEEAA h.cons_of fun v us hrf r1 r2 => ?_; subst hrf
  cases j with
  | zero => exact r2
  | succ j => exact ⟨r1, r2.eraseIdx j⟩
theorem ExOK.tryRemove {xa xx xb : Str} {ia ix ib : Nat} {p1 p2 p3 p4 p5 p6 p7 q1 q2 q3 q4 q5 pos : Pos} (pa : PlainAttrs "list") (hda : (xa == ("__debug__" : Str)) = false) (hdx : (xx == ("__debug__" : Str)) = false) (hdb : (xb == ("__debug__" : Str)) = false)
  (hca : (xa == ("__classdict__" : Str)) = false) (hcx : (xx == ("__classdict__" : Str)) = false) (hcb : (xb == ("__classdict__" : Str)) = false)
  (ea : R.slots.lookup xa = some ia) (ex : R.slots.lookup xx = some ix) (eb : R.slots.lookup xb = some ib) (hg : R.globs.contains "ValueError" = true) (hv : W.mg "ValueError" = none)
  (hl1 : (p2.endLine == p4.line) = true) (hl2 : (q2.endLine == q4.line) = true) :
  ExOK W R k (.Try [.Expr (.Call (.Attribute (.Name xa p1) "remove" p2) [.Name xx p3] [] p4) p5] [.ExceptHandler (some (.Name "ValueError" p6)) none [.Expr (.Call (.Attribute (.Name xb q1) "append" q2) [.Name xx q3] [] q4) q5] p7] [] [] pos) (sTry ia ix ib) := by
 intro A fs env locs l G ρ σ s cx eo hfe hl st v l' σ' ev Q E hQ
 refine bindQ ev fun a hna ev => ?_
 refine bindQ ev fun x ht ev => ?_
 refine bindQ ev fun b hnb ev => ?_
 cases a with
 | ref na => ?_
 | _ => exact nn ev
 cases x with
 | str t => ?_
 | _ => exact nn ev
 cases b with
 | ref nb => ?_
 | _ => exact nn ev
 replace ev : sTry3 na t nb l σ = _ := ev
 ·unfold sTry3 at ev
  split at ev
  ·rename_i xs hxs
   refine bindQ ev fun ys e1 ev => ?_
   split at ev
   ·rename_i hz
    refine xEA (eo.slots xa ia ea) fun la el_a hsa => ?_
    refine xEA (eo.slots xx ix ex) fun lx el_x hsx => ?_
    refine xEA (eo.slots xb ib eb) fun lb el_b hsb => ?_
    have ga := zip_get (G := G) el_a hna
    have gx := zip_get (G := G) el_x ht
    have gb := zip_get (G := G) el_b hnb
    refine xEEAAEEA (st.at hxs) fun a oa eρa ho vs n' hrf hvs => ?_; subst hrf
    have hlen := hvs.length
    obtain ⟨q1', q2'⟩ := allStr_vals e1 hvs
    have hint : interactive env = false := by unfold interactive; rw [eo.kind]; rfl
    refine wpAny_Try_except (wpAny_execs_cons (wpAny_Expr ?_ hint))
    refine wpAny_Call_method rfl rfl hl1 pa F.slot_list_remove F.type_list_remove (wpAny_Name (loadName_slot eo.kind hsa (st.locs _ (zI ga)) (by intro h; cases h) (fun c rc => ?_) hca) hda)
    refine xEA rc fun a' eρa' hrf => ?_; subst hrf
    rw [eρa] at eρa'; obtain rfl := Option.some.inj eρa'
    refine ⟨⟨_, ho, rfl⟩, fun b e => by cases e; exact ⟨_, ho, rfl⟩, ?_⟩
    refine callWith_of (P := fun _ => True) rfl (fun hp hx => ⟨.machine, .inr (.inl rfl), .of_pure rfl⟩) ?_
    refine evalArgs_plain (?_ : wpAny _ _ (spliced (backTo p4 (starEach [Expr.Name xx p3] env))) _ _ _)
    refine args_cons (wpAny_Name (loadName_slot eo.kind hsx (st.locs _ (zI gx)) (by intro h; cases h) (fun c rc => ?_) hcx) hdx) rfl
    obtain ⟨tk, rfl⟩ := rc
    refine wpAny_items_nil ⟨trivial, ?_⟩
    have heq : ∀ y, y ∈ vs.toArray → PySem.MeetsSeq.EqGives y (.str ⟨t.toArray⟩ tk) (strV y == t) := by
     intro y hy
     obtain ⟨x, u, rfl⟩ := q1' y (by simpa using hy)
     exact SeqRoads2.EqGives.str x ⟨t.toArray⟩ u tk
    have hyi : ∀ (m : Nat) (hm : m < vs.toArray.size), (strV vs.toArray[m] == t) = (ys[m]? == some t) := by
     intro m hm
     have hm' : m < vs.length := by simpa using hm
     have : ys[m]? = some (strV vs[m]) := by rw [← q2', List.getElem?_map, zH hm']; rfl
     rw [this]
     simp
    split at ev
    ·rename_i j hj
     replace hQ := hQ.t3 ev
     refine xEA (List.findIdx?_eq_some_iff_getElem.mp hj) fun hjl hj1 hj2 => ?_
     have hyl : ys.length = vs.length := by rw [← q2']; simp
     refine call_meets F.slot_list_remove ⟨_, ho, rfl⟩ F.entry_list_remove (F.args_list_remove_2 _ _) (PySem.MeetsSeq.list_remove a vs.toArray n' _ (fun y => strV y == t) heq j (by simp; exact o52 hjl hyl) ?_ (fun m hm hmj => ?_) (by simp; rw [sizeLine_eq]; lia)) ⟨ho, ?_⟩
     ·show (strV _ == t) = true
      rw [hyi j (by simp; exact o52 hjl hyl), zH hjl]
      simpa using hj1
     ·show (strV _ == t) = false
      rw [hyi m hm]
      have hm2 : m < ys.length := by simp at hm; exact o52 hm (Eq.symm hyl)
      rw [zH hm2]
      have := hj2 m hmj
      simpa using this
     ·refine wpAny_execs_nil (wpAny_execs_nil ?_)
      refine hQ ρ _ _ (Le.refl _) rfl rfl (st.updList eρa ho (fun xs => xs.eraseIdxIfInBounds j) (vs' := vs.eraseIdx j) ?_ (hvs.eraseIdx j))
      rw [Array.eraseIdxIfInBounds, dif_pos (by simp; exact o52 hjl hyl)]
      apply Array.ext'
      simp
    ·rename_i hj
     refine mapP ev fun vv σ₁ e2 e3 => ?_
     replace hQ := hQ.r3 e3
     have hno : ∀ y ∈ ys, (y == t) = false := List.findIdx?_eq_none_iff.mp hj
     refine wpAny_with_toks (n := 1) st.tk (call_meets F.slot_list_remove ⟨_, ho, rfl⟩ F.entry_list_remove (F.args_list_remove_2 _ _) (PySem.MeetsSeq.list_remove_none a vs.toArray n' _ (fun y => strV y == t) heq (fun m hm => ?_)) ⟨ho, cx.handled, fun h' tk' e hne htk' => ?_⟩)
     ·show (strV _ == t) = false
      rw [hyi m hm]
      have hm2 : m < ys.length := by rw [← q2']; simpa using hm
      rw [zH hm2]
      have := hno _ (List.getElem_mem hm2)
      simpa using this
     ·obtain ⟨outer, rfl⟩ : ∃ outer, fs = env :: outer := by
       cases fs with
       | nil => cases hfe
       | cons x r => cases hfe; exact ⟨r, rfl⟩
      have hGm : (locs.zip l ++ G).map (·.1) = locs ++ G.map (·.1) := by rw [List.map_append, List.map_fst_zip (by exact o53 (Nat.le_refl _) (Eq.symm hl))]
      refine xEEAA hne.there fun ob tt hob hobc hobd => ?_
      generalize hFS : (env :: outer).filterMap (·.frame) = FS
      have hFSn : ∀ L, L ∈ FS → ∃ m, s.heap.Ns L m := by
       intro L hL
       rw [← hFS] at hL
       refine xEA (List.mem_filterMap.mp hL) fun e' he' ef => ?_
       refine xAEEA (cx.fun' e' he') fun _ L' x' e1' e2' => ?_
       rw [ef] at e1'; replace e2' := t1 e1' ▸ e2'
       rw [← hGm] at e2'
       refine xEA (List.mem_map.mp e2') fun p hp e3' => ?_
       have := st.locs p hp
       rw [e3'] at this
       refine xEA this fun m hm _ => ?_
       exact ⟨m, hm⟩
      have hbase := hideA_in FS s.heap
      have hbaseO := hideA_out FS s.heap
      generalize hideA s.heap FS = base at hbase hbaseO
      have hstay : Heap.StaysIn base h' := fun b o hb => by
       by_cases hm : b ∈ FS
       ·rw [hbase b hm] at hb; exact nn hb
       ·rw [hbaseO b hm] at hb; exact hne.keeps b o hb
      have hen : base.get? e = none := by
       by_cases hm : e ∈ FS
       ·exact hbase e hm
       ·rw [hbaseO e hm]; exact hne.new
      have hff : Heap.FunFrames h' base (env :: outer) := frames_of _ fun e' he' => by
       refine xAEEA (cx.fun' e' he') fun h1 L x' e1' e2' => ?_
       have hLm : L ∈ FS := by rw [← hFS]; exact List.mem_filterMap.mpr ⟨e', he', e1'⟩
       refine xEEEEAA (hFSn L hLm) fun m o es ep hoL hdL _ => ?_
       exact ⟨h1, L, o, e1', hbase L hLm, hne.keeps _ _ hoL, fun vs q => by rw [hdL] at q; cases q⟩
      have hframe : ∃ L, env.frame = some L := let ⟨_, L, _, e1', _⟩ := cx.fun' env (List.mem_cons_self ..); ⟨L, e1'⟩
      obtain ⟨L, hL⟩ := hframe
      have back : ∀ (h₂ : Heap) (tk₂ : Nat), 0 < tk₂ → Heap.StaysIn base h₂ → (∀ b o, b ∈ FS → s.heap.get? b = some o → ∃ o', h₂.get? b = some o' ∧ o'.cls = o.cls ∧ o'.data = o.data) → St W ρ σ (locs.zip l ++ G) { s with heap := h₂, toks := tk₂ } := by
       intro h₂ tk₂ htk₂ hs₂ hf₂
       refine st.slots (fs := env :: outer) hGm cx.fun' (fun b o hb ho => hs₂ b o ?_) (fun b o hb ho => hf₂ b o (by rw [← hFS]; exact hb) ho) htk₂
       rw [hFS] at hb
       rw [hbaseO b hb]; exact ho
      have ho1 : vs.toArray = vs.toArray := rfl
      unfold noteFrame
      simp only [hL]
      refine wpAny_bind (wpAny_field hob hobd (x := .none) rfl ?_)
      rw [if_neg (by decide)]
      refine wpAny_newEntryW (a0 := tt) cx.frames hff hL hob hstay hen hobd (by simp) rfl fun h₂ hleft => ?_
      obtain ⟨k1, k2, k3, k4⟩ := hleft
      have f2 : ∀ b o, b ∈ FS → s.heap.get? b = some o → ∃ o', h₂.get? b = some o' ∧ o'.cls = o.cls ∧ o'.data = o.data := by
       intro b o hb hob'
       refine xEEEEAA (hFSn b hb) fun m o2 es ep hoL hdL _ => ?_
       rw [hob'] at hoL; replace hdL := t1 hoL ▸ hdL
       obtain ⟨sl, hsl⟩ := k4 b o (hne.keeps _ _ hob') (fun vs q => by rw [hdL] at q; cases q)
       exact ⟨_, hsl, rfl, rfl⟩
      have st₂ := back h₂ tk' htk' k1 f2
      refine wpAny_handleBy_builtin Vx.exc Vx.nt Vx.self (b := true) ?_
      refine Name_function_global eo.kind (eo.globs _ hg) (loadGlobal_builtin (v := .type "ValueError") (by rw [eo.globals]; exact W.g.keeps st₂.stays) hv (by rw [eo.builtins]; exact W.b.keeps st₂.stays) ((W.builtins "ValueError" (by decide)).trans (by kernel_rfl)) ?_) rfl
      refine ⟨rfl, ?_, ?_⟩
      ·obtain ⟨oe, _, _, _, _, he, ⟨hcl, _⟩, _⟩ := k3
       exact ⟨oe, he, hcl.trans hobc⟩
      ·rw [if_pos rfl]
       refine wpAny_setFlight_noneW k1 k2 k3 fun h₃ j1 j2 j3 j4 => ?_
       have f3 : ∀ b o, b ∈ FS → s.heap.get? b = some o → ∃ o', h₃.get? b = some o' ∧ o'.cls = o.cls ∧ o'.data = o.data := by
        intro b o hb hob'
        refine xEAA (f2 b o hb hob') fun o' ho' hc' hd' => ?_
        refine xEEEEAA (hFSn b hb) fun m o2 es ep hoL hdL _ => ?_
        rw [hob'] at hoL; replace hdL := t1 hoL ▸ hdL
        exact ⟨o', j4 b o' ho' (fun vs q => by rw [hd', hdL] at q; cases q), hc', hd'⟩
       have st₃ := back h₃ tk' htk' j1 f3
       refine wpAny_execs_cons (wpAny_Expr ?_ hint)
       simp only [mAppend] at e2
       split at e2
       ·rename_i zs hzs
        split at e2
        ·rename_i hzz
         replace hQ := t2b e2 ▸ hQ
         refine wpAny_Call_method rfl rfl hl2 pa F.slot_list_append F.type_list_append (wpAny_Name (loadName_slot eo.kind hsb (st₃.locs _ (zI gb)) (by intro h; cases h) (fun c rc => ?_) hcb) hdb)
         refine xEA rc fun bb eρb hrf => ?_; subst hrf
         refine xEEAAEEA (st₃.at hzs) fun b' ob' eρb' hob3 vsb nb' hrf hvb => ?_; subst hrf
         rw [eρb] at eρb'; replace hob3 := t1 eρb' ▸ hob3
         have hlenb := hvb.length
         refine ⟨⟨_, hob3, rfl⟩, fun b e => by cases e; exact ⟨_, hob3, rfl⟩, ?_⟩
         refine callWith_of (P := fun _ => True) rfl (fun hp hx => ⟨.machine, .inr (.inl rfl), .of_pure rfl⟩) ?_
         refine evalArgs_plain (?_ : wpAny _ _ (spliced (backTo q4 (starEach [Expr.Name xx q3] env))) _ _ _)
         refine args_cons (wpAny_Name (loadName_slot eo.kind hsx (st₃.locs _ (zI gx)) (by intro h; cases h) (fun c rc => ?_) hcx) hdx) rfl
         refine wpAny_items_nil ⟨trivial, ?_⟩
         refine call_meets F.slot_list_append ⟨_, hob3, rfl⟩ F.entry_list_append (F.args_list_append_2 _ _) (PySem.AutoListH.list_append_list_val_0 _ vsb.toArray nb' c (by simp; rw [sizeLine_eq]; exact o10 hzz hlenb)) ⟨hob3, ?_⟩
         refine wpAny_execs_nil ?_
         exact hQ ρ _ _ (Le.refl _) rfl rfl (st₃.updList eρb hob3 (fun x => x.push c) (vs' := vsb ++ [c]) (by simp) (hvb.app ⟨rc, trivial⟩))
        ·exact nn e2
       ·exact nn e2
   ·exact nn ev
  ·exact nn ev
end LR
noncomputable section LS
open PySem PySem.W PySem.Calls PyProof.Rows
section
variable {prog : Program} {w : World} {A : Around}
noncomputable def GenElt (prog : Program) (w : World) (cenv : Env) (x : Str) (elt : Expr) (items : Array Value) (F : Nat → Value → Prop) : Prop :=
 ∀ (A' : Around) E' i v (s₂ : Shared) m₂, A'.handled = none → items[i]? = some v → s₂.heap.Ns cenv.locals m₂ → m₂ x = some v → 0 < s₂.toks →
  wpAny (model prog w) A' (eval elt cenv) (fun y s₃ => (F i y ∧ Keeps s₂ s₃) ∧ 0 < s₃.toks) E' s₂
noncomputable def gProto (C I ax : Addr) (n : Nat) (F : Nat → Value → Prop) : Protocol := fun m s₀ v s kap =>
 F (n - 1 - m) v ∧ GenSince C [I] s₀ s ∧ 0 < s.toks ∧ ∀ s'' : Shared, (∀ b ∈ [C, I, ax], ∀ o, s.heap.get? b = some o → s''.heap.get? b = some o) → 0 < s''.toks → kap (.send .none) s''
noncomputable abbrev gEnd (C I : Addr) : Nat → Shared → Result → Shared → Prop := fun n s₀ r s₁ => r = .ok .next ∧ (n = 0 ∧ GenSince C [I] s₀ s₁ ∧ 0 < s₁.toks)
theorem gLoop {elt iter : Expr} {x : Str} {px : Pos} {scope : Scope} {pos : Pos} {I ax : Addr} {items : Array Value} {cenv : Env} {F : Nat → Value → Prop}
  (hh : A.handled = none) (hne : ax ≠ I) (hx : cenv.kindOf x = some .local) (hp : (cenv.scope.kind == .class || (cenv.scope.kind == .module && cenv.locals != cenv.globals)) = false)
  (hco : cenv.scope.isCoroutine = false) (hCI : cenv.locals ≠ I) (hCx : cenv.locals ≠ ax) (hq : GenElt prog w cenv x elt items F) :
  ∀ (k i : Nat) (s₀ s : Shared) (m : Str → Option Value), items.size - i = k → i ≤ items.size → s.heap.IsListIter I ax i → s.heap.IsList ax items → s.heap.Ns cenv.locals m → GenSince cenv.locals [I] s₀ s → 0 < s.toks →
   Seg (model prog w) A (fun n s₀ r s₁ => gEnd cenv.locals I n s₀ r s₁) (gProto cenv.locals I ax items.size F) (items.size - i) s₀
    (.compLoop (.GeneratorExp elt [⟨.Name x px, iter, [], 0⟩] scope pos) 0 (.ref I) .none cenv)
    ((model prog w).den (.compLoop (.GeneratorExp elt [⟨.Name x px, iter, [], 0⟩] scope pos) 0 (.ref I) .none cenv)) [] s := by
 have hh' : (A.over (.compLoop (.GeneratorExp elt [⟨.Name x px, iter, [], 0⟩] scope pos) 0 (.ref I) .none cenv) []).handled = none := hh
 intro k
 induction k with
 | zero =>
  intro i s₀ s m hk hi hit hli hn hsince htk
  have hin : i = items.size := by lia
  subst hin
  show Seg _ A _ _ _ s₀ _ ((compTurn (.GeneratorExp elt [⟨.Name x px, iter, [], 0⟩] scope pos) 0 (.ref I) .none cenv).onRaise (leaving cenv)) [] s
  rw [compTurn_gen, Sem.onRaise_eq_wrap]
  refine seg_bind_wrap (wpAny_standAt ?_)
  refine seg_bind_wrap (wpAny_with_toks (n := 1) htk (wpAny_mono ((Walks.list hh' I ax hne items).done s _ (fun _ _ => False) ⟨hit, hli⟩ fun h' tk hk' => (fun ht => ?_)) (fun _ _ e => e) fun _ _ e => e.elim))
  exact seg_end (.ok .next) ⟨rfl, by omega, hsince.step fun b o _ hw e => hk' b o hw e, ht⟩
 | succ k ih =>
  intro i s₀ s m hk hi hit hli hn hsince htk
  have hlt : i < items.size := by exact o71 (o69 hi hk)
  show Seg _ A _ _ _ s₀ _ ((compTurn (.GeneratorExp elt [⟨.Name x px, iter, [], 0⟩] scope pos) 0 (.ref I) .none cenv).onRaise (leaving cenv)) [] s
  rw [compTurn_gen, Sem.onRaise_eq_wrap]
  refine seg_bind_wrap (wpAny_standAt ?_)
  refine seg_bind_wrap (wpAny_with_toks (n := 1) htk (wpAny_mono ((Walks.list hh' I ax hne items).item i s _ (fun _ _ => False) hlt ⟨hit, hli⟩ fun v h₁ tk₁ hv hst₁ hk₁ => (fun ht₁ => ?_)) (fun _ _ e => e) fun _ _ e => e.elim))
  refine seg_bind_wrap (wpAny_of_eq (rfl : letOwnedTupleGo (.Name x px) (.ref I) v = pure ()) ?_)
  have hn₁ : h₁.Ns cenv.locals m := hn.at' fun o e => hk₁ _ o (by simpa using hCI) e
  refine seg_bind_wrap (wpAny_assign_Name (wpAny_storeName_local hx hn₁ (fun h₂ hn₂ hs₂ => ?_) hp))
  have hit₂ : h₂.IsListIter I ax (i + 1) := hst₁.1.at fun o e => hs₂.extBut I o hCI.symm e
  have hli₂ : h₂.IsList ax items := hst₁.2.at fun o e => hs₂.extBut ax o hCx.symm e
  have up₂ : ∀ b o, b ≠ cenv.locals → b ∉ [I] → s.heap.get? b = some o → h₂.get? b = some o := fun b o hbC hbw e => hs₂.extBut b o hbC (hk₁ b o hbw e)
  refine seg_bind_wrap (wpAny_of_eq (a := true) rfl ?_)
  simp only [if_true]
  have hy : ∀ v, yieldOut cenv v = yieldValue v := fun v => by simp only [yieldOut, hco, Bool.false_eq_true, if_false]
  simp only [hy]
  rw [Sem.bind_eq_wrap', Sem.bind_eq_wrap', Sem.wrap_wrap, Sem.wrap_wrap]
  refine seg_wrap (wpAny_mono (hq _ (fun _ _ => False) i v _ _ hh' hv hn₂ (by simp) (Nat.succ_pos _)) (fun y s₄ h₄ => ?_) fun _ _ e => e.elim)
  obtain ⟨⟨hFy, h₄, tk₄, rfl, hk₄⟩, ht₄⟩ := h₄
  have hm : items.size - i = (items.size - (i + 1)) + 1 := by exact o65 (o71 hk)
  rw [hm]
  refine seg_at (seg_yield rfl rfl rfl ⟨?_, hsince.step fun b o hbC hbw e => hk₄ b o (up₂ b o hbC hbw e), ht₄, fun s'' hal ht'' => ?_⟩)
  ·have : items.size - 1 - (items.size - (i + 1)) = i := by omega
   rw [this]; exact hFy
  ·refine seg_again rfl (ih (i + 1) s'' s'' _ (by lia) hlt (hit₂.at fun o e => hal I (by simp) o (hk₄ I o e)) (hli₂.at fun o e => hal ax (by simp) o (hk₄ ax o e))
    ((hn₂.keeps hk₄).at' fun o e => hal _ (by simp) o e) (GenSince.refl _ _ _) ht'')
theorem gStart {elt iter : Expr} {x : Str} {px : Pos} {scope : Scope} {pos : Pos} {I ax : Addr} {items : Array Value} {cenv : Env} {F : Nat → Value → Prop}
  (hh : A.handled = none) (hne : ax ≠ I) (hx : cenv.kindOf x = some .local) (hp : (cenv.scope.kind == .class || (cenv.scope.kind == .module && cenv.locals != cenv.globals)) = false)
  (hco : cenv.scope.isCoroutine = false) (hCI : cenv.locals ≠ I) (hCx : cenv.locals ≠ ax) (hq : GenElt prog w cenv x elt items F)
  (s₀ s : Shared) (m : Str → Option Value) (hit : s.heap.IsListIter I ax 0) (hli : s.heap.IsList ax items) (hn : s.heap.Ns cenv.locals m) (hsince : GenSince cenv.locals [I] s₀ s) (htk : 0 < s.toks) :
  Seg (model prog w) A (fun n s₀ r s₁ => gEnd cenv.locals I n s₀ r s₁) (gProto cenv.locals I ax items.size F) items.size s₀
   (.compStart (.GeneratorExp elt [⟨.Name x px, iter, [], 0⟩] scope pos) 0 (.ref I) .none cenv)
   ((model prog w).den (.compStart (.GeneratorExp elt [⟨.Name x px, iter, [], 0⟩] scope pos) 0 (.ref I) .none cenv)) [] s := by
 have hh' : (A.over (.compStart (.GeneratorExp elt [⟨.Name x px, iter, [], 0⟩] scope pos) 0 (.ref I) .none cenv) []).handled = none := hh
 have loop := gLoop (A := A) (elt := elt) (iter := iter) (px := px) (scope := scope) (pos := pos) hh hne hx hp hco hCI hCx hq items.size 0 s₀ s m (Nat.sub_zero _) (Nat.zero_le _) hit hli hn hsince htk
 show Seg _ A _ _ _ s₀ _ ((compStart (.GeneratorExp elt [⟨.Name x px, iter, [], 0⟩] scope pos) 0 (.ref I) .none cenv).onRaise (leaving cenv)) [] s
 unfold compStart
 rw [Sem.onRaise_eq_wrap]
 show Seg _ A _ _ _ s₀ _ ((ask >>= _).wrap _ _ _ _) [] s
 refine seg_bind_wrap (wpAny_askSetting ?_)
 split
 ·exact seg_again rfl loop
 ·first
   | exact seg_bind_wrap (wpAny_rule (seg_bind_wrap (wpAny_standAt (seg_bind_wrap ((Walks.list hh' I ax hne items).self 0 s _ _ ⟨hit, hli⟩ (seg_again rfl loop))))))
   | (refine seg_bind_wrap (wpAny_rule ?_); show Seg _ A _ _ _ s₀ _ ((standAt iter.pos >>= _).wrap _ _ _ _) [] s; exact seg_bind_wrap (wpAny_standAt (seg_bind_wrap ((Walks.list hh' I ax hne items).self 0 s _ _ ⟨hit, hli⟩ (seg_again rfl loop)))))
noncomputable def GAt (prog : Program) (w : World) (A : Around) (a : Addr) (g : Nat) (C I ax : Addr) (n : Nat) (F : Nat → Value → Prop) (j : Nat) (s : Shared) : Prop :=
 0 < s.toks ∧ s.heap.IsGen a g ∧ s.heap.NoLimit ∧ ∃ gs, s.gens[g]? = some gs ∧ ∀ s'' : Shared, (∀ b ∈ [C, I, ax], ∀ o, s.heap.get? b = some o → s''.heap.get? b = some o) → 0 < s''.toks →
  gs.Goes (model prog w) A.in1 (fun n s₀ r s₁ => gEnd C I n s₀ r s₁) (gProto C I ax n F) (n - j) (.send .none) s''
theorem gWalks (hh : A.handled = none) (a : Addr) (g : Nat) (C I ax : Addr) (n : Nat) (F : Nat → Value → Prop) (haC : a ≠ C) (haI : a ≠ I)
  (hroom : A.depth < recursionLimit) (hcC : cStatics ≠ C) (hcI : cStatics ≠ I) :
  WalksS prog w A a [a, C, I, ax, cStatics] [C, I] (GenOnlyQ g) n F (GAt prog w A a g C I ax n F) where
 sub := fun b hb => by
  rcases zN hb with rfl | hb
  ·simp
  ·rw [zL hb]; simp
 grefl := fun _ => .inl rfl
 gtrans := fun _ _ _ x y => x.trans y
 frame := fun j s h' tk st ht hk =>
  ⟨zK st.1 ht, let ⟨o, nm, qn, ho, r⟩ := st.2.1; ⟨o, nm, qn, hk a (List.mem_cons_self ..) o ho, r⟩,
  (let ⟨mc, hns, hnn⟩ := st.2.2.1; ⟨mc, hns.at' fun o e => hk cStatics (by simp) o e, hnn⟩),
  let ⟨gs, hgs, hgo⟩ := st.2.2.2; ⟨gs, hgs, fun s'' hal ht'' => hgo s'' (fun b hb o e => hal b hb o (hk b (by
   simp only [List.mem_cons, List.not_mem_nil, or_false] at hb ⊢
   rcases hb with h | h | h <;> simp [h]) o e)) ht''⟩⟩
 item := fun j s Q E hj st hQ => by
  obtain ⟨hpos, hg, hl, gs, hgs, hgo⟩ := st
  obtain ⟨m, hm⟩ : ∃ m, n - j = m + 1 := ⟨n - j - 1, by exact o65 (Nat.sub_pos_of_lt hj)⟩
  rw [hm] at hgo
  refine wpAny_with_toks (Nat.le_refl s.toks) ?_
  refine wpAny_pyNext_genexpQ (P := fun n s₀ s₁ => n = 0 ∧ GenSince C [I] s₀ s₁ ∧ 0 < s₁.toks) hh hl hroom hg hgs (hgo _ (fun _ _ _ e => e) hpos) (fun v s₁ gs' hb hv => ?_) (fun s₁ hp h' hk => ?_)
  ·obtain ⟨hF, ⟨h₁, tk₁, rfl, hk₁⟩, ht₁, hkap⟩ := hv
   have hidx : n - 1 - (m + 1 - 1) = j := by omega
   rw [hidx] at hF
   intro htk
   refine hQ v _ hF ⟨ht₁, let ⟨o, nm, qn, ho, r⟩ := hg; ⟨o, nm, qn, hk₁ a o haC (by simpa using haI) ho, r⟩, (let ⟨mc, hns, hnn⟩ := hl; ⟨mc, hns.at' fun o e => hk₁ cStatics o hcC (by simpa using hcI) e, hnn⟩), gs', setGen_self (gs := .running) (setGen_self hgs), fun s'' hal ht'' => ?_⟩
    ⟨fun b o hb e => hk₁ b o (fun h => hb (by simp [h])) (fun h => hb (by rw [zL h]; simp)) e, GenOnlyQ.of ((GenOnly.setGen s g .running).trans (GenOnly.setGen _ g gs')) (setGen_self (gs := .running) (setGen_self hgs)) hb, rfl, rfl, htk⟩
   have e : n - (j + 1) = m := by lia
   rw [e]
   exact hkap s'' hal ht''
  ·exact absurd hp.1 (Nat.succ_ne_zero m)
 done := fun s Q E st hQ => by
  obtain ⟨hpos, hg, hl, gs, hgs, hgo⟩ := st
  rw [Nat.sub_self] at hgo
  refine wpAny_with_toks (Nat.le_refl s.toks) ?_
  refine wpAny_pyNext_genexpQ (P := fun n s₀ s₁ => n = 0 ∧ GenSince C [I] s₀ s₁ ∧ 0 < s₁.toks) hh hl hroom hg hgs (hgo _ (fun _ _ _ e => e) hpos) (fun v s₁ gs' hb hv => ?_) (fun s₁ hp h' hk => ?_)
  ·obtain ⟨_, _, ht₁, hkap⟩ := hv
   exact False.elim (hkap s₁ (fun _ _ _ e => e) ht₁)
  ·obtain ⟨_, ⟨h₁, tk₁, rfl, hk₁⟩, _⟩ := hp
   intro htk
   exact hQ _ ⟨fun b o hb e => hk b o (hk₁ b o (fun h => hb (by simp [h])) (fun h => hb (by rw [zL h]; simp)) e), GenOnlyQ.of ((GenOnly.setGen s g .running).trans (GenOnly.setGen _ g .finished)) (setGen_self (gs := .running) (setGen_self hgs)) rfl, rfl, rfl, htk⟩
 self := fun _ _ _ _ st hQ => wpAny_pyIter_gen st.2.1 hQ
theorem GAt.fresh {elt iter : Expr} {x : Str} {px : Pos} {scope : Scope} {pos : Pos} {I ax a : Addr} {g : Nat} {items : Array Value} {cenv : Env} {F : Nat → Value → Prop}
  (hh : A.handled = none) (hne : ax ≠ I) (hx : cenv.kindOf x = some .local) (hp : (cenv.scope.kind == .class || (cenv.scope.kind == .module && cenv.locals != cenv.globals)) = false)
  (hco : cenv.scope.isCoroutine = false) (hCI : cenv.locals ≠ I) (hCx : cenv.locals ≠ ax) (hq : GenElt prog w cenv x elt items F) {s : Shared} {m : Str → Option Value}
  (hg : s.heap.IsGen a g) (hgs : s.gens[g]? = some (.fresh (.compStart (.GeneratorExp elt [⟨.Name x px, iter, [], 0⟩] scope pos) 0 (.ref I) .none cenv)))
  (hit : s.heap.IsListIter I ax 0) (hli : s.heap.IsList ax items) (hn : s.heap.Ns cenv.locals m) (hl : s.heap.NoLimit) (htk : 0 < s.toks) : GAt prog w A a g cenv.locals I ax items.size F 0 s :=
 ⟨htk, hg, hl, _, hgs, fun s'' hal ht'' => ⟨rfl, gStart (A := A.in1) hh hne hx hp hco hCI hCx hq s'' s'' m (hit.at fun o e => hal I (by simp) o e) (hli.at fun o e => hal ax (by simp) o e)
  (hn.at' fun o e => hal _ (by simp) o e) (GenSince.refl _ _ _) ht''⟩⟩
end
end LS
noncomputable section LT
open PySem PySem.W PySem.Calls PyProof.Rows
set_option maxHeartbeats 2000000
variable {W : Wd} {R : Rs} {k : Nat}
structure TabAt (W : Wd) (c P : Addr) : Prop where
 hd : CodeHd W.B c P
 bmod : W.B.BuiltinsAt W.mg P
 out : W.B.get? P = none
theorem TabAt.ne {c P : Addr} (T : TabAt W c P) : mainGlobals ≠ P := fun e => by
 obtain ⟨o, _, _, ho, _⟩ := W.g
 rw [e, T.out] at ho; exact nn ho
theorem TabAt.cs {c P : Addr} (T : TabAt W c P) : cStatics ≠ P := fun e => by
 refine xEA W.nolimit fun _ hn _ => ?_
 obtain ⟨o, _, _, ho, _⟩ := hn
 rw [e, T.out] at ho; exact nn ho
theorem codeAmong_snoc_ne {pos lp : Pos} {c : Value} (hn : ((pos.line : Int) == lp.line && (pos.col : Int) == lp.col) = false) (l : List Value) (h : TriplesOk l) :
  codeAmong lp (l ++ [rawInt pos.line, rawInt pos.col, c]) = codeAmong lp l := by
 fun_induction TriplesOk l with
 | case1 => simp only [List.nil_append, codeAmong, rawInt]; rw [hn]; rfl
 | case2 a t b u x rest ih =>
  simp only [List.cons_append, codeAmong]
  rw [ih h]
 | case3 l h1 h2 => exact h.elim
noncomputable def LamAt (ρ : List Addr) (lp : Pos) (l : List Value) : Option Nat → Prop
 | none => codeAmong lp l = none
 | some n => ∃ c', ρ[n]? = some c' ∧ codeAmong lp l = some (.ref c')
theorem LamAt.congr {ρ : List Addr} {lp : Pos} {l l' : List Value} (e : codeAmong lp l' = codeAmong lp l) : ∀ {lam : Option Nat}, LamAt ρ lp l lam → LamAt ρ lp l' lam
 | none, h => e.trans h
 | some _, ⟨c', a, b⟩ => ⟨c', a, e.trans b⟩
theorem OR.tabI {ρ : List Addr} {P : Addr} {lp : Pos} {ps : Array Value} (e0 : ρ[0]? = some P) (ht : TriplesOk ps.toList) : ∀ {lam : Option Nat}, LamAt ρ lp ps.toList lam → OR ρ (tabObj ps) (.tab P lp lam)
 | none, h => ⟨e0, ps, rfl, ht, h⟩
 | some _, h => ⟨e0, ps, rfl, ht, h⟩
theorem St.tabAt {ρ : List Addr} {σ : AH} {G : List (Loc × AV)} {s : Shared} (st : St W ρ σ G s) {P : Addr} {lp : Pos} {lam : Option Nat} (e : σ[0]? = some (.tab P lp lam)) :
  ρ[0]? = some P ∧ ∃ ps : Array Value, s.heap.get? P = some (tabObj ps) ∧ TriplesOk ps.toList ∧ LamAt ρ lp ps.toList lam := by
 refine xEEAA (st.at e) fun a o ea ho r => ?_
 cases lam with
 | none =>
  obtain ⟨e0, ps, rfl, ht, r⟩ := r
  rw [ea] at e0; cases e0
  exact ⟨ea, ps, ho, ht, r⟩
 | some n =>
  obtain ⟨e0, ps, rfl, ht, r⟩ := r
  rw [ea] at e0; cases e0
  exact ⟨ea, ps, ho, ht, r⟩
theorem St.regrow {ρ : List Addr} {σ : AH} {G : List (Loc × AV)} {s : Shared} (x : St W ρ σ G s) {i : Nat} {P : Addr} {h' : Heap} {o' : Obj} {ao : AObj} {tk : Nat} (ea : ρ[i]? = some P) (hs : Heap.ExtBut P s.heap h') (ho : h'.get? P = some o') (r : OR ρ o' ao) (htk : 0 < tk) :
  St W ρ (σ.set i ao) G { s with heap := h', toks := tk } := by
 have ha := zI ea
 have hi : i < σ.length := by rw [← x.len]; exact (zC ea).1
 refine ⟨fun b o e => ?_, x.os, x.gens, by simp [x.len], fun j b bo e1 e2 => ?_, x.fresh, x.nodup, fun p hp => ?_, x.lfresh, x.apart, htk⟩
 ·exact hs b o (fun q => by rw [q, x.fresh P ha] at e; exact nn e) (x.stays b o e)
 ·by_cases hj : i = j
  ·subst hj
   rw [ea] at e1; obtain rfl := Option.some.inj e1
   rw [List.getElem?_set_self hi] at e2
   obtain rfl := Option.some.inj e2
   exact ⟨o', ho, r⟩
  ·rw [List.getElem?_set_ne hj] at e2
   refine xEA (x.objs j b bo e1 e2) fun o ho' r' => ?_
   exact ⟨o, hs _ _ (fun q => hj (nodup_get x.nodup ea (q ▸ e1))) ho', r'⟩
 ·refine (x.locs p hp).alike (.of fun o e => hs _ _ (fun q => (x.lfresh p hp).1 (by rw [q]; exact ha)) e)
theorem list_set_same {α : Type} {l : List α} {i : Nat} {a : α} (e : l[i]? = some a) : l.set i a = l := by
 apply List.ext_getElem?
 intro j
 by_cases hj : i = j
 ·subst hj
  rw [List.getElem?_set_self (zC e).1, e]
 ·rw [List.getElem?_set_ne hj]
theorem St.moved {ρ : List Addr} {σ : AH} {G : List (Loc × AV)} {s s' : Shared} (x : St W ρ σ G s) {wr : List Addr} (hk : ∀ b o, b ∉ wr → s.heap.get? b = some o → s'.heap.get? b = some o)
  (hw : ∀ b ∈ wr, W.B.get? b = none ∧ b ∉ ρ ∧ ∀ p ∈ G, p.1.addr ≠ b) (hos : s'.os = s.os) (hg : AllBare s'.gens) (htk : 0 < s'.toks) : St W ρ σ G s' :=
 ⟨fun b o e => hk b o (fun m => by rw [(hw b m).1] at e; exact nn e) (x.stays b o e), hos.trans x.os, hg, x.len,
  fun i a ao e1 e2 => let ⟨o, ho, r⟩ := x.objs i a ao e1 e2; ⟨o, hk a o (fun m => (hw a m).2.1 (zI e1)) ho, r⟩, x.fresh, x.nodup,
  fun p hp => (x.locs p hp).alike (.of fun o e => hk _ o (fun m => (hw _ m).2.2 p hp rfl) e), x.lfresh, x.apart, htk⟩
theorem genexprCode_ok {A : Around} {env : Env} {c P : Addr} {pos lp : Pos} {lam : Option Nat} {q : Str} {scope : Scope} {ρ : List Addr} {σ : AH} {G : List (Loc × AV)} {s : Shared} {Q : Value → Shared → Prop} {E : Value → Shared → Prop}
  (T : TabAt W c P) (hc : env.code = .ref c) (hn : ((pos.line : Int) == lp.line && (pos.col : Int) == lp.col) = false) (st : St W ρ σ G s) (e : σ[0]? = some (.tab P lp lam))
  (hQ : ∀ code h' tk, Heap.ExtBut P s.heap h' → s.heap.objs.size ≤ h'.objs.size → St W ρ σ G { s with heap := h', toks := tk } → Q code { s with heap := h', toks := tk }) :
  wpAny (model W.prog W.w) A (genexprCode env pos q scope) Q E s := by
 obtain ⟨e0, ps, hP, ht, r⟩ := st.tabAt e
 have C := T.hd.keeps st.stays
 cases hf : codeAmong pos ps.toList with
 | some cv => exact wpAny_genexprCode_hit hc (C.code hP ht) hf (hQ _ s.heap s.toks (Heap.ExtBut.refl _ _) (Nat.le_refl _) st)
 | none =>
  refine wpAny_with_toks (n := 1) st.tk (wpAny_genexprCodeX hc (C.code hP ht) (C.tab hP) hf fun c' h' tk hx hge hlt _ _ htab _ htk => ?_)
  refine hQ _ _ _ hx (by lia) ?_
  have := st.regrow (tk := tk) e0 hx htab.2 (ao := .tab P lp lam) (OR.tabI e0 (by rw [Array.toList_append]; exact TriplesOk_snoc _ _ _ _ ht) (LamAt.congr (by rw [Array.toList_append]; exact codeAmong_snoc_ne hn _ ht) r)) htk
  rw [list_set_same e] at this
  exact this
noncomputable def EltOK (W : Wd) (scope : Scope) (x : Str) (elt : Expr) (g : List Nat → List Nat) : Prop :=
 ∀ (cenv : Env) (A : Around) (E : Value → Shared → Prop) (s₂ : Shared) m₂ t tk, cenv.scope = scope → A.handled = none → s₂.heap.Ns cenv.locals m₂ → m₂ x = some (.str ⟨t.toArray⟩ tk) → t.length ≤ 1000 → 0 < s₂.toks →
  wpAny (model W.prog W.w) A (eval elt cenv) (fun y s₃ => ((∃ tk', y = .str ⟨(g t).toArray⟩ tk') ∧ Keeps s₂ s₃) ∧ 0 < s₃.toks) E s₂
noncomputable def pJoinG (P : Addr) (pos : Pos) (i : Nat) (sep : List Nat) (g : List Nat → List Nat) : PE := fun (l : List AV) (h : AH) => match l[i]? with
 | some (.ref n) => match h[n]?, h[(0 : Nat)]? with
  | some (.list xs), some (.tab P' lp _) => (allStr xs).bind fun ts =>
   if P' = P ∧ ((pos.line : Int) == lp.line && (pos.col : Int) == lp.col) = false ∧ (∀ t ∈ ts, t.length ≤ 1000) ∧ ts.length ≤ 1000 ∧ ((ts.map g).map (·.length)).sum + ts.length * sep.length ≤ 1000000 then some (.str (joinL sep (ts.map g)), h) else none
  | _, _ => none
 | _ => none
theorem strV_get {vs : List Value} {ts : List (List Nat)} (h1 : ∀ v ∈ vs, ∃ x t, v = .str x t) (h2 : vs.map strV = ts) {i : Nat} {v : Value} (e : vs[i]? = some v) : ∃ t tk, ts[i]? = some t ∧ v = .str ⟨t.toArray⟩ tk := by
 obtain ⟨x, tk, rfl⟩ := h1 v (zI e)
 refine ⟨x.cps.toList, tk, ?_, ?_⟩
 ·rw [← h2, List.getElem?_map, e]; rfl
 ·obtain ⟨⟨l⟩⟩ := x; rfl
theorem joined_texts {g : List Nat → List Nat} : ∀ {l : List (Str × Tok)} {ts : List (List Nat)}, l.length = ts.length → (∀ (j : Nat) (p : Str × Tok), l[j]? = some p → ∃ t, ts[j]? = some t ∧ p.1 = ⟨(g t).toArray⟩) → l.map (·.1) = (ts.map g).map fun y => ⟨y.toArray⟩
 | [], [], _, _ => rfl
 | p :: l, t :: ts, e, h => by
  refine xEA (h 0 p rfl) fun t' e1 e2 => ?_
  cases e1
  simp only [List.map_cons]
  rw [e2, joined_texts (by simpa using e) fun j p hp => h (j + 1) p hp]
theorem EvOK.joinGen {c P : Addr} (T : TabAt W c P) (hR : R.code = some (.ref c)) {sep x y : Str} {sl : List Nat} {j : Nat} {p0 apos px py pos cpos : Pos} {elt : Expr} {scope : Scope} {i : Nat} {g : List Nat → List Nat} (pa : PlainAttrs "str")
  (hsl : sep = ⟨sl.toArray⟩) (hel : EltOK W scope x elt g)
  (hbase : ∀ env, attributeBase (.Constant (.str sep) j p0) "join" env (eval (.Constant (.str sep) j p0) env) = eval (.Constant (.str sep) j p0) env) (hline : (apos.endLine == cpos.line) = true)
  (hi : R.slots.lookup y = some i) (hd : (y == ("__debug__" : Str)) = false) (hcd : (y == ("__classdict__" : Str)) = false)
  (hco : scope.isCoroutine = false) (hclos : ∀ env, closureFor scope env = pure []) (hcell : ∀ y ∈ scope.names, y.2 ≠ .cell) (h0 : scope.names.lookup (".0" : Str) = some NameKind.local)
  (hx : scope.names.lookup x = some .local) (hkind : scope.kind = .function) :
  EvOK W R k (.Call (.Attribute (.Constant (.str sep) j p0) "join" apos) [.GeneratorExp elt [⟨.Name x px, .Name y py, [], 0⟩] scope pos] [] cpos) (pJoinG P pos i sl g) := by
 intro A fs env locs l G ρ σ s cx eo hl st v σ' ev Q E hQ
 unfold pJoinG at ev
 split at ev
 rotate_right
 ·exact nn ev
 rename_i n en
 split at ev
 rotate_right
 ·exact nn ev
 rename_i xs P' lp lam e1 e2
 refine bindQ ev fun ts e3 ev2 => ?_
 clear ev
 split at ev2
 rotate_right
 ·exact nn ev2
 rename_i hc
 obtain ⟨rfl, hpos, hlen, hmany, hsum⟩ := hc
 replace hQ := hQ.t2 ev2
 subst hsl
 have hroom : A.depth < recursionLimit := by have := cx.depth; exact o9 this
 refine wpAny_Call_method (hbase env) rfl hline pa F.slot_str_join F.type_str_join (wpAny_Constant_str ?_)
 refine ⟨typeIs_str _ _ _, fun a e => (by cases e), ?_⟩
 refine callWith_of (P := fun _ => True) rfl (fun hp _ => ⟨.machine, .inr (.inl rfl), .of_pure rfl⟩) ?_
 have st0 : St W ρ σ (locs.zip l ++ G) { s with toks := s.toks + 1 } := st.toks _
 have hv := EvOK.var (W := W) (k := k) (pos := py) hi hd hcd A fs env locs l G ρ σ _ cx eo hl st0
 have main : wpAny (model W.prog W.w) A (spliced (backTo cpos (starEach [Expr.GeneratorExp elt [⟨.Name x px, .Name y py, [], 0⟩] scope pos] env)))
   (fun vs s₂ => True ∧ wpAny (model W.prog W.w) A (PySem.call (.builtin "str.join") ([.str ⟨sl.toArray⟩ s.toks] ++ vs) []) Q E s₂) E { s with toks := s.toks + 1 } := by
  refine args_cons ?_ rfl
  refine wpAny_GeneratorExp_make hco (hclos env) hcell h0 hkind hroom ?_ (fun _ => rfl)
  refine hv (.ref n) σ (by unfold pVar; rw [en]) _ _ fun ρ₁ s₁ c₁ le₁ r₁ st₁ => ?_
  refine xEA r₁ fun a ea hrf => ?_; subst hrf
  refine xEEAAEEA (st₁.at e1) fun a' o ea' ho vs n' hrf hvs => ?_; subst hrf
  rw [ea] at ea'; replace ho := t1 ea' ▸ ho
  obtain ⟨q1, q2⟩ := allStr_vals e3 hvs
  have hax : a < s₁.heap.objs.size := Heap.lt_size ho
  refine wpAny_pyIter_list (items := vs.toArray) ⟨_, ho, rfl, n', rfl⟩ ?_
  have st₂ : St W ρ₁ σ (locs.zip l ++ G) { s₁ with heap := s₁.heap.push { cls := .type "list_iterator", data := .fields #[.ref a, .int 0 0] } } := st₁.push _ s₁.toks
  obtain ⟨n1, n2, n3⟩ := st₁.newAddr
  refine ⟨(W.nolimit.keeps st₂.stays), ?_⟩
  have hP0 := st₂.tabAt e2
  have hPρ := hP0.1
  have haP : a ≠ P' := fun e => by
   obtain ⟨_, ps, hps, _⟩ := st₁.tabAt e2
   rw [e, hps] at ho
   cases ho
  have hIP : s₁.heap.objs.size ≠ P' := fun e => n1 (by rw [e]; exact zI hPρ)
  refine genexprCode_ok T (eo.code _ hR) hpos st₂ e2 fun code h₃ tk₃ hx₃ hsz₃ st₃ => ?_
  obtain ⟨bm, ob, b1, b2, b3, b4, b5, b6, b7, b8⟩ := T.bmod
  rw [eo.globals]
  refine wpAny_builtinsFor (W.g.keeps st₃.stays) b1 b2 (st₃.stays _ _ b5) b6 b7 b8 ?_
  intro h₅ hn₅ hs₅
  have hC := st₃.newAddr
  obtain ⟨m1, m2, m3⟩ := hC
  dsimp only at hn₅ hs₅ m1 m2 m3 ⊢
  have hsz₅ : h₅.objs.size = h₃.objs.size + 1 := by rw [hs₅.1, Heap.size_push]
  have keep₅ : ∀ b o, h₃.get? b = some o → h₅.get? b = some o := fun b o e => hs₅.extBut b o (Nat.ne_of_lt (Heap.lt_size e)) (Heap.get?_push_of_some _ e)
  have hsI : s₁.heap.objs.size < h₃.objs.size := by
   have : (s₁.heap.push { cls := .type "list_iterator", data := .fields #[.ref a, .int 0 0] } : Heap).objs.size = s₁.heap.objs.size + 1 := Heap.size_push ..
   dsimp only at hsz₃
   lia
  generalize hgo : ({ cls := .type "generator", data := .fields #[.int s₁.gens.size 0, .str "<genexpr>" (tk₃ + 1), .str (env.qual ++ "<genexpr>") (tk₃ + 1 + 1)] } : Obj) = gobj
  have keep₆ : ∀ b o, h₃.get? b = some o → (h₅.push gobj).get? b = some o := fun b o e => Heap.get?_push_of_some _ (keep₅ b o e)
  have hit₃ : h₃.IsListIter s₁.heap.objs.size a 0 := ⟨_, hx₃ _ _ hIP (Heap.get?_push_size _ rfl), rfl, rfl⟩
  have hli₃ : h₃.IsList a vs.toArray := ⟨_, hx₃ _ _ haP (Heap.get?_push_of_some _ ho), rfl, n', rfl⟩
  have st₆ : St W ρ₁ σ (locs.zip l ++ G) { s₁ with heap := h₅.push gobj, toks := tk₃ + 1 + 1 + 1, gens := s₁.gens.push (.fresh (.compStart (.GeneratorExp elt [⟨.Name x px, .Name y py, [], 0⟩] scope pos) 0 (.ref s₁.heap.objs.size) .none (genEnv scope [] h₃.objs.size code builtinsNs env))) } := by
   have a1 : St W ρ₁ σ (locs.zip l ++ G) { s₁ with heap := h₅.push gobj, toks := tk₃ + 1 + 1 + 1 } := st₃.keeps (h' := h₅.push gobj) keep₆
   exact a1.gens' (st₁.gens.push rfl)
  refine wpAny_items_nil ⟨trivial, ?_⟩
  have hlenv := hvs.length
  have htl : ts.length = vs.length := by rw [← q2]; simp
  let FF : Nat → Value → Prop := fun j v => ∃ t, ts[j]? = some t ∧ ∃ tk, v = .str ⟨(g t).toArray⟩ tk
  have hcS : cStatics < s₁.heap.objs.size := by
   refine xEA (W.nolimit.keeps st₁.stays) fun _ hn _ => ?_
   exact hn.lt
  have Wk := gWalks (prog := W.prog) (w := W.w) (A := A.in4) cx.handled h₅.objs.size s₁.gens.size h₃.objs.size s₁.heap.objs.size a vs.toArray.size FF (by rw [hsz₅]; exact Nat.succ_ne_self _) (Nat.ne_of_gt (by rw [hsz₅]; exact Nat.lt_succ_of_lt hsI))
   hroom (Nat.ne_of_lt (Nat.lt_trans hcS hsI)) (Nat.ne_of_lt hcS)
  have hG : GAt W.prog W.w A.in4 h₅.objs.size s₁.gens.size h₃.objs.size s₁.heap.objs.size a vs.toArray.size FF 0 { s₁ with heap := h₅.push gobj, toks := tk₃ + 1 + 1 + 1, gens := s₁.gens.push (.fresh (.compStart (.GeneratorExp elt [⟨.Name x px, .Name y py, [], 0⟩] scope pos) 0 (.ref s₁.heap.objs.size) .none (genEnv scope [] h₃.objs.size code builtinsNs env))) } := by
   refine GAt.fresh (A := A.in4) (cenv := genEnv scope [] h₃.objs.size code builtinsNs env) (elt := elt) (iter := .Name y py) (x := x) (px := px) (scope := scope) (pos := pos) (items := vs.toArray) (m := fun y => if y = ".0" then some (.ref s₁.heap.objs.size) else none) cx.handled (Nat.ne_of_lt hax) hx (by simp [genEnv, hkind]) hco (Nat.ne_of_gt hsI) (Nat.ne_of_gt (Nat.lt_trans hax hsI)) ?_
    ⟨_, _, _, by rw [← hgo]; exact Heap.get?_push_size _ rfl, rfl, rfl, rfl⟩ (Array.getElem?_push_size ..) (hit₃.at fun o e => keep₆ _ o e) (hli₃.at fun o e => keep₆ _ o e) (hn₅.push _) (W.nolimit.keeps st₆.stays) (Nat.succ_pos _)
   intro A' E' i' v' s₂ m₂ hA' hv' hns' hm' ht'
   refine xEEA (strV_get q1 q2 (i := i') (v := v') (by simpa using hv')) fun t tk et hrf => ?_; subst hrf
   refine wpAny_mono (hel _ A' E' s₂ m₂ t tk rfl hA' hns' hm' (hlen t (zI et)) ht') (fun y s₃ h => ?_) fun _ _ e => e
   obtain ⟨⟨⟨tk', rfl⟩, hk⟩, ht⟩ := h
   exact ⟨⟨⟨t, et, tk', rfl⟩, hk⟩, ht⟩
  refine wpAny_with_toks (n := 1) (Nat.succ_pos _) ?_
  refine SC.joinGen (Wk.in4_2) (fun j s' st' => st'.2.1.typeIs) hG ?_ (by simp) (fun j v hv => ?_) (fun s' lt hm hacc => ?_) ?_
  ·intro b hb
   show b < (h₅.push gobj).objs.size
   rw [Heap.size_push, hsz₅]
   simp only [List.mem_cons, List.not_mem_nil, or_false] at hb
   have key : ∀ x y z u v w : Nat, y = x + 1 → z < x → u < z → v < z → (w = y ∨ w = x ∨ w = z ∨ w = u ∨ w = v) → w < x + 1 + 1 := by
    intro x y z u v w h1 h2 h3 h4 h5
    rcases h5 with h | h | h | h | h <;> (first | exact o51 h (o51 h1 (Nat.lt_succ_self _)) | exact o51 h (o9 (Nat.lt_succ_self _)) | lia)
   exact key _ _ _ _ _ b hsz₅ hsI hax hcS hb
  ·obtain ⟨t, _, tk, rfl⟩ := hv
   exact ⟨_, _, rfl⟩
  ·have hjt : lt.map (·.1) = (ts.map g).map fun y => (⟨y.toArray⟩ : Str) := by
    refine joined_texts ?_ fun j p hp => ?_
    ·have := hacc.1
     simp [strValues] at this
     lia
    ·obtain ⟨t, et, tk, ev⟩ := hacc.2 j (.str p.1 p.2) (by simp [strValues, hp])
     injection ev with h1 h2
     exact ⟨t, et, h1⟩
   refine ⟨?_, fun t' k' ht' => ?_⟩
   ·unfold JoinOk Builtin.Str.tooLong
    rw [hjt, StrLaws.joinTotal, Bool.not_eq_true', sizeLine_eq]
    refine decide_eq_false ?_
    simp only [List.map_map, List.length_map]
    have e5 : (List.map ((fun x => x.length) ∘ (fun y => (⟨y.toArray⟩ : Str)) ∘ g) ts).sum = ((ts.map g).map (·.length)).sum := by
     simp only [List.map_map]
     congr 1
    have e6 : (⟨sl.toArray⟩ : Str).length = sl.length := str_length sl
    rw [e6]
    simp only [Function.comp_def] at e5 ⊢
    rw [e5]
    lia
   ·rw [hjt]
    unfold Txt.join
    rw [StrLaws.glued_eq_join, join_toL]
    refine hQ ρ₁ _ _ le₁ ⟨t', rfl⟩ ?_
    refine st₆.moved (wr := [h₃.objs.size, s₁.heap.objs.size]) (fun b o hb e => hm.heap b o hb e) (fun b hb => ?_) hm.os (st₆.gens.moved hm.gens) ht'
    simp only [List.mem_cons, List.not_mem_nil, or_false] at hb
    rcases hb with rfl | rfl
    ·exact ⟨m2, m1, m3⟩
    ·exact ⟨n2, n1, n3⟩
  ·rw [sizeLine_eq]; simp; lia
 exact evalArgs_plain main
end LT
noncomputable section LU
open PySem PySem.W PySem.Calls PyProof.Rows
variable {W : Wd} {R : Rs} {k : Nat}
theorem repl_wp {A : Around} {env : Env} {s : Shared} {Q : Value → Shared → Prop} {E : Value → Shared → Prop} {o : Expr} {apos pos p1 p2 : Pos} {j1 j2 : Nat} {c : Nat} {y z : Str} {zl : List Nat} (pa : PlainAttrs "str")
  (hbase : ∀ env, attributeBase o "replace" env (eval o env) = eval o env) (hline : (apos.endLine == pos.line) = true) (hyz : (y == z) = false) (hy : y = ⟨#[c]⟩) (hz : z = ⟨zl.toArray⟩) (hzl : zl.length ≤ 100)
  (ho : wpAny (model W.prog W.w) A (eval o env) (fun v s₁ => ∃ t tk, v = .str ⟨t.toArray⟩ tk ∧ t.length ≤ 10000 ∧ 0 < s₁.toks ∧ ∀ tk' n, 0 < n → Q (.str ⟨(repl c zl t).toArray⟩ tk') { s₁ with toks := n }) E s) :
  wpAny (model W.prog W.w) A (eval (.Call (.Attribute o "replace" apos) [.Constant (.str y) j1 p1, .Constant (.str z) j2 p2] [] pos) env) Q E s := by
 refine wpAny_Call_method (hbase env) rfl hline pa F.slot_str_replace F.type_str_replace (wpAny_mono ho (fun v s₁ h => ?_) fun _ _ e => e)
 obtain ⟨t, tk, rfl, hlen, hpos, hQ⟩ := h
 refine ⟨typeIs_str _ _ _, fun a e => (by cases e), ?_⟩
 refine callWith_of (P := fun _ => True) rfl (fun hp _ => ⟨.machine, .inr (.inl rfl), .of_pure rfl⟩) ?_
 have main : wpAny (model W.prog W.w) A (spliced (backTo pos (starEach [Expr.Constant (.str y) j1 p1, .Constant (.str z) j2 p2] env))) (fun vs s₂ => (True) ∧ wpAny (model W.prog W.w) A (PySem.call (.builtin "str.replace") ([.str ⟨t.toArray⟩ tk] ++ vs) []) Q E s₂) E s₁ :=
  args_cons (wpAny_Constant_str (args_cons (wpAny_Constant_str (wpAny_items_nil ⟨trivial, ?_⟩)) rfl)) rfl
 ·exact evalArgs_plain main
 subst hy hz
 have hocc := StrLaws.occ_length_le ⟨t.toArray⟩ ⟨#[c]⟩ 0 t.length (t.length + 1)
 have hmul : (Builtin.Str.occurrences ⟨t.toArray⟩ ⟨#[c]⟩ 0 t.length (t.length + 1)).length * zl.length ≤ 10001 * 100 := Nat.mul_le_mul (by exact zG hocc (Nat.add_le_add_right hlen _)) hzl
 refine PySem.call_gives F.slot_str_replace (typeIs_str _ _ _) F.entry_str_replace (F.args_str_replace_3 _ _ _) (gives_str_replace _ _ _ _ _ _ fun _ => ⟨?_, ?_, hyz, ?_⟩) ?_
 ·show ((s₁.toks == 0) || (s₁.toks + 1 == 0)) = false
  simp; exact Nat.ne_of_gt hpos
 ·show (s₁.toks == s₁.toks + 1) = false
  simp
 ·unfold Builtin.Str.tooLong
  rw [sizeLine_eq, str_length, str_length]
  exact decide_eq_false (by exact o25 hlen hmul)
 ·have hr := replace_repl ⟨t.toArray⟩ ⟨zl.toArray⟩ c
  have hfit : (Txt.replace ⟨t.toArray⟩ ⟨#[c]⟩ ⟨zl.toArray⟩).length ≤ sizeLine := by
   have h1 : (Txt.replace ⟨t.toArray⟩ ⟨#[c]⟩ ⟨zl.toArray⟩).length = (Txt.replace ⟨t.toArray⟩ ⟨#[c]⟩ ⟨zl.toArray⟩).cps.toList.length := by simp [Str.length]
   rw [h1, hr, sizeLine_eq]
   have h2 := repl_length c zl t
   have h3 : t.length * (zl.length + 1) ≤ 10000 * 101 := Nat.mul_le_mul hlen (by exact Nat.add_le_add_right hzl _)
   simp only [List.toList_toArray]
   exact o21 h2 h3
  unfold Txt.replace at hr hfit
  split
  ·rename_i hc
   rw [if_pos hc] at hr
   have := hQ tk (s₁.toks + 1 + 1) (Nat.succ_pos _)
   rw [← hr] at this
   exact this
  ·rename_i hc
   rw [if_neg hc] at hr hfit
   refine ⟨hfit, ?_⟩
   have := hQ (s₁.toks + 1 + 1) (s₁.toks + 1 + 1 + 1) (Nat.succ_pos _)
   rw [← hr] at this
   exact this
theorem EltOK.repl2 {scope : Scope} {x : Str} {px a1 c1 a2 c2 q1 q2 q3 q4 : Pos} {j1 j2 j3 j4 : Nat} {c d : Nat} {y1 z1 y2 z2 : Str} {z z' : List Nat} (pa : PlainAttrs "str") (hk : scope.kind = .function) (hx : scope.names.lookup x = some .local) (hd : (x == ("__debug__" : Str)) = false)
  (hl1 : (a1.endLine == c1.line) = true) (hl2 : (a2.endLine == c2.line) = true) (n1 : (y1 == z1) = false) (n2 : (y2 == z2) = false) (e1 : y1 = ⟨#[c]⟩) (e2 : z1 = ⟨z.toArray⟩) (e3 : y2 = ⟨#[d]⟩) (e4 : z2 = ⟨z'.toArray⟩) (l1 : z.length ≤ 8) (l2 : z'.length ≤ 100)
  (hb1 : ∀ env, attributeBase (.Name x px) "replace" env (eval (.Name x px) env) = eval (.Name x px) env)
  (hb2 : ∀ env, attributeBase (.Call (.Attribute (.Name x px) "replace" a1) [.Constant (.str y1) j1 q1, .Constant (.str z1) j2 q2] [] c1) "replace" env (eval (.Call (.Attribute (.Name x px) "replace" a1) [.Constant (.str y1) j1 q1, .Constant (.str z1) j2 q2] [] c1) env) = eval (.Call (.Attribute (.Name x px) "replace" a1) [.Constant (.str y1) j1 q1, .Constant (.str z1) j2 q2] [] c1) env) :
  EltOK W scope x (.Call (.Attribute (.Call (.Attribute (.Name x px) "replace" a1) [.Constant (.str y1) j1 q1, .Constant (.str z1) j2 q2] [] c1) "replace" a2) [.Constant (.str y2) j3 q3, .Constant (.str z2) j4 q4] [] c2) (fun t => Mine.repl d z' (Mine.repl c z t)) := by
 intro cenv A E s₂ m₂ t tk hs hh hn hm hlen htk
 refine repl_wp pa hb2 hl2 n2 e3 e4 l2 (repl_wp pa hb1 hl1 n1 e1 e2 (by exact zG l1 (by decide)) (wpAny_Name (wpAny_loadName_local (by rw [hs]; exact hk) (show cenv.kindOf x = some .local by unfold Env.kindOf; rw [hs]; exact hx) hn hm ?_) hd))
 have h2 := repl_length c z t
 have h3 : t.length * (z.length + 1) ≤ 1000 * 9 := Nat.mul_le_mul hlen (by exact Nat.add_le_add_right l1 _)
 refine ⟨t, tk, rfl, by exact zG hlen (by decide), htk, fun tk' n hn' => ⟨_, _, rfl, by exact zG h2 (zG h3 (by decide)), hn', fun tk'' n' hn'' => ⟨⟨⟨tk'', rfl⟩, s₂.heap, n', rfl, fun _ _ e => e⟩, hn''⟩⟩⟩
end LU
noncomputable section SRE
open PySem PySem.W PySem.Calls PyProof.Rows
noncomputable def patCode : Array Nat := #[14, 14, 4, 1, 1, 9, 0, 64, 0, 1342177280, 0, 0, 0, 0, 0, 17, 0, 13, 11, 9, 0, 64, 0, 1342177280, 0, 0, 0, 0, 0, 17, 1, 1]
noncomputable def isM (c : Nat) : Bool := c == 38 || c == 124 || c == 126
theorem charset_small : ∀ c : Nat, c < 256 → (patCode.getD (6 + c / 32) 0).testBit (c % 32) = isM c := by decide +kernel
theorem charset_small' : ∀ c : Nat, c < 256 → (patCode.getD (20 + c / 32) 0).testBit (c % 32) = isM c := by decide +kernel
theorem isM_big {c : Nat} (h : ¬ c < 256) : isM c = false := by unfold isM; simp; omega
theorem inSet_at {i c : Nat} {r : Except String (Bool × Sre.Seen)} {s1 s2 : Sre.Seen} (e : r = if (decide (c < 256) && (patCode.getD (i + (1 + c / 32)) 0).testBit (c % 32)) = true then .ok (true, s1) else .ok (false, s2))
  (hs : ∀ c : Nat, c < 256 → (patCode.getD (i + 1 + c / 32) 0).testBit (c % 32) = isM c) : ∃ seen', r = .ok (isM c, seen') := by
 by_cases hc : c < 256
 ·have h := hs c hc
  rw [Nat.add_assoc] at h
  rw [h, decide_eq_true hc, Bool.true_and] at e
  cases hm : isM c with
  | true => rw [hm, if_pos rfl] at e; exact ⟨_, e⟩
  | false => rw [hm, if_neg Bool.false_ne_true] at e; exact ⟨_, e⟩
 ·rw [isM_big hc]
  rw [decide_eq_false hc, Bool.false_and, if_neg Bool.false_ne_true] at e
  exact ⟨_, e⟩
theorem inSet5 (c : Nat) (seen : Sre.Seen) : ∃ seen', Sre.inSet patCode c patCode.size 5 true seen = .ok (isM c, seen') := inSet_at (s1 := seen.add 9) (s2 := (seen.add 9).add 0) (by kernel_rfl) (fun c h => charset_small c h)
theorem inSet19 (c : Nat) (seen : Sre.Seen) : ∃ seen', Sre.inSet patCode c patCode.size 19 true seen = .ok (isM c, seen') := inSet_at (s1 := seen.add 9) (s2 := (seen.add 9).add 0) (by kernel_rfl) (fun c h => charset_small' c h)
theorem admitted_ok (m : Sre.M) (hc : m.code = patCode) : ∀ (fuel s : Nat) (seen : Sre.Seen), m.lim < fuel + s →
  (∃ seen', Sre.M.admitted m fuel s seen = .ok (none, seen') ∧ ∀ j, s ≤ j → j < m.lim → isM (m.text.getD j 0) = false) ∨
  (∃ p seen', Sre.M.admitted m fuel s seen = .ok (some p, seen') ∧ s ≤ p ∧ p < m.lim ∧ isM (m.text.getD p 0) = true ∧ ∀ j, s ≤ j → j < p → isM (m.text.getD j 0) = false)
 | 0, s, seen, h => .inl ⟨seen, rfl, fun j h1 h2 => by omega⟩
 | fuel + 1, s, seen, h => by
  unfold Sre.M.admitted
  by_cases hs : s ≥ m.lim
  ·rw [if_pos hs]
   exact .inl ⟨seen, rfl, fun j h1 h2 => by omega⟩
  ·rw [if_neg hs, hc]
   obtain ⟨seen', e⟩ := inSet5 (m.text.getD s 0) seen
   rw [e]
   cases hm : isM (m.text.getD s 0) with
   | true => exact .inr ⟨s, seen', rfl, Nat.le_refl _, by exact Nat.lt_of_not_le hs, hm, fun j h1 h2 => by omega⟩
   | false =>
    dsimp only
    rcases admitted_ok m hc fuel (s + 1) seen' (by exact o52 h (o8 rfl)) with ⟨sn, e1, e2⟩ | ⟨p, sn, e1, e2, e3, e4, e5⟩
    ·refine .inl ⟨sn, e1, fun j h1 h2 => ?_⟩
     by_cases hj : j = s
     ·rw [hj]; exact hm
     ·exact e2 j (by exact o27 h1 hj) h2
    ·refine .inr ⟨p, sn, e1, by exact o56 e2, e3, e4, fun j h1 h2 => ?_⟩
     by_cases hj : j = s
     ·rw [hj]; exact hm
     ·exact e5 j (by exact o27 h1 hj) h2
theorem six (text : Array Nat) (lim p lastStart : Nat) (first : Bool) (seen : Sre.Seen) (hp : p < lim) (hm : isM (text.getD p 0) = true) (start : Nat) :
  ∃ m' : Sre.M, Sre.M.runFor 4 (Sre.M.runFor 4 { code := patCode, text, lim, start := p, lastStart, pc := 15, pos := p, handed := p, outermost := first, marks := #[none, none], frames := [{ wait := .nextStart, pc := 15, pos := p, outermost := first }], weight := 1, seen }) = m' ∧
   m'.outcome = some .matched ∧ m'.start = p ∧ m'.handed = p + 1 ∧ m'.marks = #[some p, some (p + 1)] ∧ m'.lastmark = 1 ∧ m'.lastindex = 1 := by
 obtain ⟨seen', e⟩ := inSet19 (text.getD p 0) ((seen.add 17).add 13)
 rw [hm] at e
 have hacc : Sre.accepts patCode 17 (text.getD p 0) ((seen.add 17).add 13) = .ok (true, seen') := e
 refine ⟨_, rfl, ?_⟩
 have s1 : Sre.M.step { code := patCode, text, lim, start := p, lastStart, pc := 15, pos := p, handed := p, outermost := first, marks := #[none, none], frames := [{ wait := .nextStart, pc := 15, pos := p, outermost := first }], weight := 1, seen } =
  { code := patCode, text, lim, start := p, lastStart, pc := 17, pos := p, handed := p, outermost := first, marks := #[some p, none], lastmark := 0, frames := [{ wait := .nextStart, pc := 15, pos := p, outermost := first }], weight := 1, seen := seen.add 17 } := by
  rfl
 have s2 : Sre.M.step { code := patCode, text, lim, start := p, lastStart, pc := 17, pos := p, handed := p, outermost := first, marks := #[some p, none], lastmark := 0, frames := [{ wait := .nextStart, pc := 15, pos := p, outermost := first }], weight := 1, seen := seen.add 17 } =
  { code := patCode, text, lim, start := p, lastStart, pc := 29, pos := p + 1, handed := p, outermost := first, marks := #[some p, none], lastmark := 0, frames := [{ wait := .nextStart, pc := 15, pos := p, outermost := first }], weight := 1, seen := seen' } := by
  show (if p ≥ lim then _ else match Sre.accepts patCode 17 (text.getD p 0) ((seen.add 17).add 13) with | .error why => _ | .ok (false, seen) => _ | .ok (true, seen) => _) = _
  rw [if_neg (Nat.not_le.mpr hp), hacc]
  rfl
 have s3 : Sre.M.step { code := patCode, text, lim, start := p, lastStart, pc := 29, pos := p + 1, handed := p, outermost := first, marks := #[some p, none], lastmark := 0, frames := [{ wait := .nextStart, pc := 15, pos := p, outermost := first }], weight := 1, seen := seen' } =
  { code := patCode, text, lim, start := p, lastStart, pc := 31, pos := p + 1, handed := p, outermost := first, marks := #[some p, some (p + 1)], lastmark := 1, lastindex := 1, frames := [{ wait := .nextStart, pc := 15, pos := p, outermost := first }], weight := 1, seen := seen'.add 17 } := by
  show Sre.M.mark _ 1 = _
  simp [Sre.M.mark]
  exact ⟨by decide, rfl⟩
 have s4 : Sre.M.step { code := patCode, text, lim, start := p, lastStart, pc := 31, pos := p + 1, handed := p, outermost := first, marks := #[some p, some (p + 1)], lastmark := 1, lastindex := 1, frames := [{ wait := .nextStart, pc := 15, pos := p, outermost := first }], weight := 1, seen := seen'.add 17 } =
  { code := patCode, text, lim, start := p, lastStart, pc := 31, pos := p + 1, handed := p + 1, outermost := first, marks := #[some p, some (p + 1)], lastmark := 1, lastindex := 1, frames := [{ wait := .nextStart, pc := 15, pos := p, outermost := first }], weight := 1, seen := (seen'.add 17).add 1, answer := some true } := by
  cases first <;> rfl
 have s5 : Sre.M.step { code := patCode, text, lim, start := p, lastStart, pc := 31, pos := p + 1, handed := p + 1, outermost := first, marks := #[some p, some (p + 1)], lastmark := 1, lastindex := 1, frames := [{ wait := .nextStart, pc := 15, pos := p, outermost := first }], weight := 1, seen := (seen'.add 17).add 1, answer := some true } =
  { code := patCode, text, lim, start := p, lastStart, pc := 15, pos := p, handed := p + 1, outermost := first, marks := #[some p, some (p + 1)], lastmark := 1, lastindex := 1, frames := [], weight := 0, seen := (seen'.add 17).add 1, answer := some true } := by
  rfl
 have s6 : Sre.M.step { code := patCode, text, lim, start := p, lastStart, pc := 15, pos := p, handed := p + 1, outermost := first, marks := #[some p, some (p + 1)], lastmark := 1, lastindex := 1, frames := [], weight := 0, seen := (seen'.add 17).add 1, answer := some true } =
  { code := patCode, text, lim, start := p, lastStart, pc := 15, pos := p, handed := p + 1, outermost := first, marks := #[some p, some (p + 1)], lastmark := 1, lastindex := 1, frames := [], weight := 0, seen := (seen'.add 17).add 1, answer := some true, outcome := some .matched } := by
  rfl
 simp only [Sre.M.runFor, s1, s2, s3, s4, s5, s6, Option.isSome_none, Option.isSome_some, Bool.false_eq_true, if_false, if_true, and_self]
theorem sixHalf (text : Array Nat) (lim p lastStart : Nat) (first : Bool) (seen : Sre.Seen) (hp : p < lim) (hm : isM (text.getD p 0) = true) :
  (Sre.M.runFor 4 { code := patCode, text, lim, start := p, lastStart, pc := 15, pos := p, handed := p, outermost := first, marks := #[none, none], frames := [{ wait := .nextStart, pc := 15, pos := p, outermost := first }], weight := 1, seen }).outcome = none := by
 obtain ⟨seen', e⟩ := inSet19 (text.getD p 0) ((seen.add 17).add 13)
 rw [hm] at e
 have hacc : Sre.accepts patCode 17 (text.getD p 0) ((seen.add 17).add 13) = .ok (true, seen') := e
 have s1 : Sre.M.step { code := patCode, text, lim, start := p, lastStart, pc := 15, pos := p, handed := p, outermost := first, marks := #[none, none], frames := [{ wait := .nextStart, pc := 15, pos := p, outermost := first }], weight := 1, seen } =
  { code := patCode, text, lim, start := p, lastStart, pc := 17, pos := p, handed := p, outermost := first, marks := #[some p, none], lastmark := 0, frames := [{ wait := .nextStart, pc := 15, pos := p, outermost := first }], weight := 1, seen := seen.add 17 } := by
  rfl
 have s2 : Sre.M.step { code := patCode, text, lim, start := p, lastStart, pc := 17, pos := p, handed := p, outermost := first, marks := #[some p, none], lastmark := 0, frames := [{ wait := .nextStart, pc := 15, pos := p, outermost := first }], weight := 1, seen := seen.add 17 } =
  { code := patCode, text, lim, start := p, lastStart, pc := 29, pos := p + 1, handed := p, outermost := first, marks := #[some p, none], lastmark := 0, frames := [{ wait := .nextStart, pc := 15, pos := p, outermost := first }], weight := 1, seen := seen' } := by
  show (if p ≥ lim then _ else match Sre.accepts patCode 17 (text.getD p 0) ((seen.add 17).add 13) with | .error why => _ | .ok (false, seen) => _ | .ok (true, seen) => _) = _
  rw [if_neg (Nat.not_le.mpr hp), hacc]
  rfl
 have s3 : Sre.M.step { code := patCode, text, lim, start := p, lastStart, pc := 29, pos := p + 1, handed := p, outermost := first, marks := #[some p, none], lastmark := 0, frames := [{ wait := .nextStart, pc := 15, pos := p, outermost := first }], weight := 1, seen := seen' } =
  { code := patCode, text, lim, start := p, lastStart, pc := 31, pos := p + 1, handed := p, outermost := first, marks := #[some p, some (p + 1)], lastmark := 1, lastindex := 1, frames := [{ wait := .nextStart, pc := 15, pos := p, outermost := first }], weight := 1, seen := seen'.add 17 } := by
  show Sre.M.mark _ 1 = _
  simp [Sre.M.mark]
  exact ⟨by decide, rfl⟩
 have s4 : Sre.M.step { code := patCode, text, lim, start := p, lastStart, pc := 31, pos := p + 1, handed := p, outermost := first, marks := #[some p, some (p + 1)], lastmark := 1, lastindex := 1, frames := [{ wait := .nextStart, pc := 15, pos := p, outermost := first }], weight := 1, seen := seen'.add 17 } =
  { code := patCode, text, lim, start := p, lastStart, pc := 31, pos := p + 1, handed := p + 1, outermost := first, marks := #[some p, some (p + 1)], lastmark := 1, lastindex := 1, frames := [{ wait := .nextStart, pc := 15, pos := p, outermost := first }], weight := 1, seen := (seen'.add 17).add 1, answer := some true } := by
  cases first <;> rfl
 simp only [Sre.M.runFor, s1, s2, s3, s4, Option.isSome_none, Bool.false_eq_true, if_false]
end SRE
noncomputable section SRF
open PySem PySem.W PySem.Calls PyProof.Rows PySem.Builtin.Re
variable {M : Model} {A : Around} {E : Value → Shared → Prop} {s : Shared}
theorem wp_rules {Q : PUnit → Shared → Prop} {f : Nat → PUnit → Sem (ForInStep PUnit)} (hf : ∀ i r (Q' : ForInStep PUnit → Shared → Prop), Q' (.yield ⟨⟩) s → wpAny M A (f i r) Q' E s) (h : Q ⟨⟩ s) : ∀ l : List Nat, wpAny M A (forIn l PUnit.unit f) Q E s
 | [] => by rw [List.forIn_nil]; exact wpAny_pure h
 | x :: l => by
  rw [List.forIn_cons]
  exact wpAny_bind (hf x _ _ (wp_rules hf h l))
theorem wp_runToEnd {m m' : Sre.M} {o : Sre.Outcome} {Q : Option Sre.M → Shared → Prop} (h : Sre.M.runFor 4 m = m' ∧ m'.outcome = some o ∨ (Sre.M.runFor 4 m).outcome = none ∧ Sre.M.runFor 4 (Sre.M.runFor 4 m) = m' ∧ m'.outcome = some o)
  (ho : match o with | .matched => Q (some m') s | .failed => Q none s | .stuck _ => False) : wpAny M A (reRunToEnd m) Q E s := by
 unfold reRunToEnd
 have hd : wpAny M A (reDrive (2 ^ 64) m) (fun a s' => a = m' ∧ s' = s) E s := by
  rw [show (2 ^ 64 : Nat) = 18446744073709551614 + 1 + 1 from rfl]
  unfold reDrive
  show wpAny M A (if (Sre.M.runFor 4 m).outcome.isSome = true then pure (Sre.M.runFor 4 m) else do rule "sre.turn"; reDrive (18446744073709551614 + 1) (Sre.M.runFor 4 m)) _ E s
  rcases h with ⟨h1, h2⟩ | ⟨h1, h2, h3⟩
  ·rw [h1, h2]
   exact wpAny_pure ⟨rfl, rfl⟩
  ·rw [h1]
   refine wpAny_bind (wpAny_rule ?_)
   unfold reDrive
   show wpAny M A (if (Sre.M.runFor 4 (Sre.M.runFor 4 m)).outcome.isSome = true then pure (Sre.M.runFor 4 (Sre.M.runFor 4 m)) else _) _ E s
   rw [h2, h3]
   exact wpAny_pure ⟨rfl, rfl⟩
 have hout : m'.outcome = some o := by rcases h with h | h; exact h.2; exact h.2.2
 refine wpAny_bind (wpAny_mono hd (fun a s' e => ?_) fun _ _ e => e)
 obtain ⟨rfl, rfl⟩ := e
 refine wpAny_bind (wp_rules (fun i r Q' hQ' => ?_) ?_ _)
 ·by_cases hb : a.seen.has i = true
  ·simp only [hb, if_true]
   exact wpAny_bind (wpAny_rule (wpAny_pure hQ'))
  ·simp only [hb]
   exact wpAny_pure hQ'
 rw [hout]
 cases o with
 | matched => exact wpAny_pure ho
 | failed => exact wpAny_pure ho
 | stuck _ => exact ho.elim
theorem forSearch_pat (text : Array Nat) (pos lim : Nat) (must : Bool) : Sre.forSearch patCode text 1 pos lim must =
  if pos > lim || lim - pos < 1 then ({ code := patCode, text, lim, start := pos, pc := 15, pos, handed := pos, marks := #[none, none], mustAdvance := must, seen := ({} : Sre.Seen).add 14, answer := some false } : Sre.M)
  else ({ code := patCode, text, lim, start := pos, lastStart := lim, pc := 15, pos, handed := pos, marks := #[none, none], mustAdvance := must, seen := ({} : Sre.Seen).add 14 } : Sre.M).attemptFrom pos true := by rfl
theorem nextFound_ok {t : ReTarget} {start : Nat} {must : Bool} {Q : Option Sre.M → Shared → Prop} (hc : t.code = patCode) (hg : t.groups = 1)
  (hN : (∀ j, start ≤ j → j < t.lim → isM (t.text.getD j 0) = false) → Q none s)
  (hF : ∀ p (m' : Sre.M), start ≤ p → p < t.lim → isM (t.text.getD p 0) = true → (∀ j, start ≤ j → j < p → isM (t.text.getD j 0) = false) → m'.start = p → m'.handed = p + 1 → m'.marks = #[some p, some (p + 1)] → m'.lastmark = 1 → m'.lastindex = 1 → Q (some m') s) :
  wpAny M A (reNextFound t start must) Q E s := by
 unfold reNextFound
 rw [hc, hg, forSearch_pat]
 split
 ·rename_i h
  refine wp_runToEnd (o := .failed) (.inl ⟨rfl, rfl⟩) (hN fun j h1 h2 => ?_)
  simp only [Bool.or_eq_true, decide_eq_true_eq] at h
  omega
 ·rename_i h
  simp only [Bool.or_eq_true, decide_eq_true_eq, not_or] at h
  have had := admitted_ok ({ code := patCode, text := t.text, lim := t.lim, start := start, lastStart := t.lim, pc := 15, pos := start, handed := start, marks := #[none, none], mustAdvance := must, seen := ({} : Sre.Seen).add 14 } : Sre.M) rfl (t.lim + 1 - start) start (({} : Sre.Seen).add 14) (by show t.lim < _; omega)
  have hfs : (({ code := patCode, text := t.text, lim := t.lim, start := start, lastStart := t.lim, pc := 15, pos := start, handed := start, marks := #[none, none], mustAdvance := must, seen := ({} : Sre.Seen).add 14 } : Sre.M).hasFirstSet) = true := rfl
  unfold Sre.M.attemptFrom
  rw [hfs]
  simp only [Bool.not_true, Bool.false_eq_true, if_false]
  rcases had with ⟨sn, e1, e2⟩ | ⟨p, sn, e1, e2, e3, e4, e5⟩
  ·rw [e1]
   exact wp_runToEnd (o := .failed) (.inl ⟨rfl, rfl⟩) (hN e2)
  ·rw [e1]
   obtain ⟨m', h1, h2, h3, h4, h5, h6, h7⟩ := six t.text t.lim p t.lim true sn e3 e4 p
   refine wp_runToEnd (m' := m') (o := .matched) (.inr ⟨?_, h1, h2⟩) (hF p m' e2 e3 e4 e5 h3 h4 h5 h6 h7)
   obtain ⟨seen', e⟩ := inSet19 (t.text.getD p 0) ((sn.add 17).add 13)
   exact sixHalf t.text t.lim p t.lim true sn e3 e4
end SRF
noncomputable section LV
open PySem PySem.W PySem.Calls PyProof.Rows
theorem plainAttrs_pat : PlainAttrs "re.Pattern" :=
 ⟨⟨"object.__getattribute__", by rw [typeLookup_type, builtinLookup_eq_fast]; kernel_rfl, by decide +kernel⟩, by rw [typeLookup_type, builtinLookup_eq_fast]; kernel_rfl⟩
theorem plainAttrs_match : PlainAttrs "re.Match" :=
 ⟨⟨"object.__getattribute__", by rw [typeLookup_type, builtinLookup_eq_fast]; kernel_rfl, by decide +kernel⟩, by rw [typeLookup_type, builtinLookup_eq_fast]; kernel_rfl⟩
theorem owner_pat : Manifest.owners.lookup (String.ofList "re.Pattern".toList.reverse.reverse) = some Manifest.sig_re_Pattern := by kernel_rfl
theorem owner_match : Manifest.owners.lookup (String.ofList "re.Match".toList.reverse.reverse) = some Manifest.sig_re_Match := by kernel_rfl
theorem slot_pat_sub : Slot "re.Pattern" "sub" "re.Pattern.sub" :=
 .of (owner := "re.Pattern") (n := "sub") (by rw [typeLookup_type, builtinLookup_eq_fast]; kernel_rfl) (by decide +kernel) (by decide +kernel) (by decide +kernel)
  (by first | exact .inl (by decide +kernel) | exact .inr (by decide +kernel)) (by rw [isSubtype_type]; kernel_rfl)
theorem type_pat_sub : typeOf (.builtin "re.Pattern.sub") = pure (.type "method_descriptor") := by show builtinType _ = _; rw [builtinType_eq_fast]; kernel_rfl
theorem entry_pat_sub : entryFor table "re.Pattern.sub" = some Builtin.«re.Pattern.sub» := entryFor_of_tree (by kernel_rfl)
theorem args_pat_sub_3 (a b c : Value) : argsOk "re.Pattern.sub" ⟨[a, b, c], []⟩ := by
 unfold argsOk; rw [signature?_of (id := "re.Pattern.sub") (n := "sub".toList.reverse) (o := "re.Pattern".toList.reverse) (by kernel_rfl) owner_pat]; kernel_rfl
theorem entry_sub_loop : entryFor table "re.Pattern.sub.loop" = some Builtin.«re.Pattern.sub.loop» := entryFor_of_fast (by kernel_rfl)
theorem plain_sub_loop : plainId "re.Pattern.sub.loop" = true := by decide +kernel
theorem slot_match_group : Slot "re.Match" "group" "re.Match.group" :=
 .of (owner := "re.Match") (n := "group") (by rw [typeLookup_type, builtinLookup_eq_fast]; kernel_rfl) (by decide +kernel) (by decide +kernel) (by decide +kernel)
  (by first | exact .inl (by decide +kernel) | exact .inr (by decide +kernel)) (by rw [isSubtype_type]; kernel_rfl)
theorem type_match_group : typeOf (.builtin "re.Match.group") = pure (.type "method_descriptor") := by show builtinType _ = _; rw [builtinType_eq_fast]; kernel_rfl
theorem entry_match_group : entryFor table "re.Match.group" = some Builtin.«re.Match.group» := entryFor_of_tree (by kernel_rfl)
theorem args_match_group_2 (a b : Value) : argsOk "re.Match.group" ⟨[a, b], []⟩ := by
 unfold argsOk; rw [signature?_of (id := "re.Match.group") (n := "group".toList.reverse) (o := "re.Match".toList.reverse) (by kernel_rfl) owner_match]; kernel_rfl
end LV
noncomputable section LW
open PySem PySem.W PySem.Calls PyProof.Rows PySem.Builtin.Re
variable {prog : Program} {w : World} {A : Around} {E : Value → Shared → Prop} {s : Shared}
noncomputable abbrev matchObj (sv pv : Value) (lim : Nat) (tp : Addr) : Obj := { cls := .type "re.Match", data := .fields #[sv, pv, rawInt 0, rawInt lim, rawInt 1, .ref tp] }
noncomputable abbrev spanVs (p : Nat) : Array Value := #[rawInt p, rawInt (p + 1 : Nat), rawInt p, rawInt (p + 1 : Nat)]
theorem wp_textOf {x : Str} {t : Tok} {Q : (Array Nat × Nat) → Shared → Prop} (h : Q (x.cps, 0) s) : wpAny (model prog w) A (reTextOf (.str x t)) Q E s := by
 unfold reTextOf
 exact wpAny_bind (wpAny_pure (wpAny_pure h))
theorem wp_slice {text : Array Nat} {b e : Nat} {Q : Value → Shared → Prop} (hz : text.size ≤ sizeLine) (h : Q (.str ⟨text.extract b e⟩ s.toks) { s with toks := s.toks + 1 }) : wpAny (model prog w) A (reSlice text 0 b e) Q E s := by
 unfold reSlice
 refine wpAny_mkStr h ?_
 show (text.extract b e).size ≤ sizeLine
 rw [Array.size_extract]
 omega
theorem wp_rawItems {a : Addr} {o : Obj} {xs : Array Value} {n : Nat} {Q : Array Int → Shared → Prop} (ho : s.heap.get? a = some o) (hd : o.data = .seq xs n) (h : Q (xs.map reRawOf) s) : wpAny (model prog w) A (reRawItems (.ref a)) Q E s := by
 unfold reRawItems
 exact wpAny_bind (wpAny_seqItems ho hd (wpAny_pure h))
theorem group_call {x : Str} {tk t : Tok} {pv : Value} {lim p : Nat} {mo tp : Addr} {o : Obj} {n : Nat} {Q : Value → Shared → Prop} (hm : s.heap.get? mo = some (matchObj (.str x tk) pv lim tp)) (ht : s.heap.get? tp = some o) (hd : o.data = .seq (spanVs p) n) (hz : x.cps.size ≤ sizeLine)
  (h : Q (.str ⟨x.cps.extract p (p + 1)⟩ s.toks) { s with toks := s.toks + 1 }) :
  wpAny (model prog w) A (call (.builtin "re.Match.group") [.ref mo, .int 1 t]) Q E s := by
 refine wpAny_call (codeAny_call_builtin slot_match_group.plain entry_match_group (slot_match_group.check _ _ _ _ _ _ _ _ ⟨_, hm, rfl⟩ (args_match_group_2 _ _) ?_))
 unfold Builtin.«re.Match.group»
 refine wpAny_bind (wpAny_pure ?_)
 have hf : wpAny (model prog w) A.in1 (reFound (.ref mo)) (fun r s' => s' = s ∧ r = ⟨#[.str x tk, pv, rawInt 0, rawInt lim, rawInt 1, .ref tp], (spanVs p).map reRawOf⟩) (fun e s' => E e s') s := by
  unfold reFound
  refine wpAny_bind (wpAny_fieldsOf hm rfl ?_)
  exact wpAny_bind (wp_rawItems ht hd (wpAny_pure ⟨rfl, rfl⟩))
 refine wpAny_bind (wpAny_mono hf (fun r s' e => ?_) fun _ _ e => e)
 obtain ⟨rfl, rfl⟩ := e
 have hn : reGroupNumber ⟨#[.str x tk, pv, rawInt 0, rawInt lim, rawInt 1, .ref tp], (spanVs p).map reRawOf⟩ (.int 1 t) = pure 1 := by
  have a1 : asInt? (.int 1 t) = pure (some 1) := rfl
  have a2 : asIndex (.int 1 t) = pure 1 := rfl
  unfold reGroupNumber
  simp [a1, a2]
 refine wpAny_bind (wpAny_of_eq (a := 1) hn ?_)
 refine wpAny_bind ?_
 unfold reGroupText
 have g1 : ((spanVs p).map reRawOf).getD (2 * 1) (-1) = (p : Int) := by simp [spanVs, reRawOf, rawInt]
 have g2 : ((spanVs p).map reRawOf).getD (2 * 1 + 1) (-1) = ((p + 1 : Nat) : Int) := by simp [spanVs, reRawOf, rawInt]
 have g3 : (#[.str x tk, pv, rawInt 0, rawInt lim, rawInt 1, .ref tp] : Array Value).getD 0 .none = .str x tk := rfl
 dsimp only
 rw [g1, g2, g3]
 rw [if_neg (by simp; exact o67)]
 refine wpAny_bind (wp_textOf (x := x) (t := tk) ?_)
 exact wp_slice hz (wpAny_pure h)
end LW
noncomputable section LX
open PySem PySem.W PySem.Calls PyProof.Rows PySem.Builtin.Re
variable {prog : Program} {w : World} {A : Around} {E : Value → Shared → Prop} {s : Shared}
noncomputable abbrev lamBody (p1 p2 p3 p4 p5 p6 p7 p8 : Pos) : Expr :=
 .BinOp (.Constant (.str "\\") 0 p1) .Add (.BoolOp .Or [.Call (.Attribute (.Name "_m" p2) "group" p3) [.Constant (.int 1) 0 p4] [] p5, .Constant (.str "") 0 p6] p7) p8
noncomputable abbrev lamScope : Scope := { kind := .function, names := [(Str.ofString "_m", .local)], isGenerator := false, isCoroutine := false }
noncomputable abbrev lamArgs (pa : Pos) : Arguments := { posonlyargs := [], args := [{ arg := "_m", annotation := none, pos := pa }], vararg := none, kwonlyargs := [], kw_defaults := [], kwarg := none, defaults := [] }
theorem lamBody_wp {p1 p2 p3 p4 p5 p6 p7 p8 : Pos} {env : Env} {m : Str → Option Value} {x : Str} {tk : Tok} {pv : Value} {lim p : Nat} {mo tp : Addr} {o : Obj} {n c : Nat} {Q : Value → Shared → Prop}
  (hline : (p3.endLine == p5.line) = true) (hbase : ∀ env, attributeBase (.Name "_m" p2) "group" env (eval (.Name "_m" p2) env) = eval (.Name "_m" p2) env)
  (hk : env.scope = lamScope) (hn : s.heap.Ns env.locals m) (hmv : m "_m" = some (.ref mo)) (hm : s.heap.get? mo = some (matchObj (.str x tk) pv lim tp)) (ht : s.heap.get? tp = some o) (hd : o.data = .seq (spanVs p) n) (hz : x.cps.size ≤ sizeLine)
  (hc : x.cps.extract p (p + 1) = #[c]) (h : ∀ t' k, Q (.str ⟨#[92, c]⟩ t') { s with toks := k }) :
  wpAny (model prog w) A (eval (lamBody p1 p2 p3 p4 p5 p6 p7 p8) env) Q E s := by
 refine wpAny_BinOp (wpAny_Constant_str (wpAny_Or2 ?_))
 refine wpAny_Call_method (hbase env) rfl hline plainAttrs_match slot_match_group type_match_group (wpAny_Name (wpAny_loadName_local (by rw [hk]) (show env.kindOf "_m" = some .local by unfold Env.kindOf; rw [hk]; rfl) hn hmv ?_) (by decide))
 refine ⟨⟨_, hm, rfl⟩, fun a e => ?_, ?_⟩
 ·cases e; exact ⟨_, hm, rfl⟩
 refine callWith_of (P := fun _ => True) rfl (fun hp _ => ⟨.machine, .inr (.inl rfl), .of_pure rfl⟩) ?_
 have main : wpAny (model prog w) A (spliced (backTo p5 (starEach [Expr.Constant (.int 1) 0 p4] env))) (fun vs s₂ => (True) ∧ wpAny (model prog w) A (PySem.call (.builtin "re.Match.group") ([.ref mo] ++ vs) [])
   (fun v s₁ => wpAny (model prog w) A (truthy v) (fun t s₂ => if t then wpAny (model prog w) A (binaryOp .Add (.str "\\" s.toks) v) Q E s₂ else wpAny (model prog w) A (eval (.Constant (.str "") 0 p6) env) (fun v s' => wpAny (model prog w) A (binaryOp .Add (.str "\\" s.toks) v) Q E s') E s₂) E s₁) E s₂) E { s with toks := s.toks + 1 } :=
  args_cons (wpAny_Constant_int (wpAny_items_nil ⟨trivial, ?_⟩)) rfl
 ·exact evalArgs_plain main
 refine group_call hm ht hd hz ?_
 rw [hc]
 refine P.truthy_str (by show ¬ ((1 : Nat) : Int) ≥ 2 ^ 63; decide) ?_
 show wpAny _ _ (binaryOp .Add (.str "\\" _) (.str ⟨#[c]⟩ _)) Q E _
 exact PyProof.Rows.add_str (fun t' k => h t' k) (by rw [sizeLine_eq]; show (1 : Nat) + 1 ≤ _; exact (by decide))
end LX
noncomputable section LY
open PySem PySem.W PySem.Calls PyProof.Rows PySem.Builtin.Re
variable {prog : Program} {w : World} {A : Around} {E : Value → Shared → Prop} {s : Shared}
noncomputable abbrev lamObj (qual : Str) (pa : Pos) (body : Expr) (pm cv ctv : Value) : Obj :=
 { cls := .type "function", data := .func (kla_fn "<lambda>" qual (lamArgs pa) body lamScope [] pm cv ctv) }
noncomputable def CodeQ (h : Heap) (c : Addr) : Prop := ∃ oc vs q t, h.get? c = some oc ∧ oc.data = .fields vs ∧ vs[1]? = some (.str q t)
theorem lam_call {qual : Str} {pa : Pos} {p1 p2 p3 p4 p5 p6 p7 p8 : Pos} {pm ctv : Value} {c' f : Addr} {x : Str} {tk : Tok} {pv : Value} {lim p : Nat} {mo tp : Addr} {o : Obj} {n c : Nat} {Q : Value → Shared → Prop}
  (hline : (p3.endLine == p5.line) = true) (hbase : ∀ env, attributeBase (.Name "_m" p2) "group" env (eval (.Name "_m" p2) env) = eval (.Name "_m" p2) env)
  (hroom : A.depth < recursionLimit) (hl : s.heap.NoLimit) (hf : s.heap.get? f = some (lamObj qual pa (lamBody p1 p2 p3 p4 p5 p6 p7 p8) pm (.ref c') ctv)) (hcd : CodeQ s.heap c')
  (hm : s.heap.get? mo = some (matchObj (.str x tk) pv lim tp)) (ht : s.heap.get? tp = some o) (hd : o.data = .seq (spanVs p) n) (hz : x.cps.size ≤ sizeLine)
  (hc : x.cps.extract p (p + 1) = #[c]) (h : ∀ t' k h', (∀ b o, s.heap.get? b = some o → h'.get? b = some o) → Q (.str ⟨#[92, c]⟩ t') { s with heap := h', toks := k }) :
  wpAny (model prog w) A (call (.ref f) [.ref mo]) Q E s := by
 refine wpAny_call (codeAny_of_tree ?_)
 show wpAny _ A.in1 (callAny (.ref f) ⟨[.ref mo], []⟩) _ _ s
 unfold callAny
 dsimp only
 refine wpAny_bind (wpAny_load hf ?_)
 refine xEEEEAA hcd fun oc vs q t hoc hdc hq => ?_
 show wpAny _ A.in1 (callFunction f (kla_fn "<lambda>" qual (lamArgs pa) (lamBody p1 p2 p3 p4 p5 p6 p7 p8) lamScope [] pm (.ref c') ctv) ⟨[.ref mo], []⟩) _ _ s
 unfold callFunction
 dsimp only
 refine wpAny_bind (m := field (.ref c') 1) (wpAny_field hoc hdc hq (wpAny_bind (wpAny_pure ?_)))
 refine wpAny_bind (wpAny_of_eq (a := [((Str.ofString "_m"), Value.ref mo)]) rfl ?_)
 refine wpAny_bind (wpAny_newFunctionEnv (by decide) (by intro x hx; rw [zL hx]; rfl) (fun h₁ hns hsb => ?_) rfl)
 have keep : ∀ b o, s.heap.get? b = some o → h₁.get? b = some o := fun b o e => hsb.extBut b o (Nat.ne_of_lt (Heap.lt_size e)) (Heap.get?_push_of_some _ e)
 refine wpAny_bind (wpAny_enterFrame (hl.keeps keep) hroom ?_)
 refine wpAny_pure ⟨rfl, ?_⟩
 refine kla_codeExpr ?_
 refine lamBody_wp (m := fun y => ([((Str.ofString "_m"), Value.ref mo)] : List (Str × Value)).reverse.lookup y) hline hbase rfl hns rfl (keep _ _ hm) (keep _ _ ht) hd hz hc fun t' k => ?_
 exact h t' k h₁ keep
end LY
noncomputable section LZ
open PySem PySem.W PySem.Calls PyProof.Rows PySem.Builtin.Re
variable {prog : Program} {w : World} {A : Around} {E : Value → Shared → Prop} {s : Shared}
noncomputable def subM (t : List Nat) : List Nat := t.flatMap fun c => if isM c then [92, c] else [c]
theorem subM_clean : ∀ l : List Nat, (∀ c ∈ l, isM c = false) → subM l = l
 | [], _ => rfl
 | c :: r, h => by
  unfold subM
  rw [List.flatMap_cons, h c (List.mem_cons_self ..)]
  have := subM_clean r fun d hd => h d (List.mem_cons_of_mem _ hd)
  unfold subM at this
  rw [this]; rfl
theorem subM_append (a b : List Nat) : subM (a ++ b) = subM a ++ subM b := by unfold subM; rw [List.flatMap_append]
theorem subM_length (t : List Nat) : (subM t).length ≤ 2 * t.length := by
 induction t with
 | nil => simp [subM]
 | cons c r ih =>
  unfold subM at ih ⊢
  rw [List.flatMap_cons, List.length_append, List.length_cons]
  have : (if isM c = true then [92, c] else [c]).length ≤ 2 := by split <;> simp
  exact o18 ih this
noncomputable def PatAt (h : Heap) (pa : Addr) : Prop :=
 ∃ po fs ca co xs n, h.get? pa = some po ∧ po.cls = .type "re.Pattern" ∧ po.dict = none ∧ po.data = .fields fs ∧ reRawNat (fs.getD 6 .none) = 0 ∧ reRawNat (fs.getD 2 .none) = 1 ∧ fs.getD 5 .none = .ref ca ∧
  h.get? ca = some co ∧ co.data = .seq xs n ∧ (xs.map reRawOf).map (·.toNat) = patCode
theorem PatAt.keeps {h h' : Heap} {pa : Addr} (x : PatAt h pa) (k : ∀ b o, h.get? b = some o → h'.get? b = some o) : PatAt h' pa := by
 obtain ⟨po, fs, ca, co, xs, n, e1, e2, e3, e4, e5, e6, e7, e8, r⟩ := x
 exact ⟨po, fs, ca, co, xs, n, k _ _ e1, e2, e3, e4, e5, e6, e7, k _ _ e8, r⟩
theorem wholeTarget_ok {pa : Addr} {x : Str} {tk : Tok} {Q : ReTarget → Shared → Prop} (P : PatAt s.heap pa) (h : Q ⟨.ref pa, .str x tk, patCode, x.cps, 0, 1, 0, x.cps.size⟩ s) : wpAny (model prog w) A (reWholeTarget (.ref pa) (.str x tk)) Q E s := by
 obtain ⟨po, fs, ca, co, xs, n, e1, e2, e3, e4, e5, e6, e7, e8, e9, e10⟩ := P
 unfold reWholeTarget
 refine wpAny_bind (wpAny_fieldsOf e1 e4 ?_)
 refine wpAny_bind (wp_textOf ?_)
 dsimp only
 rw [e5, e6, e7]
 refine wpAny_bind (wpAny_pure ?_)
 refine wpAny_bind (wp_rawItems e8 e9 ?_)
 rw [e10]
 exact wpAny_pure h
theorem newMatch_ok {pv sv : Value} {lim p : Nat} {m : Sre.M} {Q : Value → Shared → Prop} (h1 : m.start = p) (h2 : m.handed = p + 1) (h3 : m.marks = #[some p, some (p + 1)]) (h4 : m.lastmark = 1) (h5 : m.lastindex = 1)
  (h : ∀ h' tp mo o n, (∀ b o, s.heap.get? b = some o → h'.get? b = some o) → h'.get? mo = some (matchObj sv pv lim tp) → h'.get? tp = some o → o.data = .seq (spanVs p) n → Q (.ref mo) { s with heap := h' }) :
  wpAny (model prog w) A (reNewMatch pv sv 1 0 lim m) Q E s := by
 unfold reNewMatch
 have e0 : List.range 1 = [0] := rfl
 rw [e0, h3, h4, h5, h1, h2]
 refine wpAny_ite_false (decide_eq_false (show ¬ ((decide (((1 : Nat) : Int) ≤ 1) && decide (p + 1 < p)) || false) = true by simp)) ?_
 show wpAny _ _ (newTuple [rawInt p, rawInt (p + 1 : Nat), rawInt p, rawInt (p + 1 : Nat)] >>= fun d => newFields "re.Match" [sv, pv, rawInt 0, rawInt lim, rawInt 1, d]) Q E s
 simp only [newTuple, newFields]
 refine wpAny_bind (wpAny_newObj_type ?_ (by size_fits))
 refine wpAny_newObj_type ?_ (by size_fits)
 exact h _ _ _ _ 0 (fun b o e => Heap.get?_push_of_some _ (Heap.get?_push_of_some _ e)) (Heap.get?_push_size _ rfl) (Heap.get?_push_of_some _ (Heap.get?_push_size _ rfl)) rfl
theorem push_ok {L : Addr} {items : Array Value} {n : Nat} {v : Value} {Q : Unit → Shared → Prop} (ho : s.heap.get? L = some (listOf items n)) (hz : items.size ≤ sizeLine)
  (h : ∀ h' n', (∀ b o, b ≠ L → s.heap.get? b = some o → h'.get? b = some o) → h'.get? L = some (listOf (items.push v) n') → Q () { s with heap := h' }) : wpAny (model prog w) A (updateSeq L (·.push v)) Q E s := by
 refine wpAny_updateSeq ho rfl ?_ hz (by show (items.push v).size ≤ _; rw [Array.size_push]; exact Nat.add_le_add_right hz _)
 exact h _ _ (fun b o hb e => (Heap.get?_update_other _ _ (Ne.symm hb)).trans e) (Heap.get?_update_self _ ho rfl)
theorem StrsAre.push {vs : List Value} {ys : List Str} {y : Str} {t : Tok} (h : StrsAre vs ys) : StrsAre (vs ++ [.str y t]) (ys ++ [y]) := by
 induction h with
 | nil => exact .cons _ _ .nil
 | cons a b _ ih => exact .cons _ _ ih
end LZ
noncomputable section MA
open PySem PySem.W PySem.Calls PyProof.Rows PySem.Builtin.Re
variable {prog : Program} {w : World} {A : Around} {E : Value → Shared → Prop} {s : Shared}
noncomputable def LamThere (h : Heap) (f : Addr) : Prop :=
 ∃ qual pa p1 p2 p3 p4 p5 p6 p7 p8 pm c' ctv, (p3.endLine == p5.line) = true ∧ (∀ env, attributeBase (.Name "_m" p2) "group" env (eval (.Name "_m" p2) env) = eval (.Name "_m" p2) env) ∧
  h.get? f = some (lamObj qual pa (lamBody p1 p2 p3 p4 p5 p6 p7 p8) pm (.ref c') ctv) ∧ CodeQ h c'
theorem lam_call' {f : Addr} {x : Str} {tk : Tok} {pv : Value} {lim p : Nat} {mo tp : Addr} {o : Obj} {n c : Nat} {Q : Value → Shared → Prop} (hroom : A.depth < recursionLimit) (hl : s.heap.NoLimit) (hf : LamThere s.heap f)
  (hm : s.heap.get? mo = some (matchObj (.str x tk) pv lim tp)) (ht : s.heap.get? tp = some o) (hd : o.data = .seq (spanVs p) n) (hz : x.cps.size ≤ sizeLine)
  (hc : x.cps.extract p (p + 1) = #[c]) (h : ∀ t' k h', (∀ b o, s.heap.get? b = some o → h'.get? b = some o) → Q (.str ⟨#[92, c]⟩ t') { s with heap := h', toks := k }) :
  wpAny (model prog w) A (call (.ref f) [.ref mo]) Q E s := by
 obtain ⟨qual, pa, p1, p2, p3, p4, p5, p6, p7, p8, pm, c', ctv, e1, e2, e3, e4⟩ := hf
 exact lam_call e1 e2 hroom hl e3 e4 hm ht hd hz hc h
theorem CodeQ.keeps {h h' : Heap} {c : Addr} (x : CodeQ h c) (k : ∀ b o, h.get? b = some o → h'.get? b = some o) : CodeQ h' c :=
 let ⟨oc, vs, q, t, a, r⟩ := x; ⟨oc, vs, q, t, k _ _ a, r⟩
theorem LamThere.keeps {h h' : Heap} {f : Addr} (x : LamThere h f) (k : ∀ b o, h.get? b = some o → h'.get? b = some o) : LamThere h' f := by
 obtain ⟨qual, pa, p1, p2, p3, p4, p5, p6, p7, p8, pm, c', ctv, e1, e2, e3, e4⟩ := x
 exact ⟨qual, pa, p1, p2, p3, p4, p5, p6, p7, p8, pm, c', ctv, e1, e2, k _ _ e3, e4.keeps k⟩
theorem subM_step {t : List Nat} {d p c : Nat} (hdp : d ≤ p) (hp : t[p]? = some c) (hm : isM c = true) (hcl : ∀ j, d ≤ j → j < p → isM (t.getD j 0) = false) :
  subM (t.take (p + 1)) = subM (t.take d) ++ ((t.take p).drop d) ++ [92, c] := by
 have hlt : p < t.length := (zC hp).1
 have e1 : t.take (p + 1) = t.take d ++ ((t.take p).drop d ++ [c]) := by
  rw [List.take_succ, hp, ← List.append_assoc]
  congr 1
  have : t.take d = (t.take p).take d := by rw [List.take_take, Nat.min_eq_left hdp]
  rw [this, List.take_append_drop]
 rw [e1, subM_append, subM_append, subM_clean ((t.take p).drop d)]
 ·have : subM [c] = [92, c] := by simp [subM, hm]
  rw [this, List.append_assoc]
 ·intro x hx
  obtain ⟨i, hi, rfl⟩ := List.getElem_of_mem hx
  have h1 : d + i < p := by simp at hi; exact zK (o61 hi) (Nat.min_le_left _ _)
  have := hcl (d + i) (by exact Nat.le_add_right _ _) h1
  simp only [List.getElem_drop, List.getElem_take]
  rw [zJ, zH (by exact Nat.lt_trans h1 hlt)] at this
  exact this
theorem subM_last {t : List Nat} {d : Nat} (hcl : ∀ j, d ≤ j → j < t.length → isM (t.getD j 0) = false) : subM t = subM (t.take d) ++ t.drop d := by
 conv => lhs; rw [← List.take_append_drop d t, subM_append]
 rw [subM_clean (t.drop d)]
 intro x hx
 obtain ⟨i, hi, rfl⟩ := List.getElem_of_mem hx
 have h1 : d + i < t.length := by simp at hi; exact o61 hi
 have := hcl (d + i) (by exact Nat.le_add_right _ _) h1
 rw [zJ, zH h1] at this
 simpa using this
theorem extract_list (t : List Nat) (b e : Nat) : (⟨t.toArray.extract b e⟩ : Str) = ⟨((t.take e).drop b).toArray⟩ := by
 congr 1
 apply Array.ext'
 simp [List.extract_eq_take_drop, List.drop_take]
noncomputable def Pieces (h : Heap) (L : Addr) (t : List Nat) (d : Nat) : Prop :=
 ∃ items n ys, h.get? L = some (listOf items n) ∧ StrsAre items.toList ((ys : List (List Nat)).map fun y => (⟨y.toArray⟩ : Str)) ∧ ys.flatten = subM (t.take d) ∧ items.size ≤ 2 * d
theorem pushPiece {L : Addr} {h0 : Heap} {items : Array Value} {n : Nat} {ys : List (List Nat)} {y : List Nat} {tk : Tok} {Q : Unit → Shared → Prop} (hL : h0.get? L = none) (k0 : ∀ b o, h0.get? b = some o → s.heap.get? b = some o)
  (ho : s.heap.get? L = some (listOf items n)) (hs : StrsAre items.toList (ys.map fun y => (⟨y.toArray⟩ : Str))) (hz : items.size ≤ sizeLine)
  (h : ∀ h' n' items', (∀ b o, h0.get? b = some o → h'.get? b = some o) → h'.get? L = some (listOf items' n') → StrsAre items'.toList ((ys ++ [y]).map fun y => (⟨y.toArray⟩ : Str)) → items'.size = items.size + 1 → Q () { s with heap := h' }) :
  wpAny (model prog w) A (updateSeq L (·.push (.str ⟨y.toArray⟩ tk))) Q E s := by
 refine push_ok ho hz fun h' n' k e => h h' n' _ (fun b o eb => k b o (fun q => by rw [q, hL] at eb; exact nn eb) (k0 b o eb)) e ?_ (by rw [Array.size_push])
 rw [Array.toList_push, List.map_append]
 exact StrsAre.push hs
end MA
noncomputable section MB
open PySem PySem.W PySem.Calls PyProof.Rows PySem.Builtin.Re
variable {prog : Program} {w : World} {A : Around} {E : Value → Shared → Prop} {s : Shared}
theorem strsAre_sum {vs : List Value} {ys : List Str} (_ : StrsAre vs ys) : True := trivial
theorem flatten_length : ∀ l : List (List Nat), (l.map (·.length)).sum = l.flatten.length
 | [] => rfl
 | a :: r => by rw [List.map_cons, List.sum_cons, flatten_length r, List.flatten_cons, List.length_append]
theorem joinL_nil : ∀ l : List (List Nat), joinL [] l = l.flatten
 | [] => rfl
 | [x] => by simp [joinL]
 | x :: y :: r => by
  show x ++ [] ++ joinL [] (y :: r) = _
  rw [joinL_nil (y :: r)]; simp
theorem opt_push {α : Type} {K : Sem α} {L : Addr} {t : List Nat} {d p : Nat} {h0 : Heap} {items : Array Value} {n : Nat} {ys : List (List Nat)} {Q : α → Shared → Prop} (hL : h0.get? L = none) (k0 : ∀ b o, h0.get? b = some o → s.heap.get? b = some o)
  (ho : s.heap.get? L = some (listOf items n)) (hs : StrsAre items.toList (ys.map fun y => (⟨y.toArray⟩ : Str))) (hz : items.size ≤ 2 * d) (hd : d ≤ t.length) (ht : t.length ≤ 10000)
  (h : ∀ h1 k1 n1 items1 ys1, (∀ b o, h0.get? b = some o → h1.get? b = some o) → h1.get? L = some (listOf items1 n1) → StrsAre items1.toList ((ys1 : List (List Nat)).map fun y => (⟨y.toArray⟩ : Str)) →
   ys1.flatten = ys.flatten ++ (t.take p).drop d → items1.size ≤ 2 * d + 1 → wpAny (model prog w) A K Q E { s with heap := h1, toks := k1 }) :
  wpAny (model prog w) A (if d < p then reSlice t.toArray 0 d p >>= fun x => updateSeq L (fun xs => xs.push x) >>= fun _ => K else K) Q E s := by
 by_cases hlt : d < p
 ·rw [if_pos hlt]
  refine wpAny_bind (wp_slice (by rw [sizeLine_eq]; exact zG ht (by decide)) ?_)
  rw [extract_list]
  refine wpAny_bind (pushPiece hL k0 ho hs (by rw [sizeLine_eq]; exact zG hz (zG (Nat.mul_le_mul_left 2 (zG hd ht)) (by decide))) fun h1 n1 items1 K1 o1 s1 z1 => ?_)
  exact h h1 _ n1 items1 _ K1 o1 s1 (by rw [List.flatten_append]; simp) (zG (Nat.le_of_eq z1) (Nat.succ_le_succ hz))
 ·rw [if_neg hlt]
  refine h _ _ n items ys k0 ho hs ?_ (Nat.le_succ_of_le hz)
  rw [List.drop_eq_nil_iff.mpr (zG (by rw [List.length_take]; exact Nat.min_le_left _ _) (Nat.ge_of_not_lt hlt)), List.append_nil]
theorem sub_loop {pa f L : Addr} {t : List Nat} {tk : Tok} {h0 : Heap} {s0 : Shared} {R : Result → Shared → Prop} (hroom : A.depth < recursionLimit) (hlim : h0.NoLimit) (hP : PatAt h0 pa) (hf : LamThere h0 f) (hL : h0.get? L = none) (ht : t.length ≤ 10000)
  (hR : ∀ h' k t', (∀ b o, h0.get? b = some o → h'.get? b = some o) → R (.ok (.ret (.str ⟨(subM t).toArray⟩ t'))) { s0 with heap := h', toks := k }) :
  ∀ (fuel d : Nat) (nn : Int) (h : Heap) (k : Nat), t.length < fuel + d → d ≤ t.length → (∀ b o, h0.get? b = some o → h.get? b = some o) → Pieces h L t d →
   codeAny (model prog w) A (.builtin "re.Pattern.sub.loop" ⟨[.ref pa, .str ⟨t.toArray⟩ tk, .ref f, rawInt 1, rawInt 0, rawInt nn, rawInt (d : Nat), rawInt (d : Nat), .bool false, .ref L, .bool false], []⟩) R { s0 with heap := h, toks := k } := by
 intro fuel
 induction fuel with
 | zero => intro d nn h k hfu hd k0 hp; lia
 | succ fuel ih =>
  intro d nn h k hfu hd k0 hp
  obtain ⟨items, n, ys, ho, hs, hfl, hz⟩ := hp
  refine codeAny_builtin entry_sub_loop ?_
  rw [Around.under_plainId plain_sub_loop _]
  show wpAny _ A.in1 (Builtin.«re.Pattern.sub.loop» _) _ _ _
  unfold Builtin.«re.Pattern.sub.loop»
  dsimp only [rawInt]
  refine wpAny_bind (wholeTarget_ok (hP.keeps k0) ?_)
  have w1 : ((1 : Int) == 0) = false := rfl
  have w0 : ((0 : Int) != 0) = false := rfl
  simp only [w1, w0, Bool.false_eq_true, if_false, Bool.false_and]
  have hsz : t.toArray.size = t.length := by simp
  have hget : ∀ j, t.toArray.getD j 0 = t.getD j 0 := fun j => by simp [Array.getD_eq_getD_getElem?, zJ]
  refine wpAny_bind (nextFound_ok rfl rfl (fun hN => ?_) (fun p m hdp hpl hpm hcl m1 m2 m3 m4 m5 => ?_))
  ·dsimp only
   have hcl : ∀ j, d ≤ j → j < t.length → isM (t.getD j 0) = false := fun j a b => by
    have := hN j (by simpa using a) (by show j < t.toArray.size; rw [hsz]; exact b)
    rw [← hget]; exact this
   have hdn : ((d : Nat) : Int).toNat = d := by simp
   rw [hdn]
   have hlast := subM_last hcl
   refine opt_push hL k0 ho hs hz hd ht fun h1 k1 n1 items1 ys1 K1 o1 s1 f1 z1 => ?_
   rw [hfl, hsz, List.take_length, ← hlast] at f1
   refine wpAny_bind (wp_slice (by rw [hsz, sizeLine_eq]; exact zG ht (by decide)) ?_)
   rw [extract_list]
   refine wpAny_bind (wpAny_seqItems o1 rfl ?_)
   simp only [Option.getD_some]
   by_cases hemp : items1.isEmpty = true
   ·rw [if_pos hemp]
    have hys : subM t = [] := by
     have h0 : items1.toList = [] := by simpa using hemp
     rw [h0] at s1
     rw [← f1]
     cases ys1 with
     | nil => rfl
     | cons a r => cases s1
    refine wpAny_pure ?_
    have := hR h1 (k1 + 1) k1 K1
    rw [hys] at this
    exact this
   ·rw [if_neg hemp]
    refine wpAny_bind (PyProof.Rows.join_list (items := items1) ⟨_, o1, rfl, n1, rfl⟩ s1 ?_ fun t' k' => ?_)
    ·have e9 : ((ys1.map fun y => (⟨y.toArray⟩ : Str)).map (·.length)).sum = ys1.flatten.length := by
      rw [← flatten_length, List.map_map]
      congr 1
     rw [e9, f1]
     exact zG (subM_length t) (zG (Nat.mul_le_mul_left 2 ht) (by decide))
    ·unfold Txt.join
     rw [StrLaws.glued_eq_join, join_toL]
     refine wpAny_pure ?_
     have := hR h1 k' t' K1
     rw [← f1, ← joinL_nil] at this
     exact this
  ·dsimp only at hdp hpl hpm hcl ⊢
   have hdp : d ≤ p := by simpa using hdp
   have hpl : p < t.length := by rw [← hsz]; exact hpl
   rw [hget] at hpm
   have hcl' : ∀ j, d ≤ j → j < p → isM (t.getD j 0) = false := fun j a b => by rw [← hget]; exact hcl j (by simpa using a) b
   obtain ⟨c, hpc⟩ : ∃ c, t[p]? = some c := ⟨t[p], zH hpl⟩
   have hpm : isM c = true := by rw [zJ, hpc] at hpm; exact hpm
   have hext : (⟨t.toArray⟩ : Str).cps.extract p (p + 1) = #[c] := by
    apply Array.ext'
    obtain ⟨_, e⟩ := zC hpc
    simp [List.extract_eq_take_drop, List.take_one, List.head?_drop, hpc]
   have hdn : ((d : Nat) : Int).toNat = d := by simp
   rw [hdn, m1]
   refine opt_push hL k0 ho hs hz hd ht fun h1 k1 n1 items1 ys1 K1 o1 s1 f1 z1 => ?_
   rw [hfl] at f1
   have hd1 : d ≤ 10000 := zG hd ht
   have hz1 : items1.size ≤ sizeLine := by rw [sizeLine_eq]; exact zG z1 (zG (Nat.succ_le_succ (Nat.mul_le_mul_left 2 hd1)) (by decide))
   refine wpAny_bind (newMatch_ok m1 m2 m3 m4 m5 fun h2 tp mo o n2 k2 hmo htp hod => ?_)
   refine wpAny_bind (wpAny_holding ?_)
   simp only [beq_self_eq_true, if_true]
   have K2 : ∀ b o, h0.get? b = some o → h2.get? b = some o := fun b o e => k2 b o (K1 b o e)
   refine lam_call' (c := c) hroom (hlim.keeps K2) (hf.keeps K2) hmo htp hod (by rw [sizeLine_eq]; simp; exact zG ht (by decide)) hext fun t' k' h3 k3 => ?_
   have K3 : ∀ b o, h0.get? b = some o → h3.get? b = some o := fun b o e => k3 b o (K2 b o e)
   have w3 : ((Value.str ⟨#[92, c]⟩ t') != Value.none) = true := rfl
   simp only [w3, if_true]
   refine wpAny_bind (pushPiece (y := [92, c]) hL K3 (k3 _ _ (k2 _ _ o1)) s1 hz1 fun h4 n4 items4 K4 o4 s4 z4 => ?_)
   refine wpAny_pure ⟨plainId_quiet plain_sub_loop _, ?_⟩
   rw [m2]
   have w4 : (p + 1 == p) = false := by simp
   rw [w4]
   refine ih (p + 1) (nn + 1) h4 _ (zK hfu (by rw [Nat.add_right_comm, Nat.add_assoc]; exact Nat.add_le_add_left (Nat.succ_le_succ hdp) fuel)) hpl K4 ⟨items4, n4, _, o4, s4, ?_, zG (Nat.le_of_eq z4) (Nat.succ_le_succ (zG z1 (Nat.succ_le_succ (Nat.mul_le_mul_left 2 hdp))))⟩
   rw [List.flatten_append, f1, subM_step hdp hpc hpm hcl']
   simp
end MB
noncomputable section MC
open PySem PySem.W PySem.Calls PyProof.Rows PySem.Builtin.Re
variable {prog : Program} {w : World} {A : Around} {E : Value → Shared → Prop} {s : Shared}
theorem fn_call_lookup : ∃ r, typeLookup (.type "function") "__call__" = pure (some r) := ⟨.builtin "function.__call__", by rw [typeLookup_type, builtinLookup_eq_fast]; kernel_rfl⟩
theorem sub_str_bytearray : isSubtype (.type "str") (.type "bytearray") = pure false := by rw [isSubtype_type]; kernel_rfl
theorem sub_call {pa f : Addr} {t : List Nat} {tk : Tok} {Q : Value → Shared → Prop} (hroom : A.depth < recursionLimit) (hlim : s.heap.NoLimit) (hP : PatAt s.heap pa) (hf : LamThere s.heap f) (ht : t.length ≤ 10000)
  (hQ : ∀ h' k t', (∀ b o, s.heap.get? b = some o → h'.get? b = some o) → Q (.str ⟨(subM t).toArray⟩ t') { s with heap := h', toks := k }) :
  wpAny (model prog w) A (call (.builtin "re.Pattern.sub") [.ref pa, .ref f, .str ⟨t.toArray⟩ tk]) Q E s := by
 have hT : s.TypeIs (.ref pa) "re.Pattern" := by obtain ⟨po, fs, ca, co, xs, n, e1, e2, _⟩ := hP; exact ⟨po, e1, e2⟩
 have hTf : s.TypeIs (.ref f) "function" := by obtain ⟨qual, pa, p1, p2, p3, p4, p5, p6, p7, p8, pm, c', ctv, e1, e2, e3, e4⟩ := hf; exact ⟨_, e3, rfl⟩
 refine wpAny_call (codeAny_call_builtin slot_pat_sub.plain entry_pat_sub (slot_pat_sub.check _ _ _ _ _ _ _ _ hT (args_pat_sub_3 _ _ _) ?_))
 unfold Builtin.«re.Pattern.sub» reSubstitute
 have hn : reNamed "re.Pattern.sub" "sub" ["repl", "string", "count"] 2 [.ref f, .str ⟨t.toArray⟩ tk] [] = pure [some (.ref f), some (.str ⟨t.toArray⟩ tk), none] := by rfl
 dsimp only
 refine wpAny_bind (wpAny_of_eq hn ?_)
 dsimp only
 refine wpAny_bind (wpAny_pure ?_)
 obtain ⟨r, hr⟩ := fn_call_lookup
 refine wpAny_bind (wpAny_specialOf hTf hr ?_)
 simp only [Option.isSome_some, if_true]
 refine wpAny_bind (wpAny_pure ?_)
 refine wpAny_bind (wpAny_pure ?_)
 refine wpAny_bind (wpAny_holding (wholeTarget_ok hP ?_))
 rw [if_pos (show (((Value.ref f, (1 : Int)).snd == 1) = true) from rfl)]
 dsimp only
 unfold reNotHeld
 refine wpAny_bind (wpAny_bind (wpAny_isInstance (T := "str") (b := false) (typeIs_str _ _ _) sub_str_bytearray ?_))
 simp only [Bool.false_eq_true, if_false]
 refine wpAny_pure ?_
 simp only [newList]
 refine wpAny_bind (wpAny_newObj_type ?_ (by size_fits))
 refine wpAny_pure ⟨plainId_quiet plain_sub_loop _, ?_⟩
 have hL : s.heap.get? s.heap.objs.size = none := Heap.get?_none_of_le (Nat.le_refl _)
 refine sub_loop (h0 := s.heap) (s0 := s) (R := fun r s' => match r with | Except.ok (Flow.ret v) => Q v s' | Except.ok a => False | Except.error e => E e s') hroom hlim hP hf hL ht (fun h' k t' kp => hQ h' k t' kp) (t.length + 1) 0 0 _ _ (by exact Nat.lt_succ_self _) (Nat.zero_le _) (fun b o e => Heap.get?_push_of_some _ e)
  ⟨#[], 0, [], Heap.get?_push_size _ rfl, .nil, by simp [subM], by simp⟩
end MC
noncomputable section MD
open PySem PySem.W PySem.Calls PyProof.Rows PySem.Builtin.Re
variable {W : Wd} {R : Rs} {k : Nat}
theorem St.regrowAlloc {ρ : List Addr} {σ : AH} {G : List (Loc × AV)} {s : Shared} (x : St W ρ σ G s) {i : Nat} {P a : Addr} {h' : Heap} {o' o2 : Obj} {ao ao2 : AObj} {tk : Nat} (ea : ρ[i]? = some P) (hs : Heap.ExtBut P s.heap h') (ho : h'.get? P = some o') (r : OR (ρ ++ [a]) o' ao)
  (hn : s.heap.objs.size ≤ a) (ho2 : h'.get? a = some o2) (r2 : OR (ρ ++ [a]) o2 ao2) (htk : 0 < tk) : St W (ρ ++ [a]) (σ.set i ao ++ [ao2]) G { s with heap := h', toks := tk } := by
 have ha := zI ea
 have le := Le.app ρ [a]
 have hi : i < σ.length := by rw [← x.len]; exact (zC ea).1
 have hnew : ∀ o, s.heap.get? a ≠ some o := fun o e => absurd (Heap.lt_size e) (Nat.not_lt.mpr hn)
 have n1 : a ∉ ρ := fun h => let ⟨o, e⟩ := x.there h; hnew o e
 have nB : W.B.get? a = none := by
  cases q : W.B.get? a with
  | none => rfl
  | some o => exact absurd (x.stays _ _ q) (hnew o)
 refine ⟨fun b o e => ?_, x.os, x.gens, by simp [x.len], fun j b bo e1 e2 => ?_, fun b hb => ?_, ?_, fun p hp => ?_, fun p hp => ⟨fun h => ?_, (x.lfresh p hp).2⟩, x.apart, htk⟩
 ·exact hs b o (fun q => by rw [q, x.fresh P ha] at e; exact nn e) (x.stays b o e)
 ·by_cases hj' : j < ρ.length
  ·rw [List.getElem?_append_left hj'] at e1
   rw [List.getElem?_append_left (by rw [List.length_set, ← x.len]; exact hj')] at e2
   by_cases hj : i = j
   ·subst hj
    rw [ea] at e1; obtain rfl := Option.some.inj e1
    rw [List.getElem?_set_self hi] at e2
    obtain rfl := Option.some.inj e2
    exact ⟨o', ho, r⟩
   ·rw [List.getElem?_set_ne hj] at e2
    refine xEA (x.objs j b bo e1 e2) fun o ho' r' => ?_
    exact ⟨o, hs _ _ (fun q => hj (nodup_get x.nodup ea (q ▸ e1))) ho', r'.mono le⟩
  ·have hj : j = ρ.length := by
    have := (zC e1).1
    simp at this; exact o12 hj' this
   subst hj
   rw [List.getElem?_append_right (Nat.le_refl _)] at e1
   rw [List.getElem?_append_right (by rw [List.length_set, x.len]; exact Nat.le_refl _)] at e2
   simp [x.len] at e1 e2
   subst e1 e2
   exact ⟨_, ho2, r2⟩
 ·rcases List.mem_append.mp hb with h | h
  ·exact x.fresh b h
  ·rw [zL h]; exact nB
 ·rw [List.nodup_append]
  exact ⟨x.nodup, by simp, fun b hb c hc e => by rw [zL hc] at e; exact n1 (e ▸ hb)⟩
 ·exact ((x.locs p hp).alike (.of fun o e => hs _ _ (fun q => (x.lfresh p hp).1 (by rw [q]; exact ha)) e)).mono le
 ·rcases List.mem_append.mp h with h | h
  ·exact (x.lfresh p hp).1 h
  ·obtain ⟨o, e⟩ := (x.locs p hp).there
   rw [zL h] at e
   exact hnew o e
noncomputable def pSubL (P : Addr) (lp : Pos) (i : Nat) : PE := fun (l : List AV) (h : AH) => match l[i]? with
 | some (.str t) => if t.length ≤ 10000 then match h[(0 : Nat)]? with
   | some (.tab P' lp' none) => if P' = P ∧ lp' = lp then some (.str (subM t), h.set 0 (.tab P lp (some h.length)) ++ [.code]) else none
   | some (.tab P' lp' (some n)) => match h[n]? with
    | some .code => if P' = P ∧ lp' = lp then some (.str (subM t), h) else none
    | _ => none
   | _ => none
  else none
 | _ => none
theorem CodeRec.q {h : Heap} {c : Addr} {q : Str} (x : h.CodeRec (.ref c) q) : CodeQ h c := by
 obtain ⟨c₂, oc, vs, t, e, a, b, d⟩ := x
 cases e
 exact ⟨oc, vs, q, t, a, b, d⟩
theorem EvOK.subLam {c P pa : Addr} (T : TabAt W c P) (hR : R.code = some (.ref c)) (hP : PatAt W.B pa) {x y : Str} {px py apos cpos lpos ppa p1 p2 p3 p4 p5 p6 p7 p8 : Pos} {i : Nat}
  (hg : R.globs.contains x = true) (hmg : W.mg x = some (.ref pa)) (hdx : (x == ("__debug__" : Str)) = false)
  (hbase : ∀ env, attributeBase (.Name x px) "sub" env (eval (.Name x px) env) = eval (.Name x px) env) (hline : (apos.endLine == cpos.line) = true)
  (hl2 : (p3.endLine == p5.line) = true) (hb2 : ∀ env, attributeBase (.Name "_m" p2) "group" env (eval (.Name "_m" p2) env) = eval (.Name "_m" p2) env)
  (hi : R.slots.lookup y = some i) (hd : (y == ("__debug__" : Str)) = false) (hcd : (y == ("__classdict__" : Str)) = false) :
  EvOK W R k (.Call (.Attribute (.Name x px) "sub" apos) [.Lambda (lamArgs ppa) (lamBody p1 p2 p3 p4 p5 p6 p7 p8) lamScope lpos, .Name y py] [] cpos) (pSubL P lpos i) := by
 intro A fs env locs l G ρ σ s cx eo hl st v σ' ev Q E hQ
 unfold pSubL at ev
 split at ev
 rotate_right
 ·exact nn ev
 rename_i t ei
 split at ev
 rotate_right
 ·exact nn ev
 rename_i hlen
 have hroom : A.depth < recursionLimit := by have := cx.depth; exact o9 this
 have hgl := EvOK.glob (W := W) (k := k) (pos := px) hg hmg hdx A fs env locs l G ρ σ s cx eo hl st
 refine wpAny_Call_method (hbase env) rfl hline plainAttrs_pat slot_pat_sub type_pat_sub (hgl (.fn pa) σ rfl _ _ fun ρ₁ s₁ c₁ le₁ r₁ st₁ => ?_)
 cases r₁
 have hP₁ : PatAt s₁.heap pa := hP.keeps st₁.stays
 obtain ⟨po, fs', ca, co, xs, n', q1, q2, q3, _⟩ := id hP₁
 refine ⟨⟨po, q1, q2⟩, fun a e => ?_, ?_⟩
 ·cases e; exact ⟨po, q1, q3⟩
 refine callWith_of (P := fun _ => True) rfl (fun hp _ => ⟨.machine, .inr (.inl rfl), .of_pure rfl⟩) ?_
 have after : ∀ ρ₂ σ₂ s₂ f, Le ρ ρ₂ → σ' = σ₂ → v = .str (subM t) → St W ρ₂ σ₂ (locs.zip l ++ G) s₂ → LamThere s₂.heap f →
   wpAny (model W.prog W.w) A (spliced (backTo cpos (starEach [Expr.Name y py] env))) (fun vs s₃ => True ∧ wpAny (model W.prog W.w) A (PySem.call (.builtin "re.Pattern.sub") ([.ref pa] ++ .ref f :: vs) []) Q E s₃) E s₂ := by
  intro ρ₂ σ₂ s₂ f le₂ es ev' st₂ hf
  subst es ev'
  refine xEA (eo.slots y i hi) fun loc el hs => ?_
  have hm : (loc, AV.str t) ∈ locs.zip l ++ G := zI (zip_get el ei)
  refine args_cons (wpAny_Name (loadName_slot eo.kind hs (st₂.locs _ hm) (by simp) (fun c r => ?_) hcd) hd) rfl
  obtain ⟨tk, rfl⟩ := r
  refine wpAny_items_nil ⟨trivial, wpAny_with_toks (n := 1) st₂.tk (sub_call hroom (W.nolimit.keeps st₂.stays) (hP.keeps st₂.stays) hf hlen fun h' n t' kp htk => ?_)⟩
  exact hQ ρ₂ _ _ le₂ ⟨t', rfl⟩ (st₂.keeps (h' := h') kp htk)
 have hg₁ := W.g.keeps st₁.stays
 have C₁ := T.hd.keeps st₁.stays
 obtain ⟨bm, ob, b1, b2, b3, b4, b5, b6, b7, b8⟩ := T.bmod
 have hb₁ : s₁.heap.BuiltinsAt W.mg P := ⟨bm, ob, b1, b2, b3, b4, st₁.stays _ _ b5, b6, b7, b8⟩
 have main : wpAny (model W.prog W.w) A (spliced (backTo cpos (starEach [Expr.Lambda (lamArgs ppa) (lamBody p1 p2 p3 p4 p5 p6 p7 p8) lamScope lpos, .Name y py] env)))
   (fun vs s₂ => True ∧ wpAny (model W.prog W.w) A (PySem.call (.builtin "re.Pattern.sub") ([.ref pa] ++ vs) []) Q E s₂) E s₁ := by
  refine args_cons (kla_eval rfl ?_) rfl
  split at ev
  rotate_right
  ·exact nn ev
  ·rename_i P' lp' e2
   split at ev
   rotate_right
   ·exact nn ev
   rename_i hc
   obtain ⟨rfl, rfl⟩ := hc
   obtain ⟨e0, ps, hPh, htr, hlam⟩ := st₁.tabAt e2
   refine wpAny_with_toks (n := 1) st₁.tk (kla_makeFunction (mg := W.mg) rfl eo.globals hg₁ (eo.code _ hR) C₁ hPh htr hlam T.ne hb₁ fun c' ctv h' tk hx hge hlt hrec htb htk => ?_)
   obtain ⟨c₂, oc, vsc, tc, ec, ac, bc, dc⟩ := id hrec
   cases ec
   have st₂ := st₁.regrowAlloc (tk := tk) (ao := .tab P' lp' (some σ.length)) (ao2 := .code) e0 hx htb
    (OR.tabI (Le.app _ _ _ _ e0) (by rw [Array.toList_append]; exact TriplesOk_snoc _ _ _ _ htr) ⟨c', by rw [← st₁.len, List.getElem?_append_right (Nat.le_refl _)]; simp, by rw [Array.toList_append]; exact codeAmong_snoc _ htr hlam⟩) hge
    ac ⟨vsc, _, tc, bc, dc⟩ htk
   refine after (ρ₁ ++ [c']) _ _ h'.objs.size (le₁.trans (Le.app _ _)) (t2b ev) (t2a ev) (st₂.push _ tk htk) ?_
   exact ⟨_, ppa, p1, p2, p3, p4, p5, p6, p7, p8, _, c', ctv, hl2, hb2, Heap.get?_push_size _ rfl, (CodeRec.q hrec).keeps fun b o e => Heap.get?_push_of_some _ e⟩
  ·rename_i P' lp' n e2
   split at ev
   rotate_right
   ·exact nn ev
   rename_i en
   split at ev
   rotate_right
   ·exact nn ev
   rename_i hc
   obtain ⟨rfl, rfl⟩ := hc
   obtain ⟨e0, ps, hPh, htr, hlam⟩ := st₁.tabAt e2
   refine xEA hlam fun c' ec hlam => ?_
   obtain ⟨a', o, ea', ho, vs, q, t', hd', hq⟩ := st₁.at en
   rw [ec] at ea'; replace ho := t1 ea' ▸ ho
   refine wpAny_with_toks (n := 1) st₁.tk (kla_makeFunctionHit (mg := W.mg) rfl eo.globals hg₁ (eo.code _ hR) C₁ hPh htr hlam hb₁ fun ctv h' tk hk hsz htk => ?_)
   have st₂ := st₁.keeps (h' := h') (tk := tk) hk htk
   refine after ρ₁ _ _ h'.objs.size le₁ (t2b ev) (t2a ev) (st₂.push _ tk htk) ?_
   exact ⟨_, ppa, p1, p2, p3, p4, p5, p6, p7, p8, _, c', ctv, hl2, hb2, Heap.get?_push_size _ rfl, ⟨o, vs, q, t', Heap.get?_push_of_some _ (hk _ _ ho), hd', hq⟩⟩
 exact evalArgs_plain main
end MD
noncomputable section ME
open PySem PySem.W PySem.Calls PyProof.Rows
noncomputable def stAt (i : Nat) : Option Stmt := PySem.Challenge.pw_ij0202_01.main.body[i]?
noncomputable def bodyAt (i : Nat) : List Stmt := match stAt i with | some (.FunctionDef (body := b) ..) => b | _ => []
noncomputable def argsAt (i : Nat) : Arguments := match stAt i with | some (.FunctionDef (args := a) ..) => a | _ => { posonlyargs := [], args := [], vararg := none, kwonlyargs := [], kw_defaults := [], kwarg := none, defaults := [] }
noncomputable def scopeAt (i : Nat) : Scope := match stAt i with | some (.FunctionDef (scope := s) ..) => s | _ => { kind := .module, names := [], isGenerator := false, isCoroutine := false }
theorem opt_any {α : Type} {o : Option α} {f : α → Bool} (h : o.any f = true) : ∃ q, o = some q ∧ f q = true := by
 cases o with
 | none => simp at h
 | some q => exact ⟨q, rfl, by simpa using h⟩
noncomputable def fnSpecB (scope : Scope) (own : List (Str × Bool)) (n : Nat) (R : Rs) : Bool :=
 decide (scope.kind = .function) && decide (scope.isCoroutine = false) && decide (scope.isGenerator = false) && decide (n ≤ own.length) && own.all (fun p => decide (scope.names.lookup p.1 = some (if p.2 then .cell else .local))) &&
 decide ((("." ++ "0" : Str) :: own.map (·.1)).Nodup) && R.slots.all (fun p => decide (1 ≤ p.2) && (own[p.2 - 1]?).any (fun q => decide (q.1 = p.1))) && R.globs.all (fun x => decide (scope.names.lookup x = some .globalImplicit)) &&
 R.loc.all (fun x => decide ((x, false) ∈ own)) && R.cel.all (fun x => decide ((x, true) ∈ own)) && R.capt.all (fun x => decide ((x, true) ∈ own))
theorem FnSpec.of_b {scope : Scope} {own : List (Str × Bool)} {n : Nat} {R : Rs} (h : fnSpecB scope own n R = true) : FnSpec scope own n R := by
 unfold fnSpecB at h
 simp only [Bool.and_eq_true, decide_eq_true_eq, List.all_eq_true] at h
 obtain ⟨⟨⟨⟨⟨⟨⟨⟨⟨⟨h1, h2⟩, h3⟩, h4⟩, h5⟩, h6⟩, h7⟩, h8⟩, h9⟩, h10⟩, h11⟩ := h
 refine ⟨h1, h2, h3, h4, h5, h6, fun p hp => ?_, h8, h9, h10, h11⟩
 obtain ⟨a, b⟩ := h7 p hp
 refine xEA (opt_any b) fun q e1 e2 => ?_
 exact ⟨q, e1, a, by simpa using e2⟩
noncomputable def compSpecB (scope : Scope) (own : List (Str × Bool)) (cap : List (Str × Nat)) (R R' : Rs) : Bool :=
 decide (scope.kind = .function) && decide (scope.isCoroutine = false) && scope.names.all (fun x => decide (x.2 ≠ .local) || decide (scope.names.lookup x.1 = some .local)) && decide (own.head? = some ((".0" : Str), false)) &&
 own.all (fun p => decide (scope.names.lookup p.1 = some (if p.2 then .cell else .local))) && decide ((own.map (·.1)).Nodup) && scope.names.all (fun p => decide (p.2 ≠ .free) || decide (p.1 ∈ cap.map (·.1))) &&
 cap.all (fun p => decide (scope.names.lookup p.1 = some .free) && decide (R.slots.lookup p.1 = some p.2) && R.capt.contains p.1) && scope.names.all (fun p => decide (p.2 ≠ .cell) || decide (p.1 ∈ own.map (·.1))) &&
 R'.slots.all (fun p => (own[p.2]?).any (fun q => decide (q.1 = p.1)) || cap.any (fun q => decide (q.1 = p.1) && decide (p.2 = own.length + q.2))) && R'.globs.all (fun x => decide (scope.names.lookup x = some .globalImplicit)) &&
 R'.loc.all (fun x => decide ((x, false) ∈ own)) && R'.cel.all (fun x => decide ((x, true) ∈ own)) && R'.capt.all (fun x => decide ((x, true) ∈ own) || decide (x ∈ cap.map (·.1))) && R'.code.isNone
theorem CompSpec.of {scope : Scope} {own : List (Str × Bool)} {cap : List (Str × Nat)} {R R' : Rs} (h : compSpecB scope own cap R R' = true) : CompSpec scope own cap R R' := by
 unfold compSpecB at h
 simp only [Bool.and_eq_true, Bool.or_eq_true, decide_eq_true_eq, List.all_eq_true] at h
 obtain ⟨⟨⟨⟨⟨⟨⟨⟨⟨⟨⟨⟨⟨⟨h1, h2⟩, h3⟩, h4⟩, h5⟩, h6⟩, h7⟩, h8⟩, h9⟩, h10⟩, h11⟩, h12⟩, h13⟩, h14⟩, h15⟩ := h
 refine ⟨h1, h2, fun x hx e => (h3 x hx).resolve_left fun h => h e, h4, h5, h6, fun p hp e => (h7 p hp).resolve_left fun h => h e, fun p hp => ?_, fun p hp e => (h9 p hp).resolve_left fun h => h e, fun p hp => ?_, h11, h12, h13, h14, by simpa using h15⟩
 ·obtain ⟨⟨a, b⟩, c⟩ := h8 p hp
  exact ⟨a, b, c⟩
 ·rcases h10 p hp with h | h
  ·refine xEA (opt_any h) fun q e1 e2 => ?_
   exact .inl ⟨q, e1, by simpa using e2⟩
  ·refine xEA (List.any_eq_true.mp h) fun q hq e => ?_
   simp only [Bool.and_eq_true, decide_eq_true_eq] at e
   exact .inr ⟨q, hq, e⟩
theorem storeAts_of {R : Rs} {ps : List (Str × Nat)} (h : ps.all (fun p => decide (R.slots.lookup p.1 = some p.2) && (R.loc.contains p.1 || R.cel.contains p.1)) = true) : ∀ p ∈ ps, StoreAt R p.1 p.2 := by
 intro p hp
 have := List.all_eq_true.mp h p hp
 simp only [Bool.and_eq_true, Bool.or_eq_true, decide_eq_true_eq] at this
 exact ⟨this.1, this.2⟩
theorem swaps_cel {R : Rs} {x : Str} {p : Pos} {line : Nat} {elt : Expr} {gens : List Comprehension} {scope : Scope} {cpos : Pos} (h : R.cel.contains x = true) : ∀ env locs, EnvOK R env locs → swapsWith (.ListComp elt gens scope cpos) (some (.Name x p)) line env = pure false := by
 intro env locs eo
 have hk := eo.cel x h
 unfold swapsWith
 simp only [hk]
 have : ((some NameKind.cell : Option NameKind) == some NameKind.local) = false := by decide
 simp [this]
theorem swaps_loc {x : Str} {p : Pos} {line : Nat} {elt : Expr} {gens : List Comprehension} {scope : Scope} {cpos : Pos} {env : Env} (h1 : env.scope.kind = .function) (h2 : env.kindOf x = some .local) (h3 : p.line = cpos.line)
  (h4 : (scope.names.any fun n => n.1 == x && (n.2 == .local || n.2 == .cell)) = false) : swapsWith (.ListComp elt gens scope cpos) (some (.Name x p)) line env = pure true := by
 unfold swapsWith
 simp only [h2]
 have e1 : (env.blockKind == .function) = true := by unfold Env.blockKind; simp [h1]
 have e2 : (p.line == (Expr.ListComp elt gens scope cpos).pos.line) = true := by show (p.line == cpos.line) = true; simp [h3]
 simp only [e1, e2]
 simp only [h4]
 rfl
theorem swapped_two {n1 n2 : Str} {p1 p2 tpos pos2 : Pos} {j j2 : Nat} {v1 v2 : Expr} {env : Env} (h1 : env.scope.kind = .function) (h2 : env.kindOf n1 = some .local) (h3 : env.kindOf n2 = some .local) (hl : p1.line = p2.line) (hne : n1 ≠ n2)
  (ha : ([v1, v2].any fun | .Starred .. => true | _ => false) = false) (hb : ([v1, v2].all (foldedForSure 8)) = false) (hc : ([v1, v2].all (constantsAlone 8)) = false) :
  swappedStores [.Tuple [.Name n1 p1, .Name n2 p2] j tpos] (.Tuple [v1, v2] j2 pos2) env = pure (some [n1, n2]) := by
 unfold swappedStores
 have e1 : (env.blockKind != .function) = false := by unfold Env.blockKind; simp [h1]
 dsimp only
 rw [hb, hc, if_neg (by simp [e1]), if_neg]
 rotate_left
 ·exact Bool.eq_false_iff.mp ha
 have hed : ([n1, n2] : List Str).eraseDups.length = 2 := by
  have h12 : (n2 == n1) = false := by simpa using fun h => hne h.symm
  simp [List.eraseDups_cons, h12]
 have hp : (Option.map (fun x => x.pos.line) [Expr.Name n1 p1, Expr.Name n2 p2].head?).getD 0 = p1.line := rfl
 rw [hp]
 have hf : ∀ (f : Expr → Option Str), f (.Name n1 p1) = some n1 → f (.Name n2 p2) = some n2 → List.filterMap f [.Name n1 p1, .Name n2 p2] = [n1, n2] := fun f a b => by simp [List.filterMap, a, b]
 rw [hf _ (by simp [h2]) (by simp [h3, hl])]
 rw [hed]
 rfl
end ME
noncomputable section MF
open PySem PySem.W PySem.Calls PyProof.Rows
set_option maxHeartbeats 4000000
variable {W : Wd}
noncomputable def theDefs : List (Str × Nat) := [("unorderable_list_difference", 2), ("translate", 5), ("_translate", 10), ("_join_translated_parts", 11), ("heappush", 13), ("heappop", 14), ("_siftdown", 15), ("_siftup", 16), ("_law_sign", 18), ("_law_class", 19), ("_law_within", 20), ("_law_classes", 21), ("_law_written", 22), ("_law_bracket", 23), ("_law_orders", 24), ("_law_size", 25), ("_law_amount", 26), ("_law_agree", 27), ("law", 28)]
noncomputable def theFree : List Str := ["len", "ord", "chr", "sorted", "list", "object", "int", "range", "enumerate", "zip", "ValueError"]
set_option genInjectivity false in
set_option genSizeOf false in
structure Given (W : Wd) where
 P : Addr
 c : Addr
 pa : Addr
 a : Str → Addr
 tab : TabAt W c P
 pat : PatAt W.B pa
 g_twin : W.mg "_twin_re_1" = some (.ref pa)
 fn : ∀ (k : Nat) {n : Str} {i : Nat}, theDefs[k]? = some (n, i) → W.mg n = some (.ref (a n)) ∧ DefAt W (a n) n (argsAt i) (bodyAt i) (scopeAt i)
 nb : ∀ (k : Nat) {x : Str}, theFree[k]? = some x → W.mg x = none
 code : ∀ c' pm cd doc o, (some (Value.ref c)) = some c' → W.B.get? (a "_translate") = some o → o.data = .func (docDef "_translate" (argsAt 10) (bodyAt 10) (scopeAt 10) pm cd doc) → cd = c'
noncomputable def R_usd : Rs := { slots := [("heap", 1), ("startpos", 2), ("pos", 3), ("newitem", 4), ("parentpos", 5), ("parent", 6)], globs := [], loc := ["heap", "startpos", "pos", "newitem", "parentpos", "parent"], cel := [], capt := [] }
theorem sl_usd_heap : R_usd.slots.lookup ("heap" : Str) = some 1 := (show R_usd.slots.lookup ("heap" : Str) = some 1 from (by decide +kernel))
theorem sl_usd_newitem : R_usd.slots.lookup ("newitem" : Str) = some 4 := (show R_usd.slots.lookup ("newitem" : Str) = some 4 from (by decide +kernel))
theorem sl_usd_parent : R_usd.slots.lookup ("parent" : Str) = some 6 := (show R_usd.slots.lookup ("parent" : Str) = some 6 from (by decide +kernel))
theorem sl_usd_parentpos : R_usd.slots.lookup ("parentpos" : Str) = some 5 := (show R_usd.slots.lookup ("parentpos" : Str) = some 5 from (by decide +kernel))
theorem sl_usd_pos : R_usd.slots.lookup ("pos" : Str) = some 3 := (show R_usd.slots.lookup ("pos" : Str) = some 3 from (by decide +kernel))
theorem sl_usd_startpos : R_usd.slots.lookup ("startpos" : Str) = some 2 := (show R_usd.slots.lookup ("startpos" : Str) = some 2 from (by decide +kernel))
theorem lc_usd_newitem : R_usd.loc.contains ("newitem" : Str) = true := (show R_usd.loc.contains ("newitem" : Str) = true from (by decide +kernel))
theorem lc_usd_parent : R_usd.loc.contains ("parent" : Str) = true := (show R_usd.loc.contains ("parent" : Str) = true from (by decide +kernel))
theorem lc_usd_parentpos : R_usd.loc.contains ("parentpos" : Str) = true := (show R_usd.loc.contains ("parentpos" : Str) = true from (by decide +kernel))
theorem lc_usd_pos : R_usd.loc.contains ("pos" : Str) = true := (show R_usd.loc.contains ("pos" : Str) = true from (by decide +kernel))
theorem v_usd_heap {pos : Pos} {k : Nat} : EvOK W R_usd k (.Name "heap" pos) (pVar 1) := EvOK.var sl_usd_heap (by decide +kernel) (by decide +kernel)
theorem v_usd_newitem {pos : Pos} {k : Nat} : EvOK W R_usd k (.Name "newitem" pos) (pVar 4) := EvOK.var sl_usd_newitem (by decide +kernel) (by decide +kernel)
theorem v_usd_parent {pos : Pos} {k : Nat} : EvOK W R_usd k (.Name "parent" pos) (pVar 6) := EvOK.var sl_usd_parent (by decide +kernel) (by decide +kernel)
theorem v_usd_parentpos {pos : Pos} {k : Nat} : EvOK W R_usd k (.Name "parentpos" pos) (pVar 5) := EvOK.var sl_usd_parentpos (by decide +kernel) (by decide +kernel)
theorem v_usd_pos {pos : Pos} {k : Nat} : EvOK W R_usd k (.Name "pos" pos) (pVar 3) := EvOK.var sl_usd_pos (by decide +kernel) (by decide +kernel)
theorem v_usd_startpos {pos : Pos} {k : Nat} : EvOK W R_usd k (.Name "startpos" pos) (pVar 2) := EvOK.var sl_usd_startpos (by decide +kernel) (by decide +kernel)
theorem s_usd_newitem : StoreAt R_usd "newitem" 4 := ⟨sl_usd_newitem, .inl lc_usd_newitem⟩
theorem s_usd_parent : StoreAt R_usd "parent" 6 := ⟨sl_usd_parent, .inl lc_usd_parent⟩
theorem s_usd_parentpos : StoreAt R_usd "parentpos" 5 := ⟨sl_usd_parentpos, .inl lc_usd_parentpos⟩
theorem s_usd_pos : StoreAt R_usd "pos" 3 := ⟨sl_usd_pos, .inl lc_usd_pos⟩
noncomputable def own_usd : List (Str × Bool) := [("heap", false), ("startpos", false), ("pos", false), ("newitem", false), ("parentpos", false), ("parent", false)]
noncomputable def F_usd : PS := (sSeq (sAsg 4 (pBin aItem (pVar 1) (pVar 3))) (sSeq (sWhile (pCmpB cGt (pVar 3) (pVar 2)) (sSeq (sAsg 5 (pBin oShr (pBin oSub (pVar 3) (pConst (.int 1))) (pConst (.int 1)))) (sSeq (sAsg 6 (pBin aItem (pVar 1) (pVar 5))) (sSeq (sIf (pCmpB cLt (pVar 4) (pVar 6)) (sSeq (sSet (pVar 1) (pVar 3) (pVar 6)) (sSeq (sAsg 3 (pVar 5)) (sSeq (sCont) (sNil)))) (sNil)) (sSeq (sBrk) (sNil)))))) (sSeq (sSet (pVar 1) (pVar 3) (pVar 4)) (sNil))))
theorem fs_usd (H : Given W) : FsOK W R_usd 0 (bodyAt 15) (F_usd) :=
 (FsOK.cons (ExOK.asg s_usd_newitem (EvOK.item v_usd_heap v_usd_pos) (fun _ _ _ => rfl)) (FsOK.cons (ExOK.while (BtOK.cmp gt_ok v_usd_pos v_usd_startpos rfl) (FsOK.cons (ExOK.asg s_usd_parentpos (EvOK.bin shr_ok (EvOK.bin sub_ok v_usd_pos EvOK.int) EvOK.int) (fun _ _ _ => rfl)) (FsOK.cons (ExOK.asg s_usd_parent (EvOK.item v_usd_heap v_usd_parentpos) (fun _ _ _ => rfl)) (FsOK.cons (ExOK.ite (BtOK.cmp lt_ok v_usd_newitem v_usd_parent rfl) (FsOK.cons (ExOK.setIt v_usd_heap v_usd_pos v_usd_parent (fun _ => rfl)) (FsOK.cons (ExOK.asg s_usd_pos v_usd_parentpos (fun _ _ _ => rfl)) (FsOK.cons ExOK.cont FsOK.nil))) FsOK.nil) (FsOK.cons ExOK.brk FsOK.nil))))) (FsOK.cons (ExOK.setIt v_usd_heap v_usd_pos v_usd_newitem (fun _ => rfl)) FsOK.nil)))
theorem sp_usd : FnSpec (scopeAt 15) own_usd 3 R_usd := FnSpec.of_b (show fnSpecB (scopeAt 15) own_usd 3 R_usd = true from (by decide +kernel))
noncomputable def P_usd : PF := bodyF 3 6 (F_usd)
theorem ok_usd (H : Given W) : CallOK W 1 (H.a "_siftdown") (P_usd) := CallOK.of_body (H.fn 6 rfl).2 sp_usd (fs_usd H) (fun vals hv pm code doc => by
 obtain ⟨x0, x1, x2, rfl⟩ := len3 hv; rfl)
noncomputable def R_heappush : Rs := { slots := [("heap", 1), ("item", 2)], globs := ["len", "_siftdown"], loc := ["heap", "item"], cel := [], capt := [] }
theorem sl_heappush_heap : R_heappush.slots.lookup ("heap" : Str) = some 1 := (show R_heappush.slots.lookup ("heap" : Str) = some 1 from (by decide +kernel))
theorem sl_heappush_item : R_heappush.slots.lookup ("item" : Str) = some 2 := (show R_heappush.slots.lookup ("item" : Str) = some 2 from (by decide +kernel))
theorem gl_heappush_usd : R_heappush.globs.contains ("_siftdown" : Str) = true := (show R_heappush.globs.contains ("_siftdown" : Str) = true from (by decide +kernel))
theorem gl_heappush_len : R_heappush.globs.contains ("len" : Str) = true := (show R_heappush.globs.contains ("len" : Str) = true from (by decide +kernel))
theorem v_heappush_heap {pos : Pos} {k : Nat} : EvOK W R_heappush k (.Name "heap" pos) (pVar 1) := EvOK.var sl_heappush_heap (by decide +kernel) (by decide +kernel)
theorem v_heappush_item {pos : Pos} {k : Nat} : EvOK W R_heappush k (.Name "item" pos) (pVar 2) := EvOK.var sl_heappush_item (by decide +kernel) (by decide +kernel)
noncomputable def own_heappush : List (Str × Bool) := [("heap", false), ("item", false)]
noncomputable def F_heappush : PS := (sSeq (sExpr (pMeth .list mAppend (pVar 1) [pVar 2])) (sSeq (sExpr (pCall (P_usd) [pVar 1, (pConst (.int 0)), (pBin oSub (pCall fLen [pVar 1]) (pConst (.int 1)))])) (sNil)))
theorem fs_heappush (H : Given W) : FsOK W R_heappush 1 (bodyAt 13) (F_heappush) :=
 (FsOK.cons (ExOK.expr (EvOK.meth (t := .list) F.plainAttrs_list F.slot_list_append F.type_list_append (fun _ => rfl) rfl (by decide +kernel) append_meth v_heappush_heap (.cons v_heappush_item (fun _ _ => rfl) .nil)) (fun _ => rfl)) (FsOK.cons (ExOK.expr (EvOK.call gl_heappush_usd (H.fn 6 rfl).1 (by decide +kernel) (H.fn 6 rfl).2.fn (ok_usd H) (by decide) (.cons v_heappush_heap (fun _ _ => rfl) (.cons EvOK.int (fun _ _ => rfl) (.cons (EvOK.bin sub_ok (EvOK.callB gl_heappush_len (H.nb 0 rfl) (by decide +kernel) (by decide +kernel) (by decide +kernel) len_fun (.cons v_heappush_heap (fun _ _ => rfl) .nil)) EvOK.int) (fun _ _ => rfl) .nil)))) (fun _ => rfl)) FsOK.nil))
theorem sp_heappush : FnSpec (scopeAt 13) own_heappush 2 R_heappush := FnSpec.of_b (show fnSpecB (scopeAt 13) own_heappush 2 R_heappush = true from (by decide +kernel))
noncomputable def P_heappush : PF := bodyF 2 2 (F_heappush)
theorem ok_heappush (H : Given W) : CallOK W 2 (H.a "heappush") (P_heappush) := CallOK.of_body (H.fn 4 rfl).2 sp_heappush (fs_heappush H) (fun vals hv pm code doc => by
 obtain ⟨x0, x1, rfl⟩ := len2 hv; rfl)
noncomputable def R_usu : Rs := { slots := [("heap", 1), ("pos", 2), ("endpos", 3), ("startpos", 4), ("newitem", 5), ("childpos", 6), ("rightpos", 7)], globs := ["len", "_siftdown"], loc := ["heap", "pos", "endpos", "startpos", "newitem", "childpos", "rightpos"], cel := [], capt := [] }
theorem sl_usu_childpos : R_usu.slots.lookup ("childpos" : Str) = some 6 := (show R_usu.slots.lookup ("childpos" : Str) = some 6 from (by decide +kernel))
theorem sl_usu_endpos : R_usu.slots.lookup ("endpos" : Str) = some 3 := (show R_usu.slots.lookup ("endpos" : Str) = some 3 from (by decide +kernel))
theorem sl_usu_heap : R_usu.slots.lookup ("heap" : Str) = some 1 := (show R_usu.slots.lookup ("heap" : Str) = some 1 from (by decide +kernel))
theorem sl_usu_newitem : R_usu.slots.lookup ("newitem" : Str) = some 5 := (show R_usu.slots.lookup ("newitem" : Str) = some 5 from (by decide +kernel))
theorem sl_usu_pos : R_usu.slots.lookup ("pos" : Str) = some 2 := (show R_usu.slots.lookup ("pos" : Str) = some 2 from (by decide +kernel))
theorem sl_usu_rightpos : R_usu.slots.lookup ("rightpos" : Str) = some 7 := (show R_usu.slots.lookup ("rightpos" : Str) = some 7 from (by decide +kernel))
theorem sl_usu_startpos : R_usu.slots.lookup ("startpos" : Str) = some 4 := (show R_usu.slots.lookup ("startpos" : Str) = some 4 from (by decide +kernel))
theorem gl_usu_usd : R_usu.globs.contains ("_siftdown" : Str) = true := (show R_usu.globs.contains ("_siftdown" : Str) = true from (by decide +kernel))
theorem gl_usu_len : R_usu.globs.contains ("len" : Str) = true := (show R_usu.globs.contains ("len" : Str) = true from (by decide +kernel))
theorem lc_usu_childpos : R_usu.loc.contains ("childpos" : Str) = true := (show R_usu.loc.contains ("childpos" : Str) = true from (by decide +kernel))
theorem lc_usu_endpos : R_usu.loc.contains ("endpos" : Str) = true := (show R_usu.loc.contains ("endpos" : Str) = true from (by decide +kernel))
theorem lc_usu_newitem : R_usu.loc.contains ("newitem" : Str) = true := (show R_usu.loc.contains ("newitem" : Str) = true from (by decide +kernel))
theorem lc_usu_pos : R_usu.loc.contains ("pos" : Str) = true := (show R_usu.loc.contains ("pos" : Str) = true from (by decide +kernel))
theorem lc_usu_rightpos : R_usu.loc.contains ("rightpos" : Str) = true := (show R_usu.loc.contains ("rightpos" : Str) = true from (by decide +kernel))
theorem lc_usu_startpos : R_usu.loc.contains ("startpos" : Str) = true := (show R_usu.loc.contains ("startpos" : Str) = true from (by decide +kernel))
theorem v_usu_childpos {pos : Pos} {k : Nat} : EvOK W R_usu k (.Name "childpos" pos) (pVar 6) := EvOK.var sl_usu_childpos (by decide +kernel) (by decide +kernel)
theorem v_usu_endpos {pos : Pos} {k : Nat} : EvOK W R_usu k (.Name "endpos" pos) (pVar 3) := EvOK.var sl_usu_endpos (by decide +kernel) (by decide +kernel)
theorem v_usu_heap {pos : Pos} {k : Nat} : EvOK W R_usu k (.Name "heap" pos) (pVar 1) := EvOK.var sl_usu_heap (by decide +kernel) (by decide +kernel)
theorem v_usu_newitem {pos : Pos} {k : Nat} : EvOK W R_usu k (.Name "newitem" pos) (pVar 5) := EvOK.var sl_usu_newitem (by decide +kernel) (by decide +kernel)
theorem v_usu_pos {pos : Pos} {k : Nat} : EvOK W R_usu k (.Name "pos" pos) (pVar 2) := EvOK.var sl_usu_pos (by decide +kernel) (by decide +kernel)
theorem v_usu_rightpos {pos : Pos} {k : Nat} : EvOK W R_usu k (.Name "rightpos" pos) (pVar 7) := EvOK.var sl_usu_rightpos (by decide +kernel) (by decide +kernel)
theorem v_usu_startpos {pos : Pos} {k : Nat} : EvOK W R_usu k (.Name "startpos" pos) (pVar 4) := EvOK.var sl_usu_startpos (by decide +kernel) (by decide +kernel)
theorem s_usu_childpos : StoreAt R_usu "childpos" 6 := ⟨sl_usu_childpos, .inl lc_usu_childpos⟩
theorem s_usu_endpos : StoreAt R_usu "endpos" 3 := ⟨sl_usu_endpos, .inl lc_usu_endpos⟩
theorem s_usu_newitem : StoreAt R_usu "newitem" 5 := ⟨sl_usu_newitem, .inl lc_usu_newitem⟩
theorem s_usu_pos : StoreAt R_usu "pos" 2 := ⟨sl_usu_pos, .inl lc_usu_pos⟩
theorem s_usu_rightpos : StoreAt R_usu "rightpos" 7 := ⟨sl_usu_rightpos, .inl lc_usu_rightpos⟩
theorem s_usu_startpos : StoreAt R_usu "startpos" 4 := ⟨sl_usu_startpos, .inl lc_usu_startpos⟩
noncomputable def own_usu : List (Str × Bool) := [("heap", false), ("pos", false), ("endpos", false), ("startpos", false), ("newitem", false), ("childpos", false), ("rightpos", false)]
noncomputable def F_usu : PS := (sSeq (sAsg 3 (pCall fLen [pVar 1])) (sSeq (sAsg 4 (pVar 2)) (sSeq (sAsg 5 (pBin aItem (pVar 1) (pVar 2))) (sSeq (sAsg 6 (pBin oAdd (pBin oMul (pConst (.int 2)) (pVar 2)) (pConst (.int 1)))) (sSeq (sWhile (pCmpB cLt (pVar 6) (pVar 3)) (sSeq (sAsg 7 (pBin oAdd (pVar 6) (pConst (.int 1)))) (sSeq (sIf (pAndB (pCmpB cLt (pVar 7) (pVar 3)) (pNot (pCmpB cLt (pBin aItem (pVar 1) (pVar 6)) (pBin aItem (pVar 1) (pVar 7))))) (sSeq (sAsg 6 (pVar 7)) (sNil)) (sNil)) (sSeq (sSet (pVar 1) (pVar 2) (pBin aItem (pVar 1) (pVar 6))) (sSeq (sAsg 2 (pVar 6)) (sSeq (sAsg 6 (pBin oAdd (pBin oMul (pConst (.int 2)) (pVar 2)) (pConst (.int 1)))) (sNil))))))) (sSeq (sSet (pVar 1) (pVar 2) (pVar 5)) (sSeq (sExpr (pCall (P_usd) [pVar 1, pVar 4, pVar 2])) (sNil))))))))
theorem fs_usu (H : Given W) : FsOK W R_usu 1 (bodyAt 16) (F_usu) :=
 (FsOK.cons (ExOK.asg s_usu_endpos (EvOK.callB gl_usu_len (H.nb 0 rfl) (by decide +kernel) (by decide +kernel) (by decide +kernel) len_fun (.cons v_usu_heap (fun _ _ => rfl) .nil)) (fun _ _ _ => rfl)) (FsOK.cons (ExOK.asg s_usu_startpos v_usu_pos (fun _ _ _ => rfl)) (FsOK.cons (ExOK.asg s_usu_newitem (EvOK.item v_usu_heap v_usu_pos) (fun _ _ _ => rfl)) (FsOK.cons (ExOK.asg s_usu_childpos (EvOK.bin add_ok (EvOK.bin mul_ok EvOK.int v_usu_pos) EvOK.int) (fun _ _ _ => rfl)) (FsOK.cons (ExOK.while (BtOK.cmp lt_ok v_usu_childpos v_usu_endpos rfl) (FsOK.cons (ExOK.asg s_usu_rightpos (EvOK.bin add_ok v_usu_childpos EvOK.int) (fun _ _ _ => rfl)) (FsOK.cons (ExOK.ite (BtOK.and (BtOK.cmp lt_ok v_usu_rightpos v_usu_endpos rfl) (BtOK.not (BtOK.cmp lt_ok (EvOK.item v_usu_heap v_usu_childpos) (EvOK.item v_usu_heap v_usu_rightpos) rfl))) (FsOK.cons (ExOK.asg s_usu_childpos v_usu_rightpos (fun _ _ _ => rfl)) FsOK.nil) FsOK.nil) (FsOK.cons (ExOK.setIt v_usu_heap v_usu_pos (EvOK.item v_usu_heap v_usu_childpos) (fun _ => rfl)) (FsOK.cons (ExOK.asg s_usu_pos v_usu_childpos (fun _ _ _ => rfl)) (FsOK.cons (ExOK.asg s_usu_childpos (EvOK.bin add_ok (EvOK.bin mul_ok EvOK.int v_usu_pos) EvOK.int) (fun _ _ _ => rfl)) FsOK.nil)))))) (FsOK.cons (ExOK.setIt v_usu_heap v_usu_pos v_usu_newitem (fun _ => rfl)) (FsOK.cons (ExOK.expr (EvOK.call gl_usu_usd (H.fn 6 rfl).1 (by decide +kernel) (H.fn 6 rfl).2.fn (ok_usd H) (by decide) (.cons v_usu_heap (fun _ _ => rfl) (.cons v_usu_startpos (fun _ _ => rfl) (.cons v_usu_pos (fun _ _ => rfl) .nil)))) (fun _ => rfl)) FsOK.nil)))))))
theorem sp_usu : FnSpec (scopeAt 16) own_usu 2 R_usu := FnSpec.of_b (show fnSpecB (scopeAt 16) own_usu 2 R_usu = true from (by decide +kernel))
noncomputable def P_usu : PF := bodyF 2 7 (F_usu)
theorem ok_usu (H : Given W) : CallOK W 2 (H.a "_siftup") (P_usu) := CallOK.of_body (H.fn 7 rfl).2 sp_usu (fs_usu H) (fun vals hv pm code doc => by
 obtain ⟨x0, x1, rfl⟩ := len2 hv; rfl)
noncomputable def R_heappop : Rs := { slots := [("heap", 1), ("lastelt", 2), ("returnitem", 3)], globs := ["_siftup"], loc := ["heap", "lastelt", "returnitem"], cel := [], capt := [] }
theorem sl_heappop_heap : R_heappop.slots.lookup ("heap" : Str) = some 1 := (show R_heappop.slots.lookup ("heap" : Str) = some 1 from (by decide +kernel))
theorem sl_heappop_lastelt : R_heappop.slots.lookup ("lastelt" : Str) = some 2 := (show R_heappop.slots.lookup ("lastelt" : Str) = some 2 from (by decide +kernel))
theorem sl_heappop_returnitem : R_heappop.slots.lookup ("returnitem" : Str) = some 3 := (show R_heappop.slots.lookup ("returnitem" : Str) = some 3 from (by decide +kernel))
theorem gl_heappop_usu : R_heappop.globs.contains ("_siftup" : Str) = true := (show R_heappop.globs.contains ("_siftup" : Str) = true from (by decide +kernel))
theorem lc_heappop_lastelt : R_heappop.loc.contains ("lastelt" : Str) = true := (show R_heappop.loc.contains ("lastelt" : Str) = true from (by decide +kernel))
theorem lc_heappop_returnitem : R_heappop.loc.contains ("returnitem" : Str) = true := (show R_heappop.loc.contains ("returnitem" : Str) = true from (by decide +kernel))
theorem v_heappop_heap {pos : Pos} {k : Nat} : EvOK W R_heappop k (.Name "heap" pos) (pVar 1) := EvOK.var sl_heappop_heap (by decide +kernel) (by decide +kernel)
theorem v_heappop_lastelt {pos : Pos} {k : Nat} : EvOK W R_heappop k (.Name "lastelt" pos) (pVar 2) := EvOK.var sl_heappop_lastelt (by decide +kernel) (by decide +kernel)
theorem v_heappop_returnitem {pos : Pos} {k : Nat} : EvOK W R_heappop k (.Name "returnitem" pos) (pVar 3) := EvOK.var sl_heappop_returnitem (by decide +kernel) (by decide +kernel)
theorem s_heappop_lastelt : StoreAt R_heappop "lastelt" 2 := ⟨sl_heappop_lastelt, .inl lc_heappop_lastelt⟩
theorem s_heappop_returnitem : StoreAt R_heappop "returnitem" 3 := ⟨sl_heappop_returnitem, .inl lc_heappop_returnitem⟩
noncomputable def own_heappop : List (Str × Bool) := [("heap", false), ("lastelt", false), ("returnitem", false)]
noncomputable def F_heappop : PS := (sSeq (sAsg 2 (pMeth .list mPop (pVar 1) [])) (sSeq (sIf (pTruth (pVar 1)) (sSeq (sAsg 3 (pBin aItem (pVar 1) (pConst (.int 0)))) (sSeq (sSet (pVar 1) (pConst (.int 0)) (pVar 2)) (sSeq (sExpr (pCall (P_usu) [pVar 1, (pConst (.int 0))])) (sSeq (sRet (pVar 3)) (sNil))))) (sNil)) (sSeq (sRet (pVar 2)) (sNil))))
theorem fs_heappop (H : Given W) : FsOK W R_heappop 2 (bodyAt 14) (F_heappop) :=
 (FsOK.cons (ExOK.asg s_heappop_lastelt (EvOK.meth (t := .list) F.plainAttrs_list F.slot_list_pop F.type_list_pop (fun _ => rfl) rfl (by decide +kernel) pop_meth v_heappop_heap .nil) (fun _ _ _ => rfl)) (FsOK.cons (ExOK.ite (BtOK.val' v_heappop_heap (fun _ _ => rfl)) (FsOK.cons (ExOK.asg s_heappop_returnitem (EvOK.item v_heappop_heap EvOK.int) (fun _ _ _ => rfl)) (FsOK.cons (ExOK.setIt v_heappop_heap EvOK.int v_heappop_lastelt (fun _ => rfl)) (FsOK.cons (ExOK.expr (EvOK.call gl_heappop_usu (H.fn 7 rfl).1 (by decide +kernel) (H.fn 7 rfl).2.fn (ok_usu H) (by decide) (.cons v_heappop_heap (fun _ _ => rfl) (.cons EvOK.int (fun _ _ => rfl) .nil))) (fun _ => rfl)) (FsOK.cons (ExOK.ret v_heappop_returnitem) FsOK.nil)))) FsOK.nil) (FsOK.cons (ExOK.ret v_heappop_lastelt) FsOK.nil)))
theorem sp_heappop : FnSpec (scopeAt 14) own_heappop 1 R_heappop := FnSpec.of_b (show fnSpecB (scopeAt 14) own_heappop 1 R_heappop = true from (by decide +kernel))
noncomputable def P_heappop : PF := bodyF 1 3 (F_heappop)
theorem ok_heappop (H : Given W) : CallOK W 3 (H.a "heappop") (P_heappop) := CallOK.of_body (H.fn 5 rfl).2 sp_heappop (fs_heappop H) (fun vals hv pm code doc => by
 obtain ⟨x0, rfl⟩ := len1 hv; rfl)
noncomputable def R_uldf : Rs := { slots := [("expected", 1), ("actual", 2), ("missing", 3), ("item", 4)], globs := ["ValueError"], loc := ["expected", "actual", "missing", "item"], cel := [], capt := [] }
theorem sl_uldf_actual : R_uldf.slots.lookup ("actual" : Str) = some 2 := (show R_uldf.slots.lookup ("actual" : Str) = some 2 from (by decide +kernel))
theorem sl_uldf_expected : R_uldf.slots.lookup ("expected" : Str) = some 1 := (show R_uldf.slots.lookup ("expected" : Str) = some 1 from (by decide +kernel))
theorem sl_uldf_item : R_uldf.slots.lookup ("item" : Str) = some 4 := (show R_uldf.slots.lookup ("item" : Str) = some 4 from (by decide +kernel))
theorem sl_uldf_missing : R_uldf.slots.lookup ("missing" : Str) = some 3 := (show R_uldf.slots.lookup ("missing" : Str) = some 3 from (by decide +kernel))
theorem gl_uldf_ValueError : R_uldf.globs.contains ("ValueError" : Str) = true := (show R_uldf.globs.contains ("ValueError" : Str) = true from (by decide +kernel))
theorem lc_uldf_item : R_uldf.loc.contains ("item" : Str) = true := (show R_uldf.loc.contains ("item" : Str) = true from (by decide +kernel))
theorem lc_uldf_missing : R_uldf.loc.contains ("missing" : Str) = true := (show R_uldf.loc.contains ("missing" : Str) = true from (by decide +kernel))
theorem v_uldf_actual {pos : Pos} {k : Nat} : EvOK W R_uldf k (.Name "actual" pos) (pVar 2) := EvOK.var sl_uldf_actual (by decide +kernel) (by decide +kernel)
theorem v_uldf_expected {pos : Pos} {k : Nat} : EvOK W R_uldf k (.Name "expected" pos) (pVar 1) := EvOK.var sl_uldf_expected (by decide +kernel) (by decide +kernel)
theorem v_uldf_missing {pos : Pos} {k : Nat} : EvOK W R_uldf k (.Name "missing" pos) (pVar 3) := EvOK.var sl_uldf_missing (by decide +kernel) (by decide +kernel)
theorem s_uldf_item : StoreAt R_uldf "item" 4 := ⟨sl_uldf_item, .inl lc_uldf_item⟩
theorem s_uldf_missing : StoreAt R_uldf "missing" 3 := ⟨sl_uldf_missing, .inl lc_uldf_missing⟩
noncomputable def own_uldf : List (Str × Bool) := [("expected", false), ("actual", false), ("missing", false), ("item", false)]
noncomputable def F_uldf : PS := (sSeq (sAsg 3 (pList [])) (sSeq (sWhile (pTruth (pVar 1)) (sSeq (sAsg 4 (pMeth .list mPop (pVar 1) [])) (sSeq (sTry 2 4 3) (sNil)))) (sSeq (sRet (pTup [pVar 3, pVar 2])) (sNil))))
theorem fs_uldf (H : Given W) : FsOK W R_uldf 0 (bodyAt 2) (F_uldf) :=
 (FsOK.cons (ExOK.asg s_uldf_missing (EvOK.list .nil (by decide +kernel)) (fun _ _ _ => rfl)) (FsOK.cons (ExOK.while (BtOK.val' v_uldf_expected (fun _ _ => rfl)) (FsOK.cons (ExOK.asg s_uldf_item (EvOK.meth (t := .list) F.plainAttrs_list F.slot_list_pop F.type_list_pop (fun _ => rfl) rfl (by decide +kernel) pop_meth v_uldf_expected .nil) (fun _ _ _ => rfl)) (FsOK.cons (ExOK.tryRemove F.plainAttrs_list (by decide +kernel) (by decide +kernel) (by decide +kernel) (by decide +kernel) (by decide +kernel) (by decide +kernel) sl_uldf_actual sl_uldf_item sl_uldf_missing gl_uldf_ValueError (H.nb 10 rfl) rfl rfl) FsOK.nil))) (FsOK.cons (ExOK.ret (EvOK.tup (.cons v_uldf_missing (fun _ _ => rfl) (.cons v_uldf_actual (fun _ _ => rfl) .nil)) (by decide +kernel))) FsOK.nil)))
theorem sp_uldf : FnSpec (scopeAt 2) own_uldf 2 R_uldf := FnSpec.of_b (show fnSpecB (scopeAt 2) own_uldf 2 R_uldf = true from (by decide +kernel))
noncomputable def P_uldf : PF := bodyF 2 4 (F_uldf)
theorem ok_uldf (H : Given W) : CallOK W 1 (H.a "unorderable_list_difference") (P_uldf) := CallOK.of_body (H.fn 0 rfl).2 sp_uldf (fs_uldf H) (fun vals hv pm code doc => by
 obtain ⟨x0, x1, rfl⟩ := len2 hv; rfl)
end MF
noncomputable section MG
open PySem PySem.W PySem.Calls PyProof.Rows
set_option maxHeartbeats 4000000
variable {W : Wd}
noncomputable def R_ulsg : Rs := { slots := [("text", 1), ("place", 2)], globs := [], loc := ["text", "place"], cel := [], capt := [] }
theorem sl_ulsg_place : R_ulsg.slots.lookup ("place" : Str) = some 2 := (show R_ulsg.slots.lookup ("place" : Str) = some 2 from (by decide +kernel))
theorem sl_ulsg_text : R_ulsg.slots.lookup ("text" : Str) = some 1 := (show R_ulsg.slots.lookup ("text" : Str) = some 1 from (by decide +kernel))
theorem v_ulsg_place {pos : Pos} {k : Nat} : EvOK W R_ulsg k (.Name "place" pos) (pVar 2) := EvOK.var sl_ulsg_place (by decide +kernel) (by decide +kernel)
theorem v_ulsg_text {pos : Pos} {k : Nat} : EvOK W R_ulsg k (.Name "text" pos) (pVar 1) := EvOK.var sl_ulsg_text (by decide +kernel) (by decide +kernel)
noncomputable def own_ulsg : List (Str × Bool) := [("text", false), ("place", false)]
noncomputable def F_ulsg : PS := (sSeq (sIf (pCmpB cEq (pBin aItem (pVar 1) (pVar 2)) (pConst (.str [92]))) (sSeq (sRet (pTup [(pBin aItem (pVar 1) (pBin oAdd (pVar 2) (pConst (.int 1)))), (pBin oAdd (pVar 2) (pConst (.int 2)))])) (sNil)) (sNil)) (sSeq (sRet (pTup [(pBin aItem (pVar 1) (pVar 2)), (pBin oAdd (pVar 2) (pConst (.int 1)))])) (sNil)))
theorem fs_ulsg (H : Given W) : FsOK W R_ulsg 0 (bodyAt 18) (F_ulsg) :=
 (FsOK.cons (ExOK.ite (BtOK.cmp eq_ok (EvOK.item v_ulsg_text v_ulsg_place) (EvOK.str (by decide +kernel)) rfl) (FsOK.cons (ExOK.ret (EvOK.tup (.cons (EvOK.item v_ulsg_text (EvOK.bin add_ok v_ulsg_place EvOK.int)) (fun _ _ => rfl) (.cons (EvOK.bin add_ok v_ulsg_place EvOK.int) (fun _ _ => rfl) .nil)) (by decide +kernel))) FsOK.nil) FsOK.nil) (FsOK.cons (ExOK.ret (EvOK.tup (.cons (EvOK.item v_ulsg_text v_ulsg_place) (fun _ _ => rfl) (.cons (EvOK.bin add_ok v_ulsg_place EvOK.int) (fun _ _ => rfl) .nil)) (by decide +kernel))) FsOK.nil))
theorem sp_ulsg : FnSpec (scopeAt 18) own_ulsg 2 R_ulsg := FnSpec.of_b (show fnSpecB (scopeAt 18) own_ulsg 2 R_ulsg = true from (by decide +kernel))
noncomputable def P_ulsg : PF := bodyF 2 2 (F_ulsg)
theorem ok_ulsg (H : Given W) : CallOK W 1 (H.a "_law_sign") (P_ulsg) := CallOK.of_body (H.fn 8 rfl).2 sp_ulsg (fs_ulsg H) (fun vals hv pm code doc => by
 obtain ⟨x0, x1, rfl⟩ := len2 hv; rfl)
noncomputable def R_ulcl : Rs := { slots := [("text", 1), ("place", 2), ("barred", 3), ("pairs", 4), ("low", 5), ("high", 6)], globs := ["_law_sign"], loc := ["text", "place", "barred", "pairs", "low", "high"], cel := [], capt := [] }
theorem sl_ulcl_barred : R_ulcl.slots.lookup ("barred" : Str) = some 3 := (show R_ulcl.slots.lookup ("barred" : Str) = some 3 from (by decide +kernel))
theorem sl_ulcl_high : R_ulcl.slots.lookup ("high" : Str) = some 6 := (show R_ulcl.slots.lookup ("high" : Str) = some 6 from (by decide +kernel))
theorem sl_ulcl_low : R_ulcl.slots.lookup ("low" : Str) = some 5 := (show R_ulcl.slots.lookup ("low" : Str) = some 5 from (by decide +kernel))
theorem sl_ulcl_pairs : R_ulcl.slots.lookup ("pairs" : Str) = some 4 := (show R_ulcl.slots.lookup ("pairs" : Str) = some 4 from (by decide +kernel))
theorem sl_ulcl_place : R_ulcl.slots.lookup ("place" : Str) = some 2 := (show R_ulcl.slots.lookup ("place" : Str) = some 2 from (by decide +kernel))
theorem sl_ulcl_text : R_ulcl.slots.lookup ("text" : Str) = some 1 := (show R_ulcl.slots.lookup ("text" : Str) = some 1 from (by decide +kernel))
theorem gl_ulcl_ulsg : R_ulcl.globs.contains ("_law_sign" : Str) = true := (show R_ulcl.globs.contains ("_law_sign" : Str) = true from (by decide +kernel))
theorem lc_ulcl_barred : R_ulcl.loc.contains ("barred" : Str) = true := (show R_ulcl.loc.contains ("barred" : Str) = true from (by decide +kernel))
theorem lc_ulcl_high : R_ulcl.loc.contains ("high" : Str) = true := (show R_ulcl.loc.contains ("high" : Str) = true from (by decide +kernel))
theorem lc_ulcl_low : R_ulcl.loc.contains ("low" : Str) = true := (show R_ulcl.loc.contains ("low" : Str) = true from (by decide +kernel))
theorem lc_ulcl_pairs : R_ulcl.loc.contains ("pairs" : Str) = true := (show R_ulcl.loc.contains ("pairs" : Str) = true from (by decide +kernel))
theorem lc_ulcl_place : R_ulcl.loc.contains ("place" : Str) = true := (show R_ulcl.loc.contains ("place" : Str) = true from (by decide +kernel))
theorem v_ulcl_barred {pos : Pos} {k : Nat} : EvOK W R_ulcl k (.Name "barred" pos) (pVar 3) := EvOK.var sl_ulcl_barred (by decide +kernel) (by decide +kernel)
theorem v_ulcl_high {pos : Pos} {k : Nat} : EvOK W R_ulcl k (.Name "high" pos) (pVar 6) := EvOK.var sl_ulcl_high (by decide +kernel) (by decide +kernel)
theorem v_ulcl_low {pos : Pos} {k : Nat} : EvOK W R_ulcl k (.Name "low" pos) (pVar 5) := EvOK.var sl_ulcl_low (by decide +kernel) (by decide +kernel)
theorem v_ulcl_pairs {pos : Pos} {k : Nat} : EvOK W R_ulcl k (.Name "pairs" pos) (pVar 4) := EvOK.var sl_ulcl_pairs (by decide +kernel) (by decide +kernel)
theorem v_ulcl_place {pos : Pos} {k : Nat} : EvOK W R_ulcl k (.Name "place" pos) (pVar 2) := EvOK.var sl_ulcl_place (by decide +kernel) (by decide +kernel)
theorem v_ulcl_text {pos : Pos} {k : Nat} : EvOK W R_ulcl k (.Name "text" pos) (pVar 1) := EvOK.var sl_ulcl_text (by decide +kernel) (by decide +kernel)
theorem s_ulcl_barred : StoreAt R_ulcl "barred" 3 := ⟨sl_ulcl_barred, .inl lc_ulcl_barred⟩
theorem s_ulcl_high : StoreAt R_ulcl "high" 6 := ⟨sl_ulcl_high, .inl lc_ulcl_high⟩
theorem s_ulcl_low : StoreAt R_ulcl "low" 5 := ⟨sl_ulcl_low, .inl lc_ulcl_low⟩
theorem s_ulcl_pairs : StoreAt R_ulcl "pairs" 4 := ⟨sl_ulcl_pairs, .inl lc_ulcl_pairs⟩
theorem s_ulcl_place : StoreAt R_ulcl "place" 2 := ⟨sl_ulcl_place, .inl lc_ulcl_place⟩
noncomputable def own_ulcl : List (Str × Bool) := [("text", false), ("place", false), ("barred", false), ("pairs", false), ("low", false), ("high", false)]
noncomputable def F_ulcl : PS := (sSeq (sAsg 3 (pCmp cEq (pBin aItem (pVar 1) (pBin oAdd (pVar 2) (pConst (.int 1)))) (pConst (.str [94])))) (sSeq (sAug 2 oAdd (pIte (pTruth (pVar 3)) (pConst (.int 2)) (pConst (.int 1)))) (sSeq (sAsg 4 (pList [])) (sSeq (sWhile (pOrB (pNot (pTruth (pVar 4))) (pCmpB cNe (pBin aItem (pVar 1) (pVar 2)) (pConst (.str [93])))) (sSeq (sUnp [5, 2] (pCall (P_ulsg) [pVar 1, pVar 2])) (sSeq (sAsg 6 (pVar 5)) (sSeq (sIf (pCmpB cEq (pBin aItem (pVar 1) (pVar 2)) (pConst (.str [45]))) (sSeq (sUnp [6, 2] (pCall (P_ulsg) [pVar 1, (pBin oAdd (pVar 2) (pConst (.int 1)))])) (sNil)) (sNil)) (sSeq (sExpr (pMeth .list mAppend (pVar 4) [(pTup [pVar 5, pVar 6])])) (sNil)))))) (sSeq (sRet (pTup [(pTup [pVar 3, pVar 4]), (pBin oAdd (pVar 2) (pConst (.int 1)))])) (sNil))))))
theorem fs_ulcl (H : Given W) : FsOK W R_ulcl 1 (bodyAt 19) (F_ulcl) :=
 (FsOK.cons (ExOK.asg s_ulcl_barred (EvOK.cmp eq_ok (EvOK.item v_ulcl_text (EvOK.bin add_ok v_ulcl_place EvOK.int)) (EvOK.str (by decide +kernel)) rfl) (fun _ _ _ => rfl)) (FsOK.cons (ExOK.aug s_ulcl_place (by decide +kernel) iadd_ok (EvOK.ite (BtOK.val' v_ulcl_barred (fun _ _ => rfl)) EvOK.int EvOK.int)) (FsOK.cons (ExOK.asg s_ulcl_pairs (EvOK.list .nil (by decide +kernel)) (fun _ _ _ => rfl)) (FsOK.cons (ExOK.while (BtOK.or (BtOK.not (BtOK.val' v_ulcl_pairs (fun _ _ => rfl))) (BtOK.cmp ne_ok (EvOK.item v_ulcl_text v_ulcl_place) (EvOK.str (by decide +kernel)) rfl)) (FsOK.cons (ExOK.unp (names := ["low", "place"]) (ps := [⟨163, 8, 163, 11⟩, ⟨163, 13, 163, 18⟩]) (fun _ => rfl) rfl (by intro p hp; simp only [List.zip_cons_cons, List.zip_nil_right, List.zip_nil_left, List.reverse_cons, List.reverse_nil, List.nil_append, List.cons_append, List.mem_cons, List.not_mem_nil, or_false] at hp; rcases hp with rfl | rfl <;> first | exact s_ulcl_low | exact s_ulcl_place) rfl (EvOK.call gl_ulcl_ulsg (H.fn 8 rfl).1 (by decide +kernel) (H.fn 8 rfl).2.fn (ok_ulsg H) (by omega) (.cons v_ulcl_text (fun _ _ => rfl) (.cons v_ulcl_place (fun _ _ => rfl) .nil))) (fun _ => rfl) (fun _ => rfl)) (FsOK.cons (ExOK.asg s_ulcl_high v_ulcl_low (fun _ _ _ => rfl)) (FsOK.cons (ExOK.ite (BtOK.cmp eq_ok (EvOK.item v_ulcl_text v_ulcl_place) (EvOK.str (by decide +kernel)) rfl) (FsOK.cons (ExOK.unp (names := ["high", "place"]) (ps := [⟨166, 12, 166, 16⟩, ⟨166, 18, 166, 23⟩]) (fun _ => rfl) rfl (by intro p hp; simp only [List.zip_cons_cons, List.zip_nil_right, List.zip_nil_left, List.reverse_cons, List.reverse_nil, List.nil_append, List.cons_append, List.mem_cons, List.not_mem_nil, or_false] at hp; rcases hp with rfl | rfl <;> first | exact s_ulcl_high | exact s_ulcl_place) rfl (EvOK.call gl_ulcl_ulsg (H.fn 8 rfl).1 (by decide +kernel) (H.fn 8 rfl).2.fn (ok_ulsg H) (by omega) (.cons v_ulcl_text (fun _ _ => rfl) (.cons (EvOK.bin add_ok v_ulcl_place EvOK.int) (fun _ _ => rfl) .nil))) (fun _ => rfl) (fun _ => rfl)) FsOK.nil) FsOK.nil) (FsOK.cons (ExOK.expr (EvOK.meth (t := .list) F.plainAttrs_list F.slot_list_append F.type_list_append (fun _ => rfl) rfl (by decide +kernel) append_meth v_ulcl_pairs (.cons (EvOK.tup (.cons v_ulcl_low (fun _ _ => rfl) (.cons v_ulcl_high (fun _ _ => rfl) .nil)) (by decide +kernel)) (fun _ _ => rfl) .nil)) (fun _ => rfl)) FsOK.nil))))) (FsOK.cons (ExOK.ret (EvOK.tup (.cons (EvOK.tup (.cons v_ulcl_barred (fun _ _ => rfl) (.cons v_ulcl_pairs (fun _ _ => rfl) .nil)) (by decide +kernel)) (fun _ _ => rfl) (.cons (EvOK.bin add_ok v_ulcl_place EvOK.int) (fun _ _ => rfl) .nil)) (by decide +kernel))) FsOK.nil)))))
theorem sp_ulcl : FnSpec (scopeAt 19) own_ulcl 2 R_ulcl := FnSpec.of_b (show fnSpecB (scopeAt 19) own_ulcl 2 R_ulcl = true from (by decide +kernel))
noncomputable def P_ulcl : PF := bodyF 2 6 (F_ulcl)
theorem ok_ulcl (H : Given W) : CallOK W 2 (H.a "_law_class") (P_ulcl) := CallOK.of_body (H.fn 9 rfl).2 sp_ulcl (fs_ulcl H) (fun vals hv pm code doc => by
 obtain ⟨x0, x1, rfl⟩ := len2 hv; rfl)
noncomputable def R_ulwi_c1 : Rs := { slots := [("low", 1), ("high", 2), ("sign", 5)], globs := [], loc := [".0", "low", "high"], cel := [], capt := ["sign"] }
theorem sl_ulwi_c1_high : R_ulwi_c1.slots.lookup ("high" : Str) = some 2 := (show R_ulwi_c1.slots.lookup ("high" : Str) = some 2 from (by decide +kernel))
theorem sl_ulwi_c1_low : R_ulwi_c1.slots.lookup ("low" : Str) = some 1 := (show R_ulwi_c1.slots.lookup ("low" : Str) = some 1 from (by decide +kernel))
theorem sl_ulwi_c1_sign : R_ulwi_c1.slots.lookup ("sign" : Str) = some 5 := (show R_ulwi_c1.slots.lookup ("sign" : Str) = some 5 from (by decide +kernel))
theorem lc_ulwi_c1_high : R_ulwi_c1.loc.contains ("high" : Str) = true := (show R_ulwi_c1.loc.contains ("high" : Str) = true from (by decide +kernel))
theorem lc_ulwi_c1_low : R_ulwi_c1.loc.contains ("low" : Str) = true := (show R_ulwi_c1.loc.contains ("low" : Str) = true from (by decide +kernel))
theorem v_ulwi_c1_high {pos : Pos} {k : Nat} : EvOK W R_ulwi_c1 k (.Name "high" pos) (pVar 2) := EvOK.var sl_ulwi_c1_high (by decide +kernel) (by decide +kernel)
theorem v_ulwi_c1_low {pos : Pos} {k : Nat} : EvOK W R_ulwi_c1 k (.Name "low" pos) (pVar 1) := EvOK.var sl_ulwi_c1_low (by decide +kernel) (by decide +kernel)
theorem v_ulwi_c1_sign {pos : Pos} {k : Nat} : EvOK W R_ulwi_c1 k (.Name "sign" pos) (pVar 5) := EvOK.var sl_ulwi_c1_sign (by decide +kernel) (by decide +kernel)
theorem s_ulwi_c1_high : StoreAt R_ulwi_c1 "high" 2 := ⟨sl_ulwi_c1_high, .inl lc_ulwi_c1_high⟩
theorem s_ulwi_c1_low : StoreAt R_ulwi_c1 "low" 1 := ⟨sl_ulwi_c1_low, .inl lc_ulwi_c1_low⟩
noncomputable def R_ulwi : Rs := { slots := [("judge", 1), ("sign", 2), ("barred", 3), ("pairs", 4)], globs := [], loc := ["judge", "barred", "pairs"], cel := ["sign"], capt := ["sign"] }
theorem sl_ulwi_barred : R_ulwi.slots.lookup ("barred" : Str) = some 3 := (show R_ulwi.slots.lookup ("barred" : Str) = some 3 from (by decide +kernel))
theorem sl_ulwi_judge : R_ulwi.slots.lookup ("judge" : Str) = some 1 := (show R_ulwi.slots.lookup ("judge" : Str) = some 1 from (by decide +kernel))
theorem sl_ulwi_pairs : R_ulwi.slots.lookup ("pairs" : Str) = some 4 := (show R_ulwi.slots.lookup ("pairs" : Str) = some 4 from (by decide +kernel))
theorem lc_ulwi_barred : R_ulwi.loc.contains ("barred" : Str) = true := (show R_ulwi.loc.contains ("barred" : Str) = true from (by decide +kernel))
theorem lc_ulwi_pairs : R_ulwi.loc.contains ("pairs" : Str) = true := (show R_ulwi.loc.contains ("pairs" : Str) = true from (by decide +kernel))
theorem v_ulwi_barred {pos : Pos} {k : Nat} : EvOK W R_ulwi k (.Name "barred" pos) (pVar 3) := EvOK.var sl_ulwi_barred (by decide +kernel) (by decide +kernel)
theorem v_ulwi_judge {pos : Pos} {k : Nat} : EvOK W R_ulwi k (.Name "judge" pos) (pVar 1) := EvOK.var sl_ulwi_judge (by decide +kernel) (by decide +kernel)
theorem v_ulwi_pairs {pos : Pos} {k : Nat} : EvOK W R_ulwi k (.Name "pairs" pos) (pVar 4) := EvOK.var sl_ulwi_pairs (by decide +kernel) (by decide +kernel)
theorem s_ulwi_barred : StoreAt R_ulwi "barred" 3 := ⟨sl_ulwi_barred, .inl lc_ulwi_barred⟩
theorem s_ulwi_pairs : StoreAt R_ulwi "pairs" 4 := ⟨sl_ulwi_pairs, .inl lc_ulwi_pairs⟩
noncomputable def own_ulwi : List (Str × Bool) := [("judge", false), ("sign", true), ("barred", false), ("pairs", false)]
noncomputable def F_ulwi : PS := (sSeq (sUnp [3, 4] (pVar 1)) (sSeq (sRet (pCmp cNe (pVar 3) (pCmp cNe (pComp 3 (iOf (pVar 4)) (.tup [1, 2]) (pCmp2B cLe cLe (pVar 1) (pVar 5) (pVar 2)) (pVar 1)) (pList [])))) (sNil)))
theorem fs_ulwi (H : Given W) : FsOK W R_ulwi 0 (bodyAt 20) (F_ulwi) :=
 (FsOK.cons (ExOK.unp (names := ["barred", "pairs"]) (ps := [⟨170, 4, 170, 10⟩, ⟨170, 12, 170, 17⟩]) (fun _ => rfl) rfl (by intro p hp; simp only [List.zip_cons_cons, List.zip_nil_right, List.zip_nil_left, List.reverse_cons, List.reverse_nil, List.nil_append, List.cons_append, List.mem_cons, List.not_mem_nil, or_false] at hp; rcases hp with rfl | rfl <;> first | exact s_ulwi_barred | exact s_ulwi_pairs) rfl v_ulwi_judge (fun _ => rfl) (fun _ => rfl)) (FsOK.cons (ExOK.ret (EvOK.cmp ne_ok v_ulwi_barred (EvOK.cmp ne_ok (EvOK.comp (own := [(".0", false), ("low", false), ("high", false)]) (cap := [("sign", 2)]) (R' := R_ulwi_c1) (CompSpec.of (by decide +kernel)) (ItEv.of v_ulwi_pairs) (.tup (names := ["low", "high"]) (ps := [⟨171, 31, 171, 34⟩, ⟨171, 36, 171, 40⟩]) (fun _ => rfl) rfl (by intro p hp; simp only [List.zip_cons_cons, List.zip_nil_right, List.zip_nil_left, List.reverse_cons, List.reverse_nil, List.nil_append, List.cons_append, List.mem_cons, List.not_mem_nil, or_false] at hp; rcases hp with rfl | rfl <;> first | exact s_ulwi_c1_low | exact s_ulwi_c1_high) rfl) (show ∀ i ∈ ([1, 2] : List Nat), i < 3 by decide) (.one (BtOK.cmp2 le_ok le_ok v_ulwi_c1_low v_ulwi_c1_sign v_ulwi_c1_high rfl)) v_ulwi_c1_low (fun _ _ => rfl)) (EvOK.list .nil (by decide +kernel)) rfl) rfl)) FsOK.nil))
theorem sp_ulwi : FnSpec (scopeAt 20) own_ulwi 2 R_ulwi := FnSpec.of_b (show fnSpecB (scopeAt 20) own_ulwi 2 R_ulwi = true from (by decide +kernel))
noncomputable def P_ulwi : PF := bodyF 2 4 (F_ulwi)
theorem ok_ulwi (H : Given W) : CallOK W 1 (H.a "_law_within") (P_ulwi) := CallOK.of_body (H.fn 10 rfl).2 sp_ulwi (fs_ulwi H) (fun vals hv pm code doc => by
 obtain ⟨x0, x1, rfl⟩ := len2 hv; rfl)
noncomputable def R_ulcs : Rs := { slots := [("text", 1), ("found", 2), ("place", 3), ("judge", 4)], globs := ["_law_class", "len"], loc := ["text", "found", "place", "judge"], cel := [], capt := [] }
theorem sl_ulcs_found : R_ulcs.slots.lookup ("found" : Str) = some 2 := (show R_ulcs.slots.lookup ("found" : Str) = some 2 from (by decide +kernel))
theorem sl_ulcs_judge : R_ulcs.slots.lookup ("judge" : Str) = some 4 := (show R_ulcs.slots.lookup ("judge" : Str) = some 4 from (by decide +kernel))
theorem sl_ulcs_place : R_ulcs.slots.lookup ("place" : Str) = some 3 := (show R_ulcs.slots.lookup ("place" : Str) = some 3 from (by decide +kernel))
theorem sl_ulcs_text : R_ulcs.slots.lookup ("text" : Str) = some 1 := (show R_ulcs.slots.lookup ("text" : Str) = some 1 from (by decide +kernel))
theorem gl_ulcs_ulcl : R_ulcs.globs.contains ("_law_class" : Str) = true := (show R_ulcs.globs.contains ("_law_class" : Str) = true from (by decide +kernel))
theorem gl_ulcs_len : R_ulcs.globs.contains ("len" : Str) = true := (show R_ulcs.globs.contains ("len" : Str) = true from (by decide +kernel))
theorem lc_ulcs_found : R_ulcs.loc.contains ("found" : Str) = true := (show R_ulcs.loc.contains ("found" : Str) = true from (by decide +kernel))
theorem lc_ulcs_judge : R_ulcs.loc.contains ("judge" : Str) = true := (show R_ulcs.loc.contains ("judge" : Str) = true from (by decide +kernel))
theorem lc_ulcs_place : R_ulcs.loc.contains ("place" : Str) = true := (show R_ulcs.loc.contains ("place" : Str) = true from (by decide +kernel))
theorem v_ulcs_found {pos : Pos} {k : Nat} : EvOK W R_ulcs k (.Name "found" pos) (pVar 2) := EvOK.var sl_ulcs_found (by decide +kernel) (by decide +kernel)
theorem v_ulcs_judge {pos : Pos} {k : Nat} : EvOK W R_ulcs k (.Name "judge" pos) (pVar 4) := EvOK.var sl_ulcs_judge (by decide +kernel) (by decide +kernel)
theorem v_ulcs_place {pos : Pos} {k : Nat} : EvOK W R_ulcs k (.Name "place" pos) (pVar 3) := EvOK.var sl_ulcs_place (by decide +kernel) (by decide +kernel)
theorem v_ulcs_text {pos : Pos} {k : Nat} : EvOK W R_ulcs k (.Name "text" pos) (pVar 1) := EvOK.var sl_ulcs_text (by decide +kernel) (by decide +kernel)
theorem s_ulcs_found : StoreAt R_ulcs "found" 2 := ⟨sl_ulcs_found, .inl lc_ulcs_found⟩
theorem s_ulcs_judge : StoreAt R_ulcs "judge" 4 := ⟨sl_ulcs_judge, .inl lc_ulcs_judge⟩
theorem s_ulcs_place : StoreAt R_ulcs "place" 3 := ⟨sl_ulcs_place, .inl lc_ulcs_place⟩
noncomputable def own_ulcs : List (Str × Bool) := [("text", false), ("found", false), ("place", false), ("judge", false)]
noncomputable def F_ulcs : PS := (sSeq (sSwap [2, 3] (pTup [(pList []), (pConst (.int 4))])) (sSeq (sWhile (pAndB (pCmpB cEq (pBin oAdd (pSlice (pVar 1) none (some (pConst (.int 4)))) (pSlice (pVar 1) (some (pNeg (pConst (.int 3)))) none)) (pConst (.str [40, 63, 115, 58, 41, 92, 90]))) (pCmpB cEq (pBin aItem (pVar 1) (pVar 3)) (pConst (.str [91])))) (sSeq (sUnp [4, 3] (pCall (P_ulcl) [pVar 1, pVar 3])) (sSeq (sExpr (pMeth .list mAppend (pVar 2) [pVar 4])) (sNil)))) (sSeq (sRet (pIte (pCmpB cEq (pVar 3) (pBin oSub (pCall fLen [pVar 1]) (pConst (.int 3)))) (pVar 2) (pList []))) (sNil))))
theorem fs_ulcs (H : Given W) : FsOK W R_ulcs 2 (bodyAt 21) (F_ulcs) :=
 (FsOK.cons (ExOK.swap (names := ["found", "place"]) (by intro p hp; simp only [List.zip_cons_cons, List.zip_nil_right, List.zip_nil_left, List.reverse_cons, List.reverse_nil, List.nil_append, List.cons_append, List.mem_cons, List.not_mem_nil, or_false] at hp; rcases hp with rfl | rfl <;> first | exact s_ulcs_found | exact s_ulcs_place) rfl (EvOK.tup (.cons (EvOK.list .nil (by decide +kernel)) (fun _ _ => rfl) (.cons EvOK.int (fun _ _ => rfl) .nil)) (by decide +kernel)) (fun _ => rfl) (fun _ h1 h2 => swapped_two h1 (h2 _ (.head _)) (h2 _ (.tail _ (.head _))) rfl (by decide +kernel) rfl rfl rfl) (by decide +kernel)) (FsOK.cons (ExOK.while (BtOK.and (BtOK.cmp eq_ok (EvOK.bin add_ok (EvOK.slice (fl := none) (fu := (some (pConst (.int 4)))) v_ulcs_text trivial EvOK.int) (EvOK.slice (fl := (some (pNeg (pConst (.int 3))))) (fu := none) v_ulcs_text (EvOK.neg EvOK.int) trivial)) (EvOK.str (by decide +kernel)) rfl) (BtOK.cmp eq_ok (EvOK.item v_ulcs_text v_ulcs_place) (EvOK.str (by decide +kernel)) rfl)) (FsOK.cons (ExOK.unp (names := ["judge", "place"]) (ps := [⟨175, 8, 175, 13⟩, ⟨175, 15, 175, 20⟩]) (fun _ => rfl) rfl (by intro p hp; simp only [List.zip_cons_cons, List.zip_nil_right, List.zip_nil_left, List.reverse_cons, List.reverse_nil, List.nil_append, List.cons_append, List.mem_cons, List.not_mem_nil, or_false] at hp; rcases hp with rfl | rfl <;> first | exact s_ulcs_judge | exact s_ulcs_place) rfl (EvOK.call gl_ulcs_ulcl (H.fn 9 rfl).1 (by decide +kernel) (H.fn 9 rfl).2.fn (ok_ulcl H) (by omega) (.cons v_ulcs_text (fun _ _ => rfl) (.cons v_ulcs_place (fun _ _ => rfl) .nil))) (fun _ => rfl) (fun _ => rfl)) (FsOK.cons (ExOK.expr (EvOK.meth (t := .list) F.plainAttrs_list F.slot_list_append F.type_list_append (fun _ => rfl) rfl (by decide +kernel) append_meth v_ulcs_found (.cons v_ulcs_judge (fun _ _ => rfl) .nil)) (fun _ => rfl)) FsOK.nil))) (FsOK.cons (ExOK.ret (EvOK.ite (BtOK.cmp eq_ok v_ulcs_place (EvOK.bin sub_ok (EvOK.callB gl_ulcs_len (H.nb 0 rfl) (by decide +kernel) (by decide +kernel) (by decide +kernel) len_fun (.cons v_ulcs_text (fun _ _ => rfl) .nil)) EvOK.int) rfl) v_ulcs_found (EvOK.list .nil (by decide +kernel)))) FsOK.nil)))
theorem sp_ulcs : FnSpec (scopeAt 21) own_ulcs 1 R_ulcs := FnSpec.of_b (show fnSpecB (scopeAt 21) own_ulcs 1 R_ulcs = true from (by decide +kernel))
noncomputable def P_ulcs : PF := bodyF 1 4 (F_ulcs)
theorem ok_ulcs (H : Given W) : CallOK W 3 (H.a "_law_classes") (P_ulcs) := CallOK.of_body (H.fn 11 rfl).2 sp_ulcs (fs_ulcs H) (fun vals hv pm code doc => by
 obtain ⟨x0, rfl⟩ := len1 hv; rfl)
noncomputable def R_ulwr_c2 : Rs := { slots := [("sign", 1)], globs := [], loc := [".0", "sign"], cel := [], capt := [] }
theorem sl_ulwr_c2_sign : R_ulwr_c2.slots.lookup ("sign" : Str) = some 1 := (show R_ulwr_c2.slots.lookup ("sign" : Str) = some 1 from (by decide +kernel))
theorem lc_ulwr_c2_sign : R_ulwr_c2.loc.contains ("sign" : Str) = true := (show R_ulwr_c2.loc.contains ("sign" : Str) = true from (by decide +kernel))
theorem v_ulwr_c2_sign {pos : Pos} {k : Nat} : EvOK W R_ulwr_c2 k (.Name "sign" pos) (pVar 1) := EvOK.var sl_ulwr_c2_sign (by decide +kernel) (by decide +kernel)
theorem s_ulwr_c2_sign : StoreAt R_ulwr_c2 "sign" 1 := ⟨sl_ulwr_c2_sign, .inl lc_ulwr_c2_sign⟩
noncomputable def R_ulwr : Rs := { slots := [("signs", 1), ("text", 2), ("plain", 3), ("size", 4)], globs := ["len", "ord"], loc := ["signs", "text", "plain", "size"], cel := [], capt := [] }
theorem sl_ulwr_plain : R_ulwr.slots.lookup ("plain" : Str) = some 3 := (show R_ulwr.slots.lookup ("plain" : Str) = some 3 from (by decide +kernel))
theorem sl_ulwr_signs : R_ulwr.slots.lookup ("signs" : Str) = some 1 := (show R_ulwr.slots.lookup ("signs" : Str) = some 1 from (by decide +kernel))
theorem sl_ulwr_size : R_ulwr.slots.lookup ("size" : Str) = some 4 := (show R_ulwr.slots.lookup ("size" : Str) = some 4 from (by decide +kernel))
theorem sl_ulwr_text : R_ulwr.slots.lookup ("text" : Str) = some 2 := (show R_ulwr.slots.lookup ("text" : Str) = some 2 from (by decide +kernel))
theorem gl_ulwr_len : R_ulwr.globs.contains ("len" : Str) = true := (show R_ulwr.globs.contains ("len" : Str) = true from (by decide +kernel))
theorem gl_ulwr_ord : R_ulwr.globs.contains ("ord" : Str) = true := (show R_ulwr.globs.contains ("ord" : Str) = true from (by decide +kernel))
theorem lc_ulwr_plain : R_ulwr.loc.contains ("plain" : Str) = true := (show R_ulwr.loc.contains ("plain" : Str) = true from (by decide +kernel))
theorem lc_ulwr_size : R_ulwr.loc.contains ("size" : Str) = true := (show R_ulwr.loc.contains ("size" : Str) = true from (by decide +kernel))
theorem lc_ulwr_text : R_ulwr.loc.contains ("text" : Str) = true := (show R_ulwr.loc.contains ("text" : Str) = true from (by decide +kernel))
theorem v_ulwr_plain {pos : Pos} {k : Nat} : EvOK W R_ulwr k (.Name "plain" pos) (pVar 3) := EvOK.var sl_ulwr_plain (by decide +kernel) (by decide +kernel)
theorem v_ulwr_signs {pos : Pos} {k : Nat} : EvOK W R_ulwr k (.Name "signs" pos) (pVar 1) := EvOK.var sl_ulwr_signs (by decide +kernel) (by decide +kernel)
theorem v_ulwr_size {pos : Pos} {k : Nat} : EvOK W R_ulwr k (.Name "size" pos) (pVar 4) := EvOK.var sl_ulwr_size (by decide +kernel) (by decide +kernel)
theorem v_ulwr_text {pos : Pos} {k : Nat} : EvOK W R_ulwr k (.Name "text" pos) (pVar 2) := EvOK.var sl_ulwr_text (by decide +kernel) (by decide +kernel)
theorem s_ulwr_plain : StoreAt R_ulwr "plain" 3 := ⟨sl_ulwr_plain, .inl lc_ulwr_plain⟩
theorem s_ulwr_size : StoreAt R_ulwr "size" 4 := ⟨sl_ulwr_size, .inl lc_ulwr_size⟩
theorem s_ulwr_text : StoreAt R_ulwr "text" 2 := ⟨sl_ulwr_text, .inl lc_ulwr_text⟩
noncomputable def own_ulwr : List (Str × Bool) := [("signs", false), ("text", false), ("plain", false), ("size", false)]
noncomputable def F_ulwr : PS := (sSeq (sAsg 2 (pIte (pCmpB cIn (pConst (.str [93])) (pVar 1)) (pConst (.str [93])) (pConst (.str [])))) (sSeq (sAsg 3 (pComp 2 (iOf (pVar 1)) (.nm 1) (pCmpB cNotIn (pVar 1) (pConst (.str [45, 93]))) (pVar 1))) (sSeq (sWhile (pTruth (pVar 3)) (sSeq (sAsg 4 (pConst (.int 1))) (sSeq (sWhile (pAndB (pCmpB cLt (pVar 4) (pCall fLen [pVar 3])) (pCmpB cEq (pCall fOrd [(pBin aItem (pVar 3) (pVar 4))]) (pBin oAdd (pCall fOrd [(pBin aItem (pVar 3) (pConst (.int 0)))]) (pVar 4)))) (sSeq (sAug 4 oAdd (pConst (.int 1))) (sNil))) (sSeq (sAug 2 oAdd (pIte (pCmpB cEq (pVar 4) (pConst (.int 1))) (pBin aItem (pVar 3) (pConst (.int 0))) (pBin oAdd (pBin oAdd (pBin aItem (pVar 3) (pConst (.int 0))) (pConst (.str [45]))) (pBin aItem (pVar 3) (pBin oSub (pVar 4) (pConst (.int 1))))))) (sSeq (sAsg 3 (pSlice (pVar 3) (some (pVar 4)) none)) (sNil)))))) (sSeq (sRet (pBin oAdd (pVar 2) (pIte (pCmpB cIn (pConst (.str [45])) (pVar 1)) (pConst (.str [45])) (pConst (.str []))))) (sNil)))))
theorem fs_ulwr (H : Given W) : FsOK W R_ulwr 0 (bodyAt 22) (F_ulwr) :=
 (FsOK.cons (ExOK.asg s_ulwr_text (EvOK.ite (BtOK.cmp in_ok (EvOK.str (by decide +kernel)) v_ulwr_signs rfl) (EvOK.str (by decide +kernel)) (EvOK.str (by decide +kernel))) (fun _ _ _ => rfl)) (FsOK.cons (ExOK.asgComp s_ulwr_plain (own := [(".0", false), ("sign", false)]) (cap := []) (R' := R_ulwr_c2) (CompSpec.of (by decide +kernel)) (ItEv.of v_ulwr_signs) (.nm s_ulwr_c2_sign) (show (1 : Nat) < 2 by decide) (.one (BtOK.cmp notIn_ok v_ulwr_c2_sign (EvOK.str (by decide +kernel)) rfl)) v_ulwr_c2_sign (fun _ _ => rfl) (by decide +kernel) (fun _ h1 h2 => swaps_loc h1 h2 rfl (by decide +kernel))) (FsOK.cons (ExOK.while (BtOK.val' v_ulwr_plain (fun _ _ => rfl)) (FsOK.cons (ExOK.asg s_ulwr_size EvOK.int (fun _ _ _ => rfl)) (FsOK.cons (ExOK.while (BtOK.and (BtOK.cmp lt_ok v_ulwr_size (EvOK.callB gl_ulwr_len (H.nb 0 rfl) (by decide +kernel) (by decide +kernel) (by decide +kernel) len_fun (.cons v_ulwr_plain (fun _ _ => rfl) .nil)) rfl) (BtOK.cmp eq_ok (EvOK.callB gl_ulwr_ord (H.nb 1 rfl) (by decide +kernel) (by decide +kernel) (by decide +kernel) ord_fun (.cons (EvOK.item v_ulwr_plain v_ulwr_size) (fun _ _ => rfl) .nil)) (EvOK.bin add_ok (EvOK.callB gl_ulwr_ord (H.nb 1 rfl) (by decide +kernel) (by decide +kernel) (by decide +kernel) ord_fun (.cons (EvOK.item v_ulwr_plain EvOK.int) (fun _ _ => rfl) .nil)) v_ulwr_size) rfl)) (FsOK.cons (ExOK.aug s_ulwr_size (by decide +kernel) iadd_ok EvOK.int) FsOK.nil)) (FsOK.cons (ExOK.aug s_ulwr_text (by decide +kernel) iadd_ok (EvOK.ite (BtOK.cmp eq_ok v_ulwr_size EvOK.int rfl) (EvOK.item v_ulwr_plain EvOK.int) (EvOK.bin add_ok (EvOK.bin add_ok (EvOK.item v_ulwr_plain EvOK.int) (EvOK.str (by decide +kernel))) (EvOK.item v_ulwr_plain (EvOK.bin sub_ok v_ulwr_size EvOK.int))))) (FsOK.cons (ExOK.asg s_ulwr_plain (EvOK.slice (fl := (some (pVar 4))) (fu := none) v_ulwr_plain v_ulwr_size trivial) (fun _ _ _ => rfl)) FsOK.nil))))) (FsOK.cons (ExOK.ret (EvOK.bin add_ok v_ulwr_text (EvOK.ite (BtOK.cmp in_ok (EvOK.str (by decide +kernel)) v_ulwr_signs rfl) (EvOK.str (by decide +kernel)) (EvOK.str (by decide +kernel))))) FsOK.nil))))
theorem sp_ulwr : FnSpec (scopeAt 22) own_ulwr 1 R_ulwr := FnSpec.of_b (show fnSpecB (scopeAt 22) own_ulwr 1 R_ulwr = true from (by decide +kernel))
noncomputable def P_ulwr : PF := bodyF 1 4 (F_ulwr)
theorem ok_ulwr (H : Given W) : CallOK W 1 (H.a "_law_written") (P_ulwr) := CallOK.of_body (H.fn 12 rfl).2 sp_ulwr (fs_ulwr H) (fun vals hv pm code doc => by
 obtain ⟨x0, rfl⟩ := len1 hv; rfl)
noncomputable def R_ulbr_c3 : Rs := { slots := [("sign", 1), ("signs", 3)], globs := [], loc := [".0", "sign"], cel := [], capt := ["signs"] }
theorem sl_ulbr_c3_sign : R_ulbr_c3.slots.lookup ("sign" : Str) = some 1 := (show R_ulbr_c3.slots.lookup ("sign" : Str) = some 1 from (by decide +kernel))
theorem sl_ulbr_c3_signs : R_ulbr_c3.slots.lookup ("signs" : Str) = some 3 := (show R_ulbr_c3.slots.lookup ("signs" : Str) = some 3 from (by decide +kernel))
theorem lc_ulbr_c3_sign : R_ulbr_c3.loc.contains ("sign" : Str) = true := (show R_ulbr_c3.loc.contains ("sign" : Str) = true from (by decide +kernel))
theorem v_ulbr_c3_sign {pos : Pos} {k : Nat} : EvOK W R_ulbr_c3 k (.Name "sign" pos) (pVar 1) := EvOK.var sl_ulbr_c3_sign (by decide +kernel) (by decide +kernel)
theorem v_ulbr_c3_signs {pos : Pos} {k : Nat} : EvOK W R_ulbr_c3 k (.Name "signs" pos) (pVar 3) := EvOK.var sl_ulbr_c3_signs (by decide +kernel) (by decide +kernel)
theorem s_ulbr_c3_sign : StoreAt R_ulbr_c3 "sign" 1 := ⟨sl_ulbr_c3_sign, .inl lc_ulbr_c3_sign⟩
noncomputable def R_ulbr : Rs := { slots := [("signs", 1), ("window", 2), ("barred", 3)], globs := ["_law_written"], loc := ["window", "barred"], cel := ["signs"], capt := ["signs"] }
theorem sl_ulbr_barred : R_ulbr.slots.lookup ("barred" : Str) = some 3 := (show R_ulbr.slots.lookup ("barred" : Str) = some 3 from (by decide +kernel))
theorem sl_ulbr_signs : R_ulbr.slots.lookup ("signs" : Str) = some 1 := (show R_ulbr.slots.lookup ("signs" : Str) = some 1 from (by decide +kernel))
theorem sl_ulbr_window : R_ulbr.slots.lookup ("window" : Str) = some 2 := (show R_ulbr.slots.lookup ("window" : Str) = some 2 from (by decide +kernel))
theorem gl_ulbr_ulwr : R_ulbr.globs.contains ("_law_written" : Str) = true := (show R_ulbr.globs.contains ("_law_written" : Str) = true from (by decide +kernel))
theorem v_ulbr_barred {pos : Pos} {k : Nat} : EvOK W R_ulbr k (.Name "barred" pos) (pVar 3) := EvOK.var sl_ulbr_barred (by decide +kernel) (by decide +kernel)
theorem v_ulbr_signs {pos : Pos} {k : Nat} : EvOK W R_ulbr k (.Name "signs" pos) (pVar 1) := EvOK.var sl_ulbr_signs (by decide +kernel) (by decide +kernel)
theorem v_ulbr_window {pos : Pos} {k : Nat} : EvOK W R_ulbr k (.Name "window" pos) (pVar 2) := EvOK.var sl_ulbr_window (by decide +kernel) (by decide +kernel)
noncomputable def own_ulbr : List (Str × Bool) := [("signs", true), ("window", false), ("barred", false)]
noncomputable def F_ulbr : PS := (sSeq (sIf (pTruth (pVar 3)) (sSeq (sRet (pBin oAdd (pBin oAdd (pConst (.str [91, 33])) (pCall (P_ulwr) [(pComp 2 (iOf (pVar 2)) (.nm 1) (pCmpB cNotIn (pVar 1) (pVar 3)) (pVar 1))])) (pConst (.str [93])))) (sNil)) (sNil)) (sSeq (sRet (pBin oAdd (pBin oAdd (pConst (.str [91])) (pCall (P_ulwr) [pVar 1])) (pConst (.str [93])))) (sNil)))
theorem fs_ulbr (H : Given W) : FsOK W R_ulbr 1 (bodyAt 23) (F_ulbr) :=
 (FsOK.cons (ExOK.ite (BtOK.val' v_ulbr_barred (fun _ _ => rfl)) (FsOK.cons (ExOK.ret (EvOK.bin add_ok (EvOK.bin add_ok (EvOK.str (by decide +kernel)) (EvOK.call gl_ulbr_ulwr (H.fn 12 rfl).1 (by decide +kernel) (H.fn 12 rfl).2.fn (ok_ulwr H) (by omega) (.cons (EvOK.comp (own := [(".0", false), ("sign", false)]) (cap := [("signs", 1)]) (R' := R_ulbr_c3) (CompSpec.of (by decide +kernel)) (ItEv.of v_ulbr_window) (.nm s_ulbr_c3_sign) (show (1 : Nat) < 2 by decide) (.one (BtOK.cmp notIn_ok v_ulbr_c3_sign v_ulbr_c3_signs rfl)) v_ulbr_c3_sign (fun _ _ => rfl)) (fun _ _ => rfl) .nil))) (EvOK.str (by decide +kernel)))) FsOK.nil) FsOK.nil) (FsOK.cons (ExOK.ret (EvOK.bin add_ok (EvOK.bin add_ok (EvOK.str (by decide +kernel)) (EvOK.call gl_ulbr_ulwr (H.fn 12 rfl).1 (by decide +kernel) (H.fn 12 rfl).2.fn (ok_ulwr H) (by omega) (.cons v_ulbr_signs (fun _ _ => rfl) .nil))) (EvOK.str (by decide +kernel)))) FsOK.nil))
theorem sp_ulbr : FnSpec (scopeAt 23) own_ulbr 3 R_ulbr := FnSpec.of_b (show fnSpecB (scopeAt 23) own_ulbr 3 R_ulbr = true from (by decide +kernel))
noncomputable def P_ulbr : PF := bodyF 3 3 (F_ulbr)
theorem ok_ulbr (H : Given W) : CallOK W 2 (H.a "_law_bracket") (P_ulbr) := CallOK.of_body (H.fn 13 rfl).2 sp_ulbr (fs_ulbr H) (fun vals hv pm code doc => by
 obtain ⟨x0, x1, x2, rfl⟩ := len3 hv; rfl)
end MG
noncomputable section MH
open PySem PySem.W PySem.Calls PyProof.Rows
set_option maxHeartbeats 4000000
variable {W : Wd}
noncomputable def R_ulor_c1 : Rs := { slots := [("sign", 1), ("fits", 7)], globs := [], loc := [".0", "sign"], cel := [], capt := ["fits"] }
theorem sl_ulor_c1_fits : R_ulor_c1.slots.lookup ("fits" : Str) = some 7 := (show R_ulor_c1.slots.lookup ("fits" : Str) = some 7 from (by decide +kernel))
theorem sl_ulor_c1_sign : R_ulor_c1.slots.lookup ("sign" : Str) = some 1 := (show R_ulor_c1.slots.lookup ("sign" : Str) = some 1 from (by decide +kernel))
theorem lc_ulor_c1_sign : R_ulor_c1.loc.contains ("sign" : Str) = true := (show R_ulor_c1.loc.contains ("sign" : Str) = true from (by decide +kernel))
theorem v_ulor_c1_fits {pos : Pos} {k : Nat} : EvOK W R_ulor_c1 k (.Name "fits" pos) (pVar 7) := EvOK.var sl_ulor_c1_fits (by decide +kernel) (by decide +kernel)
theorem v_ulor_c1_sign {pos : Pos} {k : Nat} : EvOK W R_ulor_c1 k (.Name "sign" pos) (pVar 1) := EvOK.var sl_ulor_c1_sign (by decide +kernel) (by decide +kernel)
theorem s_ulor_c1_sign : StoreAt R_ulor_c1 "sign" 1 := ⟨sl_ulor_c1_sign, .inl lc_ulor_c1_sign⟩
noncomputable def R_ulor_c2 : Rs := { slots := [("sign", 1), ("word", 6)], globs := [], loc := [".0", "sign"], cel := [], capt := ["word"] }
theorem sl_ulor_c2_sign : R_ulor_c2.slots.lookup ("sign" : Str) = some 1 := (show R_ulor_c2.slots.lookup ("sign" : Str) = some 1 from (by decide +kernel))
theorem sl_ulor_c2_word : R_ulor_c2.slots.lookup ("word" : Str) = some 6 := (show R_ulor_c2.slots.lookup ("word" : Str) = some 6 from (by decide +kernel))
theorem lc_ulor_c2_sign : R_ulor_c2.loc.contains ("sign" : Str) = true := (show R_ulor_c2.loc.contains ("sign" : Str) = true from (by decide +kernel))
theorem v_ulor_c2_sign {pos : Pos} {k : Nat} : EvOK W R_ulor_c2 k (.Name "sign" pos) (pVar 1) := EvOK.var sl_ulor_c2_sign (by decide +kernel) (by decide +kernel)
theorem v_ulor_c2_word {pos : Pos} {k : Nat} : EvOK W R_ulor_c2 k (.Name "word" pos) (pVar 6) := EvOK.var sl_ulor_c2_word (by decide +kernel) (by decide +kernel)
theorem s_ulor_c2_sign : StoreAt R_ulor_c2 "sign" 1 := ⟨sl_ulor_c2_sign, .inl lc_ulor_c2_sign⟩
noncomputable def R_ulor : Rs := { slots := [("takes", 1), ("heap", 2), ("orders", 3), ("word", 4), ("fits", 5), ("told", 6), ("missing", 7), ("left", 8), ("sign", 9)], globs := ["heappush", "heappop", "len", "list", "unorderable_list_difference"], loc := ["takes", "heap", "orders", "told", "missing", "left", "sign"], cel := ["word", "fits"], capt := ["word", "fits"] }
theorem sl_ulor_fits : R_ulor.slots.lookup ("fits" : Str) = some 5 := (show R_ulor.slots.lookup ("fits" : Str) = some 5 from (by decide +kernel))
theorem sl_ulor_heap : R_ulor.slots.lookup ("heap" : Str) = some 2 := (show R_ulor.slots.lookup ("heap" : Str) = some 2 from (by decide +kernel))
theorem sl_ulor_left : R_ulor.slots.lookup ("left" : Str) = some 8 := (show R_ulor.slots.lookup ("left" : Str) = some 8 from (by decide +kernel))
theorem sl_ulor_missing : R_ulor.slots.lookup ("missing" : Str) = some 7 := (show R_ulor.slots.lookup ("missing" : Str) = some 7 from (by decide +kernel))
theorem sl_ulor_orders : R_ulor.slots.lookup ("orders" : Str) = some 3 := (show R_ulor.slots.lookup ("orders" : Str) = some 3 from (by decide +kernel))
theorem sl_ulor_sign : R_ulor.slots.lookup ("sign" : Str) = some 9 := (show R_ulor.slots.lookup ("sign" : Str) = some 9 from (by decide +kernel))
theorem sl_ulor_takes : R_ulor.slots.lookup ("takes" : Str) = some 1 := (show R_ulor.slots.lookup ("takes" : Str) = some 1 from (by decide +kernel))
theorem sl_ulor_told : R_ulor.slots.lookup ("told" : Str) = some 6 := (show R_ulor.slots.lookup ("told" : Str) = some 6 from (by decide +kernel))
theorem sl_ulor_word : R_ulor.slots.lookup ("word" : Str) = some 4 := (show R_ulor.slots.lookup ("word" : Str) = some 4 from (by decide +kernel))
theorem gl_ulor_heappop : R_ulor.globs.contains ("heappop" : Str) = true := (show R_ulor.globs.contains ("heappop" : Str) = true from (by decide +kernel))
theorem gl_ulor_heappush : R_ulor.globs.contains ("heappush" : Str) = true := (show R_ulor.globs.contains ("heappush" : Str) = true from (by decide +kernel))
theorem gl_ulor_len : R_ulor.globs.contains ("len" : Str) = true := (show R_ulor.globs.contains ("len" : Str) = true from (by decide +kernel))
theorem gl_ulor_list : R_ulor.globs.contains ("list" : Str) = true := (show R_ulor.globs.contains ("list" : Str) = true from (by decide +kernel))
theorem gl_ulor_uldf : R_ulor.globs.contains ("unorderable_list_difference" : Str) = true := (show R_ulor.globs.contains ("unorderable_list_difference" : Str) = true from (by decide +kernel))
theorem lc_ulor_fits : R_ulor.cel.contains ("fits" : Str) = true := (show R_ulor.cel.contains ("fits" : Str) = true from (by decide +kernel))
theorem lc_ulor_heap : R_ulor.loc.contains ("heap" : Str) = true := (show R_ulor.loc.contains ("heap" : Str) = true from (by decide +kernel))
theorem lc_ulor_left : R_ulor.loc.contains ("left" : Str) = true := (show R_ulor.loc.contains ("left" : Str) = true from (by decide +kernel))
theorem lc_ulor_missing : R_ulor.loc.contains ("missing" : Str) = true := (show R_ulor.loc.contains ("missing" : Str) = true from (by decide +kernel))
theorem lc_ulor_orders : R_ulor.loc.contains ("orders" : Str) = true := (show R_ulor.loc.contains ("orders" : Str) = true from (by decide +kernel))
theorem lc_ulor_sign : R_ulor.loc.contains ("sign" : Str) = true := (show R_ulor.loc.contains ("sign" : Str) = true from (by decide +kernel))
theorem lc_ulor_told : R_ulor.loc.contains ("told" : Str) = true := (show R_ulor.loc.contains ("told" : Str) = true from (by decide +kernel))
theorem lc_ulor_word : R_ulor.cel.contains ("word" : Str) = true := (show R_ulor.cel.contains ("word" : Str) = true from (by decide +kernel))
theorem v_ulor_fits {pos : Pos} {k : Nat} : EvOK W R_ulor k (.Name "fits" pos) (pVar 5) := EvOK.var sl_ulor_fits (by decide +kernel) (by decide +kernel)
theorem v_ulor_heap {pos : Pos} {k : Nat} : EvOK W R_ulor k (.Name "heap" pos) (pVar 2) := EvOK.var sl_ulor_heap (by decide +kernel) (by decide +kernel)
theorem v_ulor_left {pos : Pos} {k : Nat} : EvOK W R_ulor k (.Name "left" pos) (pVar 8) := EvOK.var sl_ulor_left (by decide +kernel) (by decide +kernel)
theorem v_ulor_missing {pos : Pos} {k : Nat} : EvOK W R_ulor k (.Name "missing" pos) (pVar 7) := EvOK.var sl_ulor_missing (by decide +kernel) (by decide +kernel)
theorem v_ulor_orders {pos : Pos} {k : Nat} : EvOK W R_ulor k (.Name "orders" pos) (pVar 3) := EvOK.var sl_ulor_orders (by decide +kernel) (by decide +kernel)
theorem v_ulor_sign {pos : Pos} {k : Nat} : EvOK W R_ulor k (.Name "sign" pos) (pVar 9) := EvOK.var sl_ulor_sign (by decide +kernel) (by decide +kernel)
theorem v_ulor_takes {pos : Pos} {k : Nat} : EvOK W R_ulor k (.Name "takes" pos) (pVar 1) := EvOK.var sl_ulor_takes (by decide +kernel) (by decide +kernel)
theorem v_ulor_told {pos : Pos} {k : Nat} : EvOK W R_ulor k (.Name "told" pos) (pVar 6) := EvOK.var sl_ulor_told (by decide +kernel) (by decide +kernel)
theorem v_ulor_word {pos : Pos} {k : Nat} : EvOK W R_ulor k (.Name "word" pos) (pVar 4) := EvOK.var sl_ulor_word (by decide +kernel) (by decide +kernel)
theorem s_ulor_fits : StoreAt R_ulor "fits" 5 := ⟨sl_ulor_fits, .inr lc_ulor_fits⟩
theorem s_ulor_heap : StoreAt R_ulor "heap" 2 := ⟨sl_ulor_heap, .inl lc_ulor_heap⟩
theorem s_ulor_left : StoreAt R_ulor "left" 8 := ⟨sl_ulor_left, .inl lc_ulor_left⟩
theorem s_ulor_missing : StoreAt R_ulor "missing" 7 := ⟨sl_ulor_missing, .inl lc_ulor_missing⟩
theorem s_ulor_orders : StoreAt R_ulor "orders" 3 := ⟨sl_ulor_orders, .inl lc_ulor_orders⟩
theorem s_ulor_sign : StoreAt R_ulor "sign" 9 := ⟨sl_ulor_sign, .inl lc_ulor_sign⟩
theorem s_ulor_told : StoreAt R_ulor "told" 6 := ⟨sl_ulor_told, .inl lc_ulor_told⟩
theorem s_ulor_word : StoreAt R_ulor "word" 4 := ⟨sl_ulor_word, .inr lc_ulor_word⟩
noncomputable def own_ulor : List (Str × Bool) := [("takes", false), ("heap", false), ("orders", false), ("word", true), ("fits", true), ("told", false), ("missing", false), ("left", false), ("sign", false)]
noncomputable def F_ulor : PS := (sSeq (sSwap [2, 3] (pTup [(pList []), (pList [])])) (sSeq (sExpr (pCall (P_heappush) [pVar 2, (pConst (.str []))])) (sSeq (sWhile (pTruth (pVar 2)) (sSeq (sAsg 4 (pCall (P_heappop) [pVar 2])) (sSeq (sIf (pCmpB cEq (pCall fLen [pVar 4]) (pCall fLen [pVar 1])) (sSeq (sExpr (pMeth .list mAppend (pVar 3) [pVar 4])) (sNil)) (sSeq (sAsg 5 (pBin aItem (pVar 1) (pCall fLen [pVar 4]))) (sSeq (sAsg 6 (pCall (P_uldf) [(pCall fList [pVar 4]), (pSlice (pVar 5) none none)])) (sSeq (sAsg 7 (pComp 2 (iOf (pRev (pVar 4))) (.nm 1) (pCmpB cNotIn (pVar 1) (pVar 7)) (pVar 1))) (sSeq (sAsg 8 (pComp 2 (iOf (pVar 5)) (.nm 1) (pCmpB cNotIn (pVar 1) (pVar 6)) (pVar 1))) (sSeq (sIf (pCmpB cNe (pVar 6) (pTup [pVar 7, pVar 8])) (sSeq (sRet (pList [(pConst (.str []))])) (sNil)) (sNil)) (sSeq (sFor (iOf (pVar 8)) (.nm 9) (sSeq (sExpr (pCall (P_heappush) [pVar 2, (pBin oAdd (pVar 4) (pVar 9))])) (sNil))) (sNil)))))))) (sNil)))) (sSeq (sRet (pVar 3)) (sNil)))))
theorem fs_ulor (H : Given W) : FsOK W R_ulor 3 (bodyAt 24) (F_ulor) :=
 (FsOK.cons (ExOK.swap (names := ["heap", "orders"]) (by intro p hp; simp only [List.zip_cons_cons, List.zip_nil_right, List.zip_nil_left, List.reverse_cons, List.reverse_nil, List.nil_append, List.cons_append, List.mem_cons, List.not_mem_nil, or_false] at hp; rcases hp with rfl | rfl <;> first | exact s_ulor_heap | exact s_ulor_orders) rfl (EvOK.tup (.cons (EvOK.list .nil (by decide +kernel)) (fun _ _ => rfl) (.cons (EvOK.list .nil (by decide +kernel)) (fun _ _ => rfl) .nil)) (by decide +kernel)) (fun _ => rfl) (fun _ h1 h2 => swapped_two h1 (h2 _ (.head _)) (h2 _ (.tail _ (.head _))) rfl (by decide +kernel) rfl rfl rfl) (by decide +kernel)) (FsOK.cons (ExOK.expr (EvOK.call gl_ulor_heappush (H.fn 4 rfl).1 (by decide +kernel) (H.fn 4 rfl).2.fn (ok_heappush H) (by omega) (.cons v_ulor_heap (fun _ _ => rfl) (.cons (EvOK.str (by decide +kernel)) (fun _ _ => rfl) .nil))) (fun _ => rfl)) (FsOK.cons (ExOK.while (BtOK.val' v_ulor_heap (fun _ _ => rfl)) (FsOK.cons (ExOK.asg s_ulor_word (EvOK.call gl_ulor_heappop (H.fn 5 rfl).1 (by decide +kernel) (H.fn 5 rfl).2.fn (ok_heappop H) (by omega) (.cons v_ulor_heap (fun _ _ => rfl) .nil)) (fun _ _ _ => rfl)) (FsOK.cons (ExOK.ite (BtOK.cmp eq_ok (EvOK.callB gl_ulor_len (H.nb 0 rfl) (by decide +kernel) (by decide +kernel) (by decide +kernel) len_fun (.cons v_ulor_word (fun _ _ => rfl) .nil)) (EvOK.callB gl_ulor_len (H.nb 0 rfl) (by decide +kernel) (by decide +kernel) (by decide +kernel) len_fun (.cons v_ulor_takes (fun _ _ => rfl) .nil)) rfl) (FsOK.cons (ExOK.expr (EvOK.meth (t := .list) F.plainAttrs_list F.slot_list_append F.type_list_append (fun _ => rfl) rfl (by decide +kernel) append_meth v_ulor_orders (.cons v_ulor_word (fun _ _ => rfl) .nil)) (fun _ => rfl)) FsOK.nil) (FsOK.cons (ExOK.asg s_ulor_fits (EvOK.item v_ulor_takes (EvOK.callB gl_ulor_len (H.nb 0 rfl) (by decide +kernel) (by decide +kernel) (by decide +kernel) len_fun (.cons v_ulor_word (fun _ _ => rfl) .nil))) (fun _ _ _ => rfl)) (FsOK.cons (ExOK.asg s_ulor_told (EvOK.call gl_ulor_uldf (H.fn 0 rfl).1 (by decide +kernel) (H.fn 0 rfl).2.fn (ok_uldf H) (by omega) (.cons (EvOK.callT gl_ulor_list (H.nb 4 rfl) (by decide +kernel) (by decide +kernel) (by decide +kernel) list_typ (.cons v_ulor_word (fun _ _ => rfl) .nil)) (fun _ _ => rfl) (.cons (EvOK.slice (fl := none) (fu := none) v_ulor_fits trivial trivial) (fun _ _ => rfl) .nil))) (fun _ _ _ => rfl)) (FsOK.cons (ExOK.asgComp s_ulor_missing (own := [(".0", false), ("sign", false)]) (cap := [("fits", 5)]) (R' := R_ulor_c1) (CompSpec.of (by decide +kernel)) (ItEv.of (EvOK.rev v_ulor_word)) (.nm s_ulor_c1_sign) (show (1 : Nat) < 2 by decide) (.one (BtOK.cmp notIn_ok v_ulor_c1_sign v_ulor_c1_fits rfl)) v_ulor_c1_sign (fun _ _ => rfl) (by decide +kernel) (fun _ h1 h2 => swaps_loc h1 h2 rfl (by decide +kernel))) (FsOK.cons (ExOK.asgComp s_ulor_left (own := [(".0", false), ("sign", false)]) (cap := [("word", 4)]) (R' := R_ulor_c2) (CompSpec.of (by decide +kernel)) (ItEv.of v_ulor_fits) (.nm s_ulor_c2_sign) (show (1 : Nat) < 2 by decide) (.one (BtOK.cmp notIn_ok v_ulor_c2_sign v_ulor_c2_word rfl)) v_ulor_c2_sign (fun _ _ => rfl) (by decide +kernel) (fun _ h1 h2 => swaps_loc h1 h2 rfl (by decide +kernel))) (FsOK.cons (ExOK.ite (BtOK.cmp ne_ok v_ulor_told (EvOK.tup (.cons v_ulor_missing (fun _ _ => rfl) (.cons v_ulor_left (fun _ _ => rfl) .nil)) (by decide +kernel)) rfl) (FsOK.cons (ExOK.ret (EvOK.list (.cons (EvOK.str (by decide +kernel)) (fun _ _ => rfl) .nil) (by decide +kernel))) FsOK.nil) FsOK.nil) (FsOK.cons (ExOK.for (.nm s_ulor_sign) (ItEv.of v_ulor_left) (FsOK.cons (ExOK.expr (EvOK.call gl_ulor_heappush (H.fn 4 rfl).1 (by decide +kernel) (H.fn 4 rfl).2.fn (ok_heappush H) (by omega) (.cons v_ulor_heap (fun _ _ => rfl) (.cons (EvOK.bin add_ok v_ulor_word v_ulor_sign) (fun _ _ => rfl) .nil))) (fun _ => rfl)) FsOK.nil) (fun _ _ => rfl)) FsOK.nil))))))) FsOK.nil))) (FsOK.cons (ExOK.ret v_ulor_orders) FsOK.nil))))
theorem sp_ulor : FnSpec (scopeAt 24) own_ulor 1 R_ulor := FnSpec.of_b (show fnSpecB (scopeAt 24) own_ulor 1 R_ulor = true from (by decide +kernel))
noncomputable def P_ulor : PF := bodyF 1 9 (F_ulor)
theorem ok_ulor (H : Given W) : CallOK W 4 (H.a "_law_orders") (P_ulor) := CallOK.of_body (H.fn 14 rfl).2 sp_ulor (fs_ulor H) (fun vals hv pm code doc => by
 obtain ⟨x0, rfl⟩ := len1 hv; rfl)
noncomputable def R_ulsz : Rs := { slots := [("code", 1)], globs := [], loc := ["code"], cel := [], capt := [] }
theorem sl_ulsz_code : R_ulsz.slots.lookup ("code" : Str) = some 1 := (show R_ulsz.slots.lookup ("code" : Str) = some 1 from (by decide +kernel))
theorem v_ulsz_code {pos : Pos} {k : Nat} : EvOK W R_ulsz k (.Name "code" pos) (pVar 1) := EvOK.var sl_ulsz_code (by decide +kernel) (by decide +kernel)
noncomputable def own_ulsz : List (Str × Bool) := [("code", false)]
noncomputable def F_ulsz : PS := (sSeq (sRet (pBin oAdd (pBin oAdd (pBin oAdd (pBin oMod (pVar 1) (pConst (.int 2))) (pBin oMod (pBin oFdiv (pVar 1) (pConst (.int 2))) (pConst (.int 2)))) (pBin oMod (pBin oFdiv (pVar 1) (pConst (.int 4))) (pConst (.int 2)))) (pBin oMod (pBin oFdiv (pVar 1) (pConst (.int 8))) (pConst (.int 2))))) (sNil))
theorem fs_ulsz (H : Given W) : FsOK W R_ulsz 0 (bodyAt 25) (F_ulsz) :=
 (FsOK.cons (ExOK.ret (EvOK.bin add_ok (EvOK.bin add_ok (EvOK.bin add_ok (EvOK.bin mod_ok v_ulsz_code EvOK.int) (EvOK.bin mod_ok (EvOK.bin fdiv_ok v_ulsz_code EvOK.int) EvOK.int)) (EvOK.bin mod_ok (EvOK.bin fdiv_ok v_ulsz_code EvOK.int) EvOK.int)) (EvOK.bin mod_ok (EvOK.bin fdiv_ok v_ulsz_code EvOK.int) EvOK.int))) FsOK.nil)
theorem sp_ulsz : FnSpec (scopeAt 25) own_ulsz 1 R_ulsz := FnSpec.of_b (show fnSpecB (scopeAt 25) own_ulsz 1 R_ulsz = true from (by decide +kernel))
noncomputable def P_ulsz : PF := bodyF 1 1 (F_ulsz)
theorem ok_ulsz (H : Given W) : CallOK W 1 (H.a "_law_size") (P_ulsz) := CallOK.of_body (H.fn 15 rfl).2 sp_ulsz (fs_ulsz H) (fun vals hv pm code doc => by
 obtain ⟨x0, rfl⟩ := len1 hv; rfl)
noncomputable def R_ulam : Rs := { slots := [("codes", 1), ("amount", 2), ("choice", 3), ("product", 4), ("code", 5)], globs := ["range", "_law_size"], loc := ["codes", "amount", "choice", "product", "code"], cel := [], capt := [] }
theorem sl_ulam_amount : R_ulam.slots.lookup ("amount" : Str) = some 2 := (show R_ulam.slots.lookup ("amount" : Str) = some 2 from (by decide +kernel))
theorem sl_ulam_choice : R_ulam.slots.lookup ("choice" : Str) = some 3 := (show R_ulam.slots.lookup ("choice" : Str) = some 3 from (by decide +kernel))
theorem sl_ulam_code : R_ulam.slots.lookup ("code" : Str) = some 5 := (show R_ulam.slots.lookup ("code" : Str) = some 5 from (by decide +kernel))
theorem sl_ulam_codes : R_ulam.slots.lookup ("codes" : Str) = some 1 := (show R_ulam.slots.lookup ("codes" : Str) = some 1 from (by decide +kernel))
theorem sl_ulam_product : R_ulam.slots.lookup ("product" : Str) = some 4 := (show R_ulam.slots.lookup ("product" : Str) = some 4 from (by decide +kernel))
theorem gl_ulam_ulsz : R_ulam.globs.contains ("_law_size" : Str) = true := (show R_ulam.globs.contains ("_law_size" : Str) = true from (by decide +kernel))
theorem gl_ulam_range : R_ulam.globs.contains ("range" : Str) = true := (show R_ulam.globs.contains ("range" : Str) = true from (by decide +kernel))
theorem lc_ulam_amount : R_ulam.loc.contains ("amount" : Str) = true := (show R_ulam.loc.contains ("amount" : Str) = true from (by decide +kernel))
theorem lc_ulam_choice : R_ulam.loc.contains ("choice" : Str) = true := (show R_ulam.loc.contains ("choice" : Str) = true from (by decide +kernel))
theorem lc_ulam_code : R_ulam.loc.contains ("code" : Str) = true := (show R_ulam.loc.contains ("code" : Str) = true from (by decide +kernel))
theorem lc_ulam_product : R_ulam.loc.contains ("product" : Str) = true := (show R_ulam.loc.contains ("product" : Str) = true from (by decide +kernel))
theorem v_ulam_amount {pos : Pos} {k : Nat} : EvOK W R_ulam k (.Name "amount" pos) (pVar 2) := EvOK.var sl_ulam_amount (by decide +kernel) (by decide +kernel)
theorem v_ulam_choice {pos : Pos} {k : Nat} : EvOK W R_ulam k (.Name "choice" pos) (pVar 3) := EvOK.var sl_ulam_choice (by decide +kernel) (by decide +kernel)
theorem v_ulam_code {pos : Pos} {k : Nat} : EvOK W R_ulam k (.Name "code" pos) (pVar 5) := EvOK.var sl_ulam_code (by decide +kernel) (by decide +kernel)
theorem v_ulam_codes {pos : Pos} {k : Nat} : EvOK W R_ulam k (.Name "codes" pos) (pVar 1) := EvOK.var sl_ulam_codes (by decide +kernel) (by decide +kernel)
theorem v_ulam_product {pos : Pos} {k : Nat} : EvOK W R_ulam k (.Name "product" pos) (pVar 4) := EvOK.var sl_ulam_product (by decide +kernel) (by decide +kernel)
theorem s_ulam_amount : StoreAt R_ulam "amount" 2 := ⟨sl_ulam_amount, .inl lc_ulam_amount⟩
theorem s_ulam_choice : StoreAt R_ulam "choice" 3 := ⟨sl_ulam_choice, .inl lc_ulam_choice⟩
theorem s_ulam_code : StoreAt R_ulam "code" 5 := ⟨sl_ulam_code, .inl lc_ulam_code⟩
theorem s_ulam_product : StoreAt R_ulam "product" 4 := ⟨sl_ulam_product, .inl lc_ulam_product⟩
noncomputable def own_ulam : List (Str × Bool) := [("codes", false), ("amount", false), ("choice", false), ("product", false), ("code", false)]
noncomputable def F_ulam : PS := (sSeq (sAsg 2 (pConst (.int 0))) (sSeq (sFor (iRange [(pConst (.int 16))]) (.nm 3) (sSeq (sAsg 4 (pBin oSub (pConst (.int 1)) (pBin oMul (pBin oMod (pCall (P_ulsz) [pVar 3]) (pConst (.int 2))) (pConst (.int 2))))) (sSeq (sFor (iOf (pVar 1)) (.nm 5) (sSeq (sAug 4 oMul (pCall (P_ulsz) [(pBin oAnd (pVar 5) (pVar 3))])) (sNil))) (sSeq (sAug 2 oAdd (pVar 4)) (sNil))))) (sSeq (sRet (pVar 2)) (sNil))))
theorem fs_ulam (H : Given W) : FsOK W R_ulam 1 (bodyAt 26) (F_ulam) :=
 (FsOK.cons (ExOK.asg s_ulam_amount EvOK.int (fun _ _ _ => rfl)) (FsOK.cons (ExOK.for (.nm s_ulam_choice) (ItEv.range gl_ulam_range (H.nb 7 rfl) (by decide +kernel) (by decide +kernel) (by decide +kernel) (.cons EvOK.int (fun _ _ => rfl) .nil)) (FsOK.cons (ExOK.asg s_ulam_product (EvOK.bin sub_ok EvOK.int (EvOK.bin mul_ok (EvOK.bin mod_ok (EvOK.call gl_ulam_ulsz (H.fn 15 rfl).1 (by decide +kernel) (H.fn 15 rfl).2.fn (ok_ulsz H) (by omega) (.cons v_ulam_choice (fun _ _ => rfl) .nil)) EvOK.int) EvOK.int)) (fun _ _ _ => rfl)) (FsOK.cons (ExOK.for (.nm s_ulam_code) (ItEv.of v_ulam_codes) (FsOK.cons (ExOK.aug s_ulam_product (by decide +kernel) imul_ok (EvOK.call gl_ulam_ulsz (H.fn 15 rfl).1 (by decide +kernel) (H.fn 15 rfl).2.fn (ok_ulsz H) (by omega) (.cons (EvOK.bin and_ok v_ulam_code v_ulam_choice) (fun _ _ => rfl) .nil))) FsOK.nil) (fun _ _ => rfl)) (FsOK.cons (ExOK.aug s_ulam_amount (by decide +kernel) iadd_ok v_ulam_product) FsOK.nil))) (fun _ _ => rfl)) (FsOK.cons (ExOK.ret v_ulam_amount) FsOK.nil)))
theorem sp_ulam : FnSpec (scopeAt 26) own_ulam 1 R_ulam := FnSpec.of_b (show fnSpecB (scopeAt 26) own_ulam 1 R_ulam = true from (by decide +kernel))
noncomputable def P_ulam : PF := bodyF 1 5 (F_ulam)
theorem ok_ulam (H : Given W) : CallOK W 2 (H.a "_law_amount") (P_ulam) := CallOK.of_body (H.fn 16 rfl).2 sp_ulam (fs_ulam H) (fun vals hv pm code doc => by
 obtain ⟨x0, rfl⟩ := len1 hv; rfl)
noncomputable def R_ujtp : Rs := { slots := [("inp", 1), ("STAR", 2), ("res", 3), ("add", 4), ("i", 5), ("n", 6), ("fixed", 7)], globs := ["len"], loc := ["inp", "STAR", "res", "add", "i", "n", "fixed"], cel := [], capt := [] }
theorem sl_ujtp_STAR : R_ujtp.slots.lookup ("STAR" : Str) = some 2 := (show R_ujtp.slots.lookup ("STAR" : Str) = some 2 from (by decide +kernel))
theorem sl_ujtp_add : R_ujtp.slots.lookup ("add" : Str) = some 4 := (show R_ujtp.slots.lookup ("add" : Str) = some 4 from (by decide +kernel))
theorem sl_ujtp_i : R_ujtp.slots.lookup ("i" : Str) = some 5 := (show R_ujtp.slots.lookup ("i" : Str) = some 5 from (by decide +kernel))
theorem sl_ujtp_inp : R_ujtp.slots.lookup ("inp" : Str) = some 1 := (show R_ujtp.slots.lookup ("inp" : Str) = some 1 from (by decide +kernel))
theorem sl_ujtp_n : R_ujtp.slots.lookup ("n" : Str) = some 6 := (show R_ujtp.slots.lookup ("n" : Str) = some 6 from (by decide +kernel))
theorem sl_ujtp_res : R_ujtp.slots.lookup ("res" : Str) = some 3 := (show R_ujtp.slots.lookup ("res" : Str) = some 3 from (by decide +kernel))
theorem gl_ujtp_len : R_ujtp.globs.contains ("len" : Str) = true := (show R_ujtp.globs.contains ("len" : Str) = true from (by decide +kernel))
theorem lc_ujtp_add : R_ujtp.loc.contains ("add" : Str) = true := (show R_ujtp.loc.contains ("add" : Str) = true from (by decide +kernel))
theorem lc_ujtp_i : R_ujtp.loc.contains ("i" : Str) = true := (show R_ujtp.loc.contains ("i" : Str) = true from (by decide +kernel))
theorem lc_ujtp_n : R_ujtp.loc.contains ("n" : Str) = true := (show R_ujtp.loc.contains ("n" : Str) = true from (by decide +kernel))
theorem lc_ujtp_res : R_ujtp.loc.contains ("res" : Str) = true := (show R_ujtp.loc.contains ("res" : Str) = true from (by decide +kernel))
theorem v_ujtp_STAR {pos : Pos} {k : Nat} : EvOK W R_ujtp k (.Name "STAR" pos) (pVar 2) := EvOK.var sl_ujtp_STAR (by decide +kernel) (by decide +kernel)
theorem v_ujtp_i {pos : Pos} {k : Nat} : EvOK W R_ujtp k (.Name "i" pos) (pVar 5) := EvOK.var sl_ujtp_i (by decide +kernel) (by decide +kernel)
theorem v_ujtp_inp {pos : Pos} {k : Nat} : EvOK W R_ujtp k (.Name "inp" pos) (pVar 1) := EvOK.var sl_ujtp_inp (by decide +kernel) (by decide +kernel)
theorem v_ujtp_n {pos : Pos} {k : Nat} : EvOK W R_ujtp k (.Name "n" pos) (pVar 6) := EvOK.var sl_ujtp_n (by decide +kernel) (by decide +kernel)
theorem v_ujtp_res {pos : Pos} {k : Nat} : EvOK W R_ujtp k (.Name "res" pos) (pVar 3) := EvOK.var sl_ujtp_res (by decide +kernel) (by decide +kernel)
theorem s_ujtp_add : StoreAt R_ujtp "add" 4 := ⟨sl_ujtp_add, .inl lc_ujtp_add⟩
theorem s_ujtp_i : StoreAt R_ujtp "i" 5 := ⟨sl_ujtp_i, .inl lc_ujtp_i⟩
theorem s_ujtp_n : StoreAt R_ujtp "n" 6 := ⟨sl_ujtp_n, .inl lc_ujtp_n⟩
theorem s_ujtp_res : StoreAt R_ujtp "res" 3 := ⟨sl_ujtp_res, .inl lc_ujtp_res⟩
noncomputable def own_ujtp : List (Str × Bool) := [("inp", false), ("STAR", false), ("res", false), ("add", false), ("i", false), ("n", false), ("fixed", false)]
noncomputable def F_ujtp : PS := (sSeq (sAsg 3 (pList [])) (sSeq (sAsg 4 (pAttrApp (pVar 3))) (sSeq (sSwap [5, 6] (pTup [(pConst (.int 0)), (pCall fLen [pVar 1])])) (sSeq (sWhile (pAndB (pCmpB cLt (pVar 5) (pVar 6)) (pCmpB cIsNot (pBin aItem (pVar 1) (pVar 5)) (pVar 2))) (sSeq (sExpr (pCallM 4 [(pBin aItem (pVar 1) (pVar 5))])) (sSeq (sAug 5 oAdd (pConst (.int 1))) (sNil)))) (sSeq (sWhile (pCmpB cLt (pVar 5) (pVar 6)) (fun _ _ => none)) (sSeq (sAssert (pCmpB cEq (pVar 5) (pVar 6))) (sSeq (sAsg 3 (pMeth .str mJoin (pConst (.str [])) [pVar 3])) (sSeq (sRet (pJoin3 (pConst (.str [40, 63, 115, 58])) (pFmt (pVar 3)) (pConst (.str [41, 92, 90])))) (sNil)))))))))
theorem fs_ujtp (H : Given W) : FsOK W R_ujtp 0 (bodyAt 11) (F_ujtp) :=
 (FsOK.cons (ExOK.asg s_ujtp_res (EvOK.list .nil (by decide +kernel)) (fun _ _ _ => rfl)) (FsOK.cons (ExOK.asg s_ujtp_add (EvOK.attrApp (fun _ => rfl) v_ujtp_res) (fun _ _ _ => rfl)) (FsOK.cons (ExOK.swap (names := ["i", "n"]) (by intro p hp; simp only [List.zip_cons_cons, List.zip_nil_right, List.zip_nil_left, List.reverse_cons, List.reverse_nil, List.nil_append, List.cons_append, List.mem_cons, List.not_mem_nil, or_false] at hp; rcases hp with rfl | rfl <;> first | exact s_ujtp_i | exact s_ujtp_n) rfl (EvOK.tup (.cons EvOK.int (fun _ _ => rfl) (.cons (EvOK.callB gl_ujtp_len (H.nb 0 rfl) (by decide +kernel) (by decide +kernel) (by decide +kernel) len_fun (.cons v_ujtp_inp (fun _ _ => rfl) .nil)) (fun _ _ => rfl) .nil)) (by decide +kernel)) (fun _ => rfl) (fun _ h1 h2 => swapped_two h1 (h2 _ (.head _)) (h2 _ (.tail _ (.head _))) rfl (by decide +kernel) rfl rfl rfl) (by decide +kernel)) (FsOK.cons (ExOK.while (BtOK.and (BtOK.cmp lt_ok v_ujtp_i v_ujtp_n rfl) (BtOK.cmp isNot_ok (EvOK.item v_ujtp_inp v_ujtp_i) v_ujtp_STAR rfl)) (FsOK.cons (ExOK.expr (EvOK.callM sl_ujtp_add (by decide +kernel) (by decide +kernel) (.cons (EvOK.item v_ujtp_inp v_ujtp_i) (fun _ _ => rfl) .nil)) (fun _ => rfl)) (FsOK.cons (ExOK.aug s_ujtp_i (by decide +kernel) iadd_ok EvOK.int) FsOK.nil))) (FsOK.cons (ExOK.while (BtOK.cmp lt_ok v_ujtp_i v_ujtp_n rfl) FsOK.dead) (FsOK.cons (ExOK.assert (BtOK.cmp eq_ok v_ujtp_i v_ujtp_n rfl)) (FsOK.cons (ExOK.asg s_ujtp_res (EvOK.meth (t := .str) F.plainAttrs_str F.slot_str_join F.type_str_join (fun _ => rfl) rfl (by decide +kernel) join_meth (EvOK.str (by decide +kernel)) (.cons v_ujtp_res (fun _ _ => rfl) .nil)) (fun _ _ _ => rfl)) (FsOK.cons (ExOK.ret (EvOK.fstr (EvOK.str (by decide +kernel)) (EvOK.fmt v_ujtp_res) (EvOK.str (by decide +kernel)))) FsOK.nil))))))))
theorem sp_ujtp : FnSpec (scopeAt 11) own_ujtp 2 R_ujtp := FnSpec.of_b (show fnSpecB (scopeAt 11) own_ujtp 2 R_ujtp = true from (by decide +kernel))
noncomputable def P_ujtp : PF := bodyF 2 7 (F_ujtp)
theorem ok_ujtp (H : Given W) : CallOK W 1 (H.a "_join_translated_parts") (P_ujtp) := CallOK.of_body (H.fn 3 rfl).2 sp_ujtp (fs_ujtp H) (fun vals hv pm code doc => by
 obtain ⟨x0, x1, rfl⟩ := len2 hv; rfl)
end MH
noncomputable section MI
open PySem PySem.W PySem.Calls PyProof.Rows
set_option maxHeartbeats 4000000
variable {W : Wd}
noncomputable def Rb_utr : Rs := { slots := [("pat", 1), ("STAR", 2), ("QUESTION_MARK", 3), ("res", 4), ("add", 5), ("i", 6), ("n", 7), ("c", 8), ("j", 9), ("stuff", 10), ("chunks", 11), ("k", 12), ("chunk", 13)], globs := ["len", "range", "_twin_re_1"], loc := ["pat", "STAR", "QUESTION_MARK", "res", "add", "i", "n", "c", "j", "stuff", "chunks", "k", "chunk"], cel := [], capt := [] }
noncomputable def R_utr (c : Addr) : Rs := { Rb_utr with code := some (.ref c) }
theorem sl_utr_add {c : Addr} : (R_utr c).slots.lookup ("add" : Str) = some 5 := (show Rb_utr.slots.lookup ("add" : Str) = some 5 from (by decide +kernel))
theorem sl_utr_c {c : Addr} : (R_utr c).slots.lookup ("c" : Str) = some 8 := (show Rb_utr.slots.lookup ("c" : Str) = some 8 from (by decide +kernel))
theorem sl_utr_chunk {c : Addr} : (R_utr c).slots.lookup ("chunk" : Str) = some 13 := (show Rb_utr.slots.lookup ("chunk" : Str) = some 13 from (by decide +kernel))
theorem sl_utr_chunks {c : Addr} : (R_utr c).slots.lookup ("chunks" : Str) = some 11 := (show Rb_utr.slots.lookup ("chunks" : Str) = some 11 from (by decide +kernel))
theorem sl_utr_i {c : Addr} : (R_utr c).slots.lookup ("i" : Str) = some 6 := (show Rb_utr.slots.lookup ("i" : Str) = some 6 from (by decide +kernel))
theorem sl_utr_j {c : Addr} : (R_utr c).slots.lookup ("j" : Str) = some 9 := (show Rb_utr.slots.lookup ("j" : Str) = some 9 from (by decide +kernel))
theorem sl_utr_k {c : Addr} : (R_utr c).slots.lookup ("k" : Str) = some 12 := (show Rb_utr.slots.lookup ("k" : Str) = some 12 from (by decide +kernel))
theorem sl_utr_n {c : Addr} : (R_utr c).slots.lookup ("n" : Str) = some 7 := (show Rb_utr.slots.lookup ("n" : Str) = some 7 from (by decide +kernel))
theorem sl_utr_pat {c : Addr} : (R_utr c).slots.lookup ("pat" : Str) = some 1 := (show Rb_utr.slots.lookup ("pat" : Str) = some 1 from (by decide +kernel))
theorem sl_utr_res {c : Addr} : (R_utr c).slots.lookup ("res" : Str) = some 4 := (show Rb_utr.slots.lookup ("res" : Str) = some 4 from (by decide +kernel))
theorem sl_utr_stuff {c : Addr} : (R_utr c).slots.lookup ("stuff" : Str) = some 10 := (show Rb_utr.slots.lookup ("stuff" : Str) = some 10 from (by decide +kernel))
theorem gl_utr_u_twin_re_1 {c : Addr} : (R_utr c).globs.contains ("_twin_re_1" : Str) = true := (show Rb_utr.globs.contains ("_twin_re_1" : Str) = true from (by decide +kernel))
theorem gl_utr_len {c : Addr} : (R_utr c).globs.contains ("len" : Str) = true := (show Rb_utr.globs.contains ("len" : Str) = true from (by decide +kernel))
theorem gl_utr_range {c : Addr} : (R_utr c).globs.contains ("range" : Str) = true := (show Rb_utr.globs.contains ("range" : Str) = true from (by decide +kernel))
theorem lc_utr_add {c : Addr} : (R_utr c).loc.contains ("add" : Str) = true := (show Rb_utr.loc.contains ("add" : Str) = true from (by decide +kernel))
theorem lc_utr_c {c : Addr} : (R_utr c).loc.contains ("c" : Str) = true := (show Rb_utr.loc.contains ("c" : Str) = true from (by decide +kernel))
theorem lc_utr_chunk {c : Addr} : (R_utr c).loc.contains ("chunk" : Str) = true := (show Rb_utr.loc.contains ("chunk" : Str) = true from (by decide +kernel))
theorem lc_utr_chunks {c : Addr} : (R_utr c).loc.contains ("chunks" : Str) = true := (show Rb_utr.loc.contains ("chunks" : Str) = true from (by decide +kernel))
theorem lc_utr_i {c : Addr} : (R_utr c).loc.contains ("i" : Str) = true := (show Rb_utr.loc.contains ("i" : Str) = true from (by decide +kernel))
theorem lc_utr_j {c : Addr} : (R_utr c).loc.contains ("j" : Str) = true := (show Rb_utr.loc.contains ("j" : Str) = true from (by decide +kernel))
theorem lc_utr_k {c : Addr} : (R_utr c).loc.contains ("k" : Str) = true := (show Rb_utr.loc.contains ("k" : Str) = true from (by decide +kernel))
theorem lc_utr_n {c : Addr} : (R_utr c).loc.contains ("n" : Str) = true := (show Rb_utr.loc.contains ("n" : Str) = true from (by decide +kernel))
theorem lc_utr_res {c : Addr} : (R_utr c).loc.contains ("res" : Str) = true := (show Rb_utr.loc.contains ("res" : Str) = true from (by decide +kernel))
theorem lc_utr_stuff {c : Addr} : (R_utr c).loc.contains ("stuff" : Str) = true := (show Rb_utr.loc.contains ("stuff" : Str) = true from (by decide +kernel))
theorem v_utr_c {c : Addr} {pos : Pos} {k : Nat} : EvOK W (R_utr c) k (.Name "c" pos) (pVar 8) := EvOK.var sl_utr_c (by decide +kernel) (by decide +kernel)
theorem v_utr_chunk {c : Addr} {pos : Pos} {k : Nat} : EvOK W (R_utr c) k (.Name "chunk" pos) (pVar 13) := EvOK.var sl_utr_chunk (by decide +kernel) (by decide +kernel)
theorem v_utr_chunks {c : Addr} {pos : Pos} {k : Nat} : EvOK W (R_utr c) k (.Name "chunks" pos) (pVar 11) := EvOK.var sl_utr_chunks (by decide +kernel) (by decide +kernel)
theorem v_utr_i {c : Addr} {pos : Pos} {k : Nat} : EvOK W (R_utr c) k (.Name "i" pos) (pVar 6) := EvOK.var sl_utr_i (by decide +kernel) (by decide +kernel)
theorem v_utr_j {c : Addr} {pos : Pos} {k : Nat} : EvOK W (R_utr c) k (.Name "j" pos) (pVar 9) := EvOK.var sl_utr_j (by decide +kernel) (by decide +kernel)
theorem v_utr_k {c : Addr} {pos : Pos} {k : Nat} : EvOK W (R_utr c) k (.Name "k" pos) (pVar 12) := EvOK.var sl_utr_k (by decide +kernel) (by decide +kernel)
theorem v_utr_n {c : Addr} {pos : Pos} {k : Nat} : EvOK W (R_utr c) k (.Name "n" pos) (pVar 7) := EvOK.var sl_utr_n (by decide +kernel) (by decide +kernel)
theorem v_utr_pat {c : Addr} {pos : Pos} {k : Nat} : EvOK W (R_utr c) k (.Name "pat" pos) (pVar 1) := EvOK.var sl_utr_pat (by decide +kernel) (by decide +kernel)
theorem v_utr_res {c : Addr} {pos : Pos} {k : Nat} : EvOK W (R_utr c) k (.Name "res" pos) (pVar 4) := EvOK.var sl_utr_res (by decide +kernel) (by decide +kernel)
theorem v_utr_stuff {c : Addr} {pos : Pos} {k : Nat} : EvOK W (R_utr c) k (.Name "stuff" pos) (pVar 10) := EvOK.var sl_utr_stuff (by decide +kernel) (by decide +kernel)
theorem s_utr_add {c : Addr} : StoreAt (R_utr c) "add" 5 := ⟨sl_utr_add, .inl lc_utr_add⟩
theorem s_utr_c {c : Addr} : StoreAt (R_utr c) "c" 8 := ⟨sl_utr_c, .inl lc_utr_c⟩
theorem s_utr_chunk {c : Addr} : StoreAt (R_utr c) "chunk" 13 := ⟨sl_utr_chunk, .inl lc_utr_chunk⟩
theorem s_utr_chunks {c : Addr} : StoreAt (R_utr c) "chunks" 11 := ⟨sl_utr_chunks, .inl lc_utr_chunks⟩
theorem s_utr_i {c : Addr} : StoreAt (R_utr c) "i" 6 := ⟨sl_utr_i, .inl lc_utr_i⟩
theorem s_utr_j {c : Addr} : StoreAt (R_utr c) "j" 9 := ⟨sl_utr_j, .inl lc_utr_j⟩
theorem s_utr_k {c : Addr} : StoreAt (R_utr c) "k" 12 := ⟨sl_utr_k, .inl lc_utr_k⟩
theorem s_utr_n {c : Addr} : StoreAt (R_utr c) "n" 7 := ⟨sl_utr_n, .inl lc_utr_n⟩
theorem s_utr_res {c : Addr} : StoreAt (R_utr c) "res" 4 := ⟨sl_utr_res, .inl lc_utr_res⟩
theorem s_utr_stuff {c : Addr} : StoreAt (R_utr c) "stuff" 10 := ⟨sl_utr_stuff, .inl lc_utr_stuff⟩
noncomputable def own_utr : List (Str × Bool) := [("pat", false), ("STAR", false), ("QUESTION_MARK", false), ("res", false), ("add", false), ("i", false), ("n", false), ("c", false), ("j", false), ("stuff", false), ("chunks", false), ("k", false), ("chunk", false)]
noncomputable def F_utr (P : Addr) : PS := (sSeq (sAsg 4 (pList [])) (sSeq (sAsg 5 (pAttrApp (pVar 4))) (sSeq (sSwap [6, 7] (pTup [(pConst (.int 0)), (pCall fLen [pVar 1])])) (sSeq (sWhile (pCmpB cLt (pVar 6) (pVar 7)) (sSeq (sAsg 8 (pBin aItem (pVar 1) (pVar 6))) (sSeq (sAsg 6 (pBin oAdd (pVar 6) (pConst (.int 1)))) (sSeq (sIf (pCmpB cEq (pVar 8) (pConst (.str [42]))) (fun _ _ => none) (sSeq (sIf (pCmpB cEq (pVar 8) (pConst (.str [63]))) (fun _ _ => none) (sSeq (sIf (pCmpB cEq (pVar 8) (pConst (.str [91]))) (sSeq (sAsg 9 (pVar 6)) (sSeq (sIf (pAndB (pCmpB cLt (pVar 9) (pVar 7)) (pCmpB cEq (pBin aItem (pVar 1) (pVar 9)) (pConst (.str [33])))) (sSeq (sAsg 9 (pBin oAdd (pVar 9) (pConst (.int 1)))) (sNil)) (sNil)) (sSeq (sIf (pAndB (pCmpB cLt (pVar 9) (pVar 7)) (pCmpB cEq (pBin aItem (pVar 1) (pVar 9)) (pConst (.str [93])))) (sSeq (sAsg 9 (pBin oAdd (pVar 9) (pConst (.int 1)))) (sNil)) (sNil)) (sSeq (sWhile (pAndB (pCmpB cLt (pVar 9) (pVar 7)) (pCmpB cNe (pBin aItem (pVar 1) (pVar 9)) (pConst (.str [93])))) (sSeq (sAsg 9 (pBin oAdd (pVar 9) (pConst (.int 1)))) (sNil))) (sSeq (sIf (pCmpB cGe (pVar 9) (pVar 7)) (fun _ _ => none) (sSeq (sAsg 10 (pSlice (pVar 1) (some (pVar 6)) (some (pVar 9)))) (sSeq (sIf (pCmpB cNotIn (pConst (.str [45])) (pVar 10)) (sSeq (sAsg 10 (pRepl 92 [92, 92] (pVar 10))) (sNil)) (sSeq (sAsg 11 (pList [])) (sSeq (sAsg 12 (pIte (pCmpB cEq (pBin aItem (pVar 1) (pVar 6)) (pConst (.str [33]))) (pBin oAdd (pVar 6) (pConst (.int 2))) (pBin oAdd (pVar 6) (pConst (.int 1))))) (sSeq (sWhile (pTruth (pConst (.bool true))) (sSeq (sAsg 12 (pMeth .str mFind (pVar 1) [(pConst (.str [45])), pVar 12, pVar 9])) (sSeq (sIf (pCmpB cLt (pVar 12) (pConst (.int 0))) (sSeq (sBrk) (sNil)) (sNil)) (sSeq (sExpr (pMeth .list mAppend (pVar 11) [(pSlice (pVar 1) (some (pVar 6)) (some (pVar 12)))])) (sSeq (sAsg 6 (pBin oAdd (pVar 12) (pConst (.int 1)))) (sSeq (sAsg 12 (pBin oAdd (pVar 12) (pConst (.int 3)))) (sNil))))))) (sSeq (sAsg 13 (pSlice (pVar 1) (some (pVar 6)) (some (pVar 9)))) (sSeq (sIf (pTruth (pVar 13)) (sSeq (sExpr (pMeth .list mAppend (pVar 11) [pVar 13])) (sNil)) (sSeq (sAugIt (pVar 11) (pNeg (pConst (.int 1))) oAdd (pConst (.str [45]))) (sNil))) (sSeq (sFor (iRange [(pBin oSub (pCall fLen [pVar 11]) (pConst (.int 1))), (pConst (.int 0)), (pNeg (pConst (.int 1)))]) (.nm 12) (sSeq (sIf (pCmpB cGt (pBin aItem (pBin aItem (pVar 11) (pBin oSub (pVar 12) (pConst (.int 1)))) (pNeg (pConst (.int 1)))) (pBin aItem (pBin aItem (pVar 11) (pVar 12)) (pConst (.int 0)))) (fun _ _ => none) (sNil)) (sNil))) (sSeq (sAsg 10 (pJoinG P ⟨72, 37, 72, 98⟩ 11 [45] (fun t => Mine.repl 45 [92, 45] (Mine.repl 92 [92, 92] t)))) (sNil))))))))) (sSeq (sAsg 10 (pSubL P ⟨73, 39, 73, 76⟩ 10)) (sSeq (sAsg 6 (pBin oAdd (pVar 9) (pConst (.int 1)))) (sSeq (sIf (pNot (pTruth (pVar 10))) (fun _ _ => none) (sSeq (sIf (pCmpB cEq (pVar 10) (pConst (.str [33]))) (fun _ _ => none) (sSeq (sIf (pCmpB cEq (pBin aItem (pVar 10) (pConst (.int 0))) (pConst (.str [33]))) (sSeq (sAsg 10 (pBin oAdd (pConst (.str [94])) (pSlice (pVar 10) (some (pConst (.int 1))) none))) (sNil)) (sSeq (sIf (pCmpB cIn (pBin aItem (pVar 10) (pConst (.int 0))) (pTup [(pConst (.str [94])), (pConst (.str [91]))])) (sSeq (sAsg 10 (pBin oAdd (pConst (.str [92])) (pVar 10))) (sNil)) (sNil)) (sNil))) (sSeq (sExpr (pCallM 5 [(pJoin3 (pConst (.str [91])) (pFmt (pVar 10)) (pConst (.str [93])))])) (sNil)))) (sNil))) (sNil))))))) (sNil)))))) (fun _ _ => none)) (sNil))) (sNil))) (sNil))))) (sSeq (sAssert (pCmpB cEq (pVar 6) (pVar 7))) (sSeq (sRet (pVar 4)) (sNil)))))))
theorem fs_utr (H : Given W) : FsOK W (R_utr H.c) 0 (bodyAt 10) (F_utr H.P) :=
 (FsOK.cons (ExOK.asg s_utr_res (EvOK.list .nil (by decide +kernel)) (fun _ _ _ => rfl)) (FsOK.cons (ExOK.asg s_utr_add (EvOK.attrApp (fun _ => rfl) v_utr_res) (fun _ _ _ => rfl)) (FsOK.cons (ExOK.swap (names := ["i", "n"]) (by intro p hp; simp only [List.zip_cons_cons, List.zip_nil_right, List.zip_nil_left, List.reverse_cons, List.reverse_nil, List.nil_append, List.cons_append, List.mem_cons, List.not_mem_nil, or_false] at hp; rcases hp with rfl | rfl <;> first | exact s_utr_i | exact s_utr_n) rfl (EvOK.tup (.cons EvOK.int (fun _ _ => rfl) (.cons (EvOK.callB gl_utr_len (H.nb 0 rfl) (by decide +kernel) (by decide +kernel) (by decide +kernel) len_fun (.cons v_utr_pat (fun _ _ => rfl) .nil)) (fun _ _ => rfl) .nil)) (by decide +kernel)) (fun _ => rfl) (fun _ h1 h2 => swapped_two h1 (h2 _ (.head _)) (h2 _ (.tail _ (.head _))) rfl (by decide +kernel) rfl rfl rfl) (by intro x hx; simp only [List.mem_cons, List.not_mem_nil, or_false] at hx; rcases hx with rfl | rfl <;> first | exact lc_utr_i | exact lc_utr_n)) (FsOK.cons (ExOK.while (BtOK.cmp lt_ok v_utr_i v_utr_n rfl) (FsOK.cons (ExOK.asg s_utr_c (EvOK.item v_utr_pat v_utr_i) (fun _ _ _ => rfl)) (FsOK.cons (ExOK.asg s_utr_i (EvOK.bin add_ok v_utr_i EvOK.int) (fun _ _ _ => rfl)) (FsOK.cons (ExOK.ite (BtOK.cmp eq_ok v_utr_c (EvOK.str (by decide +kernel)) rfl) FsOK.dead (FsOK.cons (ExOK.ite (BtOK.cmp eq_ok v_utr_c (EvOK.str (by decide +kernel)) rfl) FsOK.dead (FsOK.cons (ExOK.ite (BtOK.cmp eq_ok v_utr_c (EvOK.str (by decide +kernel)) rfl) (FsOK.cons (ExOK.asg s_utr_j v_utr_i (fun _ _ _ => rfl)) (FsOK.cons (ExOK.ite (BtOK.and (BtOK.cmp lt_ok v_utr_j v_utr_n rfl) (BtOK.cmp eq_ok (EvOK.item v_utr_pat v_utr_j) (EvOK.str (by decide +kernel)) rfl)) (FsOK.cons (ExOK.asg s_utr_j (EvOK.bin add_ok v_utr_j EvOK.int) (fun _ _ _ => rfl)) FsOK.nil) FsOK.nil) (FsOK.cons (ExOK.ite (BtOK.and (BtOK.cmp lt_ok v_utr_j v_utr_n rfl) (BtOK.cmp eq_ok (EvOK.item v_utr_pat v_utr_j) (EvOK.str (by decide +kernel)) rfl)) (FsOK.cons (ExOK.asg s_utr_j (EvOK.bin add_ok v_utr_j EvOK.int) (fun _ _ _ => rfl)) FsOK.nil) FsOK.nil) (FsOK.cons (ExOK.while (BtOK.and (BtOK.cmp lt_ok v_utr_j v_utr_n rfl) (BtOK.cmp ne_ok (EvOK.item v_utr_pat v_utr_j) (EvOK.str (by decide +kernel)) rfl)) (FsOK.cons (ExOK.asg s_utr_j (EvOK.bin add_ok v_utr_j EvOK.int) (fun _ _ _ => rfl)) FsOK.nil)) (FsOK.cons (ExOK.ite (BtOK.cmp ge_ok v_utr_j v_utr_n rfl) FsOK.dead (FsOK.cons (ExOK.asg s_utr_stuff (EvOK.slice (fl := (some (pVar 6))) (fu := (some (pVar 9))) v_utr_pat v_utr_i v_utr_j) (fun _ _ _ => rfl)) (FsOK.cons (ExOK.ite (BtOK.cmp notIn_ok (EvOK.str (by decide +kernel)) v_utr_stuff rfl) (FsOK.cons (ExOK.asg s_utr_stuff (EvOK.repl F.plainAttrs_str (fun _ => rfl) rfl (by decide +kernel) (by decide +kernel) (by decide +kernel) (by decide +kernel) v_utr_stuff) (fun _ _ _ => rfl)) FsOK.nil) (FsOK.cons (ExOK.asg s_utr_chunks (EvOK.list .nil (by decide +kernel)) (fun _ _ _ => rfl)) (FsOK.cons (ExOK.asg s_utr_k (EvOK.ite (BtOK.cmp eq_ok (EvOK.item v_utr_pat v_utr_i) (EvOK.str (by decide +kernel)) rfl) (EvOK.bin add_ok v_utr_i EvOK.int) (EvOK.bin add_ok v_utr_i EvOK.int)) (fun _ _ _ => rfl)) (FsOK.cons (ExOK.while (BtOK.val' EvOK.bool (fun _ _ => rfl)) (FsOK.cons (ExOK.asg s_utr_k (EvOK.meth (t := .str) F.plainAttrs_str F.slot_str_find F.type_str_find (fun _ => rfl) rfl (by decide +kernel) find_meth v_utr_pat (.cons (EvOK.str (by decide +kernel)) (fun _ _ => rfl) (.cons v_utr_k (fun _ _ => rfl) (.cons v_utr_j (fun _ _ => rfl) .nil)))) (fun _ _ _ => rfl)) (FsOK.cons (ExOK.ite (BtOK.cmp lt_ok v_utr_k EvOK.int rfl) (FsOK.cons ExOK.brk FsOK.nil) FsOK.nil) (FsOK.cons (ExOK.expr (EvOK.meth (t := .list) F.plainAttrs_list F.slot_list_append F.type_list_append (fun _ => rfl) rfl (by decide +kernel) append_meth v_utr_chunks (.cons (EvOK.slice (fl := (some (pVar 6))) (fu := (some (pVar 12))) v_utr_pat v_utr_i v_utr_k) (fun _ _ => rfl) .nil)) (fun _ => rfl)) (FsOK.cons (ExOK.asg s_utr_i (EvOK.bin add_ok v_utr_k EvOK.int) (fun _ _ _ => rfl)) (FsOK.cons (ExOK.asg s_utr_k (EvOK.bin add_ok v_utr_k EvOK.int) (fun _ _ _ => rfl)) FsOK.nil)))))) (FsOK.cons (ExOK.asg s_utr_chunk (EvOK.slice (fl := (some (pVar 6))) (fu := (some (pVar 9))) v_utr_pat v_utr_i v_utr_j) (fun _ _ _ => rfl)) (FsOK.cons (ExOK.ite (BtOK.val' v_utr_chunk (fun _ _ => rfl)) (FsOK.cons (ExOK.expr (EvOK.meth (t := .list) F.plainAttrs_list F.slot_list_append F.type_list_append (fun _ => rfl) rfl (by decide +kernel) append_meth v_utr_chunks (.cons v_utr_chunk (fun _ _ => rfl) .nil)) (fun _ => rfl)) FsOK.nil) (FsOK.cons (ExOK.augIt iadd_ok v_utr_chunks (EvOK.neg EvOK.int) (EvOK.str (by decide +kernel)) (fun _ _ _ => rfl)) FsOK.nil)) (FsOK.cons (ExOK.for (.nm s_utr_k) (ItEv.range gl_utr_range (H.nb 7 rfl) (by decide +kernel) (by decide +kernel) (by decide +kernel) (.cons (EvOK.bin sub_ok (EvOK.callB gl_utr_len (H.nb 0 rfl) (by decide +kernel) (by decide +kernel) (by decide +kernel) len_fun (.cons v_utr_chunks (fun _ _ => rfl) .nil)) EvOK.int) (fun _ _ => rfl) (.cons EvOK.int (fun _ _ => rfl) (.cons (EvOK.neg EvOK.int) (fun _ _ => rfl) .nil)))) (FsOK.cons (ExOK.ite (BtOK.cmp gt_ok (EvOK.item (EvOK.item v_utr_chunks (EvOK.bin sub_ok v_utr_k EvOK.int)) (EvOK.neg EvOK.int)) (EvOK.item (EvOK.item v_utr_chunks v_utr_k) EvOK.int) rfl) FsOK.dead FsOK.nil) FsOK.nil) (fun _ _ => rfl)) (FsOK.cons (ExOK.asg s_utr_stuff (EvOK.joinGen H.tab rfl F.plainAttrs_str (by decide +kernel) (EltOK.repl2 F.plainAttrs_str rfl (by decide +kernel) (by decide +kernel) rfl rfl (by decide +kernel) (by decide +kernel) (by decide +kernel) (by decide +kernel) (by decide +kernel) (by decide +kernel) (by decide +kernel) (by decide +kernel) (fun _ => rfl) (fun _ => rfl)) (fun _ => rfl) rfl sl_utr_chunks (by decide +kernel) (by decide +kernel) rfl (fun _ => rfl) (by decide +kernel) (by decide +kernel) (by decide +kernel) rfl) (fun _ _ _ => rfl)) FsOK.nil)))))))) (FsOK.cons (ExOK.asg s_utr_stuff (EvOK.subLam H.tab rfl H.pat gl_utr_u_twin_re_1 H.g_twin (by decide +kernel) (fun _ => rfl) rfl rfl (fun _ => rfl) sl_utr_stuff (by decide +kernel) (by decide +kernel)) (fun _ _ _ => rfl)) (FsOK.cons (ExOK.asg s_utr_i (EvOK.bin add_ok v_utr_j EvOK.int) (fun _ _ _ => rfl)) (FsOK.cons (ExOK.ite (BtOK.not (BtOK.val' v_utr_stuff (fun _ _ => rfl))) FsOK.dead (FsOK.cons (ExOK.ite (BtOK.cmp eq_ok v_utr_stuff (EvOK.str (by decide +kernel)) rfl) FsOK.dead (FsOK.cons (ExOK.ite (BtOK.cmp eq_ok (EvOK.item v_utr_stuff EvOK.int) (EvOK.str (by decide +kernel)) rfl) (FsOK.cons (ExOK.asg s_utr_stuff (EvOK.bin add_ok (EvOK.str (by decide +kernel)) (EvOK.slice (fl := (some (pConst (.int 1)))) (fu := none) v_utr_stuff EvOK.int trivial)) (fun _ _ _ => rfl)) FsOK.nil) (FsOK.cons (ExOK.ite (BtOK.cmp in_ok (EvOK.item v_utr_stuff EvOK.int) (EvOK.tup (.cons (EvOK.str (by decide +kernel)) (fun _ _ => rfl) (.cons (EvOK.str (by decide +kernel)) (fun _ _ => rfl) .nil)) (by decide +kernel)) rfl) (FsOK.cons (ExOK.asg s_utr_stuff (EvOK.bin add_ok (EvOK.str (by decide +kernel)) v_utr_stuff) (fun _ _ _ => rfl)) FsOK.nil) FsOK.nil) FsOK.nil)) (FsOK.cons (ExOK.expr (EvOK.callM sl_utr_add (by decide +kernel) (by decide +kernel) (.cons (EvOK.fstr (EvOK.str (by decide +kernel)) (EvOK.fmt v_utr_stuff) (EvOK.str (by decide +kernel))) (fun _ _ => rfl) .nil)) (fun _ => rfl)) FsOK.nil))) FsOK.nil)) FsOK.nil)))))) FsOK.nil))))) FsOK.dead) FsOK.nil)) FsOK.nil)) FsOK.nil)))) (FsOK.cons (ExOK.assert (BtOK.cmp eq_ok v_utr_i v_utr_n rfl)) (FsOK.cons (ExOK.ret v_utr_res) FsOK.nil))))))
theorem sp_utr {c : Addr} : FnSpec (scopeAt 10) own_utr 3 (R_utr c) := FnSpec.of_b (show fnSpecB (scopeAt 10) own_utr 3 Rb_utr = true from (by decide +kernel))
noncomputable def P_utr (P : Addr) : PF := bodyF 3 13 (F_utr P)
theorem ok_utr (H : Given W) : CallOK W 1 (H.a "_translate") (P_utr H.P) := CallOK.of_body (H.fn 2 rfl).2 sp_utr (fs_utr H) (fun vals hv pm code doc => by
 obtain ⟨x0, x1, x2, rfl⟩ := len3 hv; rfl) H.code
noncomputable def R_translate : Rs := { slots := [("pat", 1), ("STAR", 2), ("parts", 3)], globs := ["object", "_translate", "_join_translated_parts"], loc := ["pat", "STAR", "parts"], cel := [], capt := [] }
theorem sl_translate_STAR : R_translate.slots.lookup ("STAR" : Str) = some 2 := (show R_translate.slots.lookup ("STAR" : Str) = some 2 from (by decide +kernel))
theorem sl_translate_parts : R_translate.slots.lookup ("parts" : Str) = some 3 := (show R_translate.slots.lookup ("parts" : Str) = some 3 from (by decide +kernel))
theorem sl_translate_pat : R_translate.slots.lookup ("pat" : Str) = some 1 := (show R_translate.slots.lookup ("pat" : Str) = some 1 from (by decide +kernel))
theorem gl_translate_ujtp : R_translate.globs.contains ("_join_translated_parts" : Str) = true := (show R_translate.globs.contains ("_join_translated_parts" : Str) = true from (by decide +kernel))
theorem gl_translate_utr : R_translate.globs.contains ("_translate" : Str) = true := (show R_translate.globs.contains ("_translate" : Str) = true from (by decide +kernel))
theorem gl_translate_object : R_translate.globs.contains ("object" : Str) = true := (show R_translate.globs.contains ("object" : Str) = true from (by decide +kernel))
theorem lc_translate_STAR : R_translate.loc.contains ("STAR" : Str) = true := (show R_translate.loc.contains ("STAR" : Str) = true from (by decide +kernel))
theorem lc_translate_parts : R_translate.loc.contains ("parts" : Str) = true := (show R_translate.loc.contains ("parts" : Str) = true from (by decide +kernel))
theorem v_translate_STAR {pos : Pos} {k : Nat} : EvOK W R_translate k (.Name "STAR" pos) (pVar 2) := EvOK.var sl_translate_STAR (by decide +kernel) (by decide +kernel)
theorem v_translate_parts {pos : Pos} {k : Nat} : EvOK W R_translate k (.Name "parts" pos) (pVar 3) := EvOK.var sl_translate_parts (by decide +kernel) (by decide +kernel)
theorem v_translate_pat {pos : Pos} {k : Nat} : EvOK W R_translate k (.Name "pat" pos) (pVar 1) := EvOK.var sl_translate_pat (by decide +kernel) (by decide +kernel)
theorem s_translate_STAR : StoreAt R_translate "STAR" 2 := ⟨sl_translate_STAR, .inl lc_translate_STAR⟩
theorem s_translate_parts : StoreAt R_translate "parts" 3 := ⟨sl_translate_parts, .inl lc_translate_parts⟩
noncomputable def own_translate : List (Str × Bool) := [("pat", false), ("STAR", false), ("parts", false)]
noncomputable def F_translate (P : Addr) : PS := (sSeq (sAsg 2 (pCall fObject [])) (sSeq (sAsg 3 (pCall (P_utr P) [pVar 1, pVar 2, (pConst (.str [46]))])) (sSeq (sRet (pCall (P_ujtp) [pVar 3, pVar 2])) (sNil))))
theorem fs_translate (H : Given W) : FsOK W R_translate 1 (bodyAt 5) (F_translate H.P) :=
 (FsOK.cons (ExOK.asg s_translate_STAR (EvOK.callT gl_translate_object (H.nb 5 rfl) (by decide +kernel) (by decide +kernel) (by decide +kernel) object_typ .nil) (fun _ _ _ => rfl)) (FsOK.cons (ExOK.asg s_translate_parts (EvOK.call gl_translate_utr (H.fn 2 rfl).1 (by decide +kernel) (H.fn 2 rfl).2.fn (ok_utr H) (by decide) (.cons v_translate_pat (fun _ _ => rfl) (.cons v_translate_STAR (fun _ _ => rfl) (.cons (EvOK.str (by decide +kernel)) (fun _ _ => rfl) .nil)))) (fun _ _ _ => rfl)) (FsOK.cons (ExOK.ret (EvOK.call gl_translate_ujtp (H.fn 3 rfl).1 (by decide +kernel) (H.fn 3 rfl).2.fn (ok_ujtp H) (by decide) (.cons v_translate_parts (fun _ _ => rfl) (.cons v_translate_STAR (fun _ _ => rfl) .nil)))) FsOK.nil)))
theorem sp_translate : FnSpec (scopeAt 5) own_translate 1 R_translate := FnSpec.of_b (show fnSpecB (scopeAt 5) own_translate 1 R_translate = true from (by decide +kernel))
noncomputable def P_translate (P : Addr) : PF := bodyF 1 3 (F_translate P)
theorem ok_translate (H : Given W) : CallOK W 2 (H.a "translate") (P_translate H.P) := CallOK.of_body (H.fn 1 rfl).2 sp_translate (fs_translate H) (fun vals hv pm code doc => by
 obtain ⟨x0, rfl⟩ := len1 hv; rfl)
end MI
noncomputable section MJ
open PySem PySem.W PySem.Calls PyProof.Rows
set_option maxHeartbeats 4000000
variable {W : Wd}
noncomputable def R_ulag_c1 : Rs := { slots := [("step", 1), ("numbers", 3)], globs := ["chr"], loc := [".0", "step"], cel := [], capt := ["numbers"] }
theorem sl_ulag_c1_numbers : R_ulag_c1.slots.lookup ("numbers" : Str) = some 3 := (show R_ulag_c1.slots.lookup ("numbers" : Str) = some 3 from (by decide +kernel))
theorem sl_ulag_c1_step : R_ulag_c1.slots.lookup ("step" : Str) = some 1 := (show R_ulag_c1.slots.lookup ("step" : Str) = some 1 from (by decide +kernel))
theorem gl_ulag_c1_chr : R_ulag_c1.globs.contains ("chr" : Str) = true := (show R_ulag_c1.globs.contains ("chr" : Str) = true from (by decide +kernel))
theorem lc_ulag_c1_step : R_ulag_c1.loc.contains ("step" : Str) = true := (show R_ulag_c1.loc.contains ("step" : Str) = true from (by decide +kernel))
theorem v_ulag_c1_numbers {pos : Pos} {k : Nat} : EvOK W R_ulag_c1 k (.Name "numbers" pos) (pVar 3) := EvOK.var sl_ulag_c1_numbers (by decide +kernel) (by decide +kernel)
theorem v_ulag_c1_step {pos : Pos} {k : Nat} : EvOK W R_ulag_c1 k (.Name "step" pos) (pVar 1) := EvOK.var sl_ulag_c1_step (by decide +kernel) (by decide +kernel)
theorem s_ulag_c1_step : StoreAt R_ulag_c1 "step" 1 := ⟨sl_ulag_c1_step, .inl lc_ulag_c1_step⟩
noncomputable def R_ulag_c2 : Rs := { slots := [("number", 1)], globs := [], loc := [".0", "number"], cel := [], capt := [] }
theorem sl_ulag_c2_number : R_ulag_c2.slots.lookup ("number" : Str) = some 1 := (show R_ulag_c2.slots.lookup ("number" : Str) = some 1 from (by decide +kernel))
theorem lc_ulag_c2_number : R_ulag_c2.loc.contains ("number" : Str) = true := (show R_ulag_c2.loc.contains ("number" : Str) = true from (by decide +kernel))
theorem v_ulag_c2_number {pos : Pos} {k : Nat} : EvOK W R_ulag_c2 k (.Name "number" pos) (pVar 1) := EvOK.var sl_ulag_c2_number (by decide +kernel) (by decide +kernel)
theorem s_ulag_c2_number : StoreAt R_ulag_c2 "number" 1 := ⟨sl_ulag_c2_number, .inl lc_ulag_c2_number⟩
noncomputable def R_ulag_c3_c4 : Rs := { slots := [("place", 1), ("signs", 6), ("code", 3)], globs := [], loc := [".0", "place"], cel := [], capt := ["signs", "code"] }
theorem sl_ulag_c3_c4_code : R_ulag_c3_c4.slots.lookup ("code" : Str) = some 3 := (show R_ulag_c3_c4.slots.lookup ("code" : Str) = some 3 from (by decide +kernel))
theorem sl_ulag_c3_c4_place : R_ulag_c3_c4.slots.lookup ("place" : Str) = some 1 := (show R_ulag_c3_c4.slots.lookup ("place" : Str) = some 1 from (by decide +kernel))
theorem sl_ulag_c3_c4_signs : R_ulag_c3_c4.slots.lookup ("signs" : Str) = some 6 := (show R_ulag_c3_c4.slots.lookup ("signs" : Str) = some 6 from (by decide +kernel))
theorem lc_ulag_c3_c4_place : R_ulag_c3_c4.loc.contains ("place" : Str) = true := (show R_ulag_c3_c4.loc.contains ("place" : Str) = true from (by decide +kernel))
theorem v_ulag_c3_c4_code {pos : Pos} {k : Nat} : EvOK W R_ulag_c3_c4 k (.Name "code" pos) (pVar 3) := EvOK.var sl_ulag_c3_c4_code (by decide +kernel) (by decide +kernel)
theorem v_ulag_c3_c4_place {pos : Pos} {k : Nat} : EvOK W R_ulag_c3_c4 k (.Name "place" pos) (pVar 1) := EvOK.var sl_ulag_c3_c4_place (by decide +kernel) (by decide +kernel)
theorem v_ulag_c3_c4_signs {pos : Pos} {k : Nat} : EvOK W R_ulag_c3_c4 k (.Name "signs" pos) (pVar 6) := EvOK.var sl_ulag_c3_c4_signs (by decide +kernel) (by decide +kernel)
theorem s_ulag_c3_c4_place : StoreAt R_ulag_c3_c4 "place" 1 := ⟨sl_ulag_c3_c4_place, .inl lc_ulag_c3_c4_place⟩
noncomputable def R_ulag_c3 : Rs := { slots := [("code", 1), ("signs", 4)], globs := ["range"], loc := [".0"], cel := ["code"], capt := ["code", "signs"] }
theorem sl_ulag_c3_code : R_ulag_c3.slots.lookup ("code" : Str) = some 1 := (show R_ulag_c3.slots.lookup ("code" : Str) = some 1 from (by decide +kernel))
theorem gl_ulag_c3_range : R_ulag_c3.globs.contains ("range" : Str) = true := (show R_ulag_c3.globs.contains ("range" : Str) = true from (by decide +kernel))
theorem lc_ulag_c3_code : R_ulag_c3.cel.contains ("code" : Str) = true := (show R_ulag_c3.cel.contains ("code" : Str) = true from (by decide +kernel))
theorem s_ulag_c3_code : StoreAt R_ulag_c3 "code" 1 := ⟨sl_ulag_c3_code, .inr lc_ulag_c3_code⟩
noncomputable def R_ulag_c5 : Rs := { slots := [("fit", 1), ("number", 2), ("signs", 5)], globs := ["_law_bracket"], loc := [".0", "fit", "number"], cel := [], capt := ["signs"] }
theorem sl_ulag_c5_fit : R_ulag_c5.slots.lookup ("fit" : Str) = some 1 := (show R_ulag_c5.slots.lookup ("fit" : Str) = some 1 from (by decide +kernel))
theorem sl_ulag_c5_number : R_ulag_c5.slots.lookup ("number" : Str) = some 2 := (show R_ulag_c5.slots.lookup ("number" : Str) = some 2 from (by decide +kernel))
theorem sl_ulag_c5_signs : R_ulag_c5.slots.lookup ("signs" : Str) = some 5 := (show R_ulag_c5.slots.lookup ("signs" : Str) = some 5 from (by decide +kernel))
theorem gl_ulag_c5_ulbr : R_ulag_c5.globs.contains ("_law_bracket" : Str) = true := (show R_ulag_c5.globs.contains ("_law_bracket" : Str) = true from (by decide +kernel))
theorem lc_ulag_c5_fit : R_ulag_c5.loc.contains ("fit" : Str) = true := (show R_ulag_c5.loc.contains ("fit" : Str) = true from (by decide +kernel))
theorem lc_ulag_c5_number : R_ulag_c5.loc.contains ("number" : Str) = true := (show R_ulag_c5.loc.contains ("number" : Str) = true from (by decide +kernel))
theorem v_ulag_c5_fit {pos : Pos} {k : Nat} : EvOK W R_ulag_c5 k (.Name "fit" pos) (pVar 1) := EvOK.var sl_ulag_c5_fit (by decide +kernel) (by decide +kernel)
theorem v_ulag_c5_number {pos : Pos} {k : Nat} : EvOK W R_ulag_c5 k (.Name "number" pos) (pVar 2) := EvOK.var sl_ulag_c5_number (by decide +kernel) (by decide +kernel)
theorem v_ulag_c5_signs {pos : Pos} {k : Nat} : EvOK W R_ulag_c5 k (.Name "signs" pos) (pVar 5) := EvOK.var sl_ulag_c5_signs (by decide +kernel) (by decide +kernel)
theorem s_ulag_c5_fit : StoreAt R_ulag_c5 "fit" 1 := ⟨sl_ulag_c5_fit, .inl lc_ulag_c5_fit⟩
theorem s_ulag_c5_number : StoreAt R_ulag_c5 "number" 2 := ⟨sl_ulag_c5_number, .inl lc_ulag_c5_number⟩
noncomputable def R_ulag_c6_c7 : Rs := { slots := [("sign", 1), ("judge", 3)], globs := ["_law_within"], loc := [".0", "sign"], cel := [], capt := ["judge"] }
theorem sl_ulag_c6_c7_judge : R_ulag_c6_c7.slots.lookup ("judge" : Str) = some 3 := (show R_ulag_c6_c7.slots.lookup ("judge" : Str) = some 3 from (by decide +kernel))
theorem sl_ulag_c6_c7_sign : R_ulag_c6_c7.slots.lookup ("sign" : Str) = some 1 := (show R_ulag_c6_c7.slots.lookup ("sign" : Str) = some 1 from (by decide +kernel))
theorem gl_ulag_c6_c7_ulwi : R_ulag_c6_c7.globs.contains ("_law_within" : Str) = true := (show R_ulag_c6_c7.globs.contains ("_law_within" : Str) = true from (by decide +kernel))
theorem lc_ulag_c6_c7_sign : R_ulag_c6_c7.loc.contains ("sign" : Str) = true := (show R_ulag_c6_c7.loc.contains ("sign" : Str) = true from (by decide +kernel))
theorem v_ulag_c6_c7_judge {pos : Pos} {k : Nat} : EvOK W R_ulag_c6_c7 k (.Name "judge" pos) (pVar 3) := EvOK.var sl_ulag_c6_c7_judge (by decide +kernel) (by decide +kernel)
theorem v_ulag_c6_c7_sign {pos : Pos} {k : Nat} : EvOK W R_ulag_c6_c7 k (.Name "sign" pos) (pVar 1) := EvOK.var sl_ulag_c6_c7_sign (by decide +kernel) (by decide +kernel)
theorem s_ulag_c6_c7_sign : StoreAt R_ulag_c6_c7 "sign" 1 := ⟨sl_ulag_c6_c7_sign, .inl lc_ulag_c6_c7_sign⟩
noncomputable def R_ulag_c6 : Rs := { slots := [("judge", 1), ("signs", 4)], globs := [], loc := [".0"], cel := ["judge"], capt := ["judge", "signs"] }
theorem sl_ulag_c6_judge : R_ulag_c6.slots.lookup ("judge" : Str) = some 1 := (show R_ulag_c6.slots.lookup ("judge" : Str) = some 1 from (by decide +kernel))
theorem sl_ulag_c6_signs : R_ulag_c6.slots.lookup ("signs" : Str) = some 4 := (show R_ulag_c6.slots.lookup ("signs" : Str) = some 4 from (by decide +kernel))
theorem lc_ulag_c6_judge : R_ulag_c6.cel.contains ("judge" : Str) = true := (show R_ulag_c6.cel.contains ("judge" : Str) = true from (by decide +kernel))
theorem v_ulag_c6_signs {pos : Pos} {k : Nat} : EvOK W R_ulag_c6 k (.Name "signs" pos) (pVar 4) := EvOK.var sl_ulag_c6_signs (by decide +kernel) (by decide +kernel)
theorem s_ulag_c6_judge : StoreAt R_ulag_c6 "judge" 1 := ⟨sl_ulag_c6_judge, .inr lc_ulag_c6_judge⟩
noncomputable def R_ulag_c8 : Rs := { slots := [("sign", 1), ("fit", 2)], globs := [], loc := [".0", "sign", "fit"], cel := [], capt := [] }
theorem sl_ulag_c8_fit : R_ulag_c8.slots.lookup ("fit" : Str) = some 2 := (show R_ulag_c8.slots.lookup ("fit" : Str) = some 2 from (by decide +kernel))
theorem sl_ulag_c8_sign : R_ulag_c8.slots.lookup ("sign" : Str) = some 1 := (show R_ulag_c8.slots.lookup ("sign" : Str) = some 1 from (by decide +kernel))
theorem lc_ulag_c8_fit : R_ulag_c8.loc.contains ("fit" : Str) = true := (show R_ulag_c8.loc.contains ("fit" : Str) = true from (by decide +kernel))
theorem lc_ulag_c8_sign : R_ulag_c8.loc.contains ("sign" : Str) = true := (show R_ulag_c8.loc.contains ("sign" : Str) = true from (by decide +kernel))
theorem v_ulag_c8_fit {pos : Pos} {k : Nat} : EvOK W R_ulag_c8 k (.Name "fit" pos) (pVar 2) := EvOK.var sl_ulag_c8_fit (by decide +kernel) (by decide +kernel)
theorem v_ulag_c8_sign {pos : Pos} {k : Nat} : EvOK W R_ulag_c8 k (.Name "sign" pos) (pVar 1) := EvOK.var sl_ulag_c8_sign (by decide +kernel) (by decide +kernel)
theorem s_ulag_c8_fit : StoreAt R_ulag_c8 "fit" 2 := ⟨sl_ulag_c8_fit, .inl lc_ulag_c8_fit⟩
theorem s_ulag_c8_sign : StoreAt R_ulag_c8 "sign" 1 := ⟨sl_ulag_c8_sign, .inl lc_ulag_c8_sign⟩
noncomputable def R_ulag : Rs := { slots := [("numbers", 1), ("signs", 2), ("codes", 3), ("fitting", 4), ("brackets", 5), ("judges", 6), ("takes", 7), ("orders", 8), ("place", 9), ("word", 10)], globs := ["range", "zip", "translate", "_law_classes", "len", "_law_orders", "enumerate", "sorted", "_law_amount"], loc := ["codes", "fitting", "brackets", "judges", "takes", "orders", "place", "word"], cel := ["numbers", "signs"], capt := ["numbers", "signs"] }
theorem sl_ulag_brackets : R_ulag.slots.lookup ("brackets" : Str) = some 5 := (show R_ulag.slots.lookup ("brackets" : Str) = some 5 from (by decide +kernel))
theorem sl_ulag_codes : R_ulag.slots.lookup ("codes" : Str) = some 3 := (show R_ulag.slots.lookup ("codes" : Str) = some 3 from (by decide +kernel))
theorem sl_ulag_fitting : R_ulag.slots.lookup ("fitting" : Str) = some 4 := (show R_ulag.slots.lookup ("fitting" : Str) = some 4 from (by decide +kernel))
theorem sl_ulag_judges : R_ulag.slots.lookup ("judges" : Str) = some 6 := (show R_ulag.slots.lookup ("judges" : Str) = some 6 from (by decide +kernel))
theorem sl_ulag_numbers : R_ulag.slots.lookup ("numbers" : Str) = some 1 := (show R_ulag.slots.lookup ("numbers" : Str) = some 1 from (by decide +kernel))
theorem sl_ulag_orders : R_ulag.slots.lookup ("orders" : Str) = some 8 := (show R_ulag.slots.lookup ("orders" : Str) = some 8 from (by decide +kernel))
theorem sl_ulag_place : R_ulag.slots.lookup ("place" : Str) = some 9 := (show R_ulag.slots.lookup ("place" : Str) = some 9 from (by decide +kernel))
theorem sl_ulag_signs : R_ulag.slots.lookup ("signs" : Str) = some 2 := (show R_ulag.slots.lookup ("signs" : Str) = some 2 from (by decide +kernel))
theorem sl_ulag_takes : R_ulag.slots.lookup ("takes" : Str) = some 7 := (show R_ulag.slots.lookup ("takes" : Str) = some 7 from (by decide +kernel))
theorem sl_ulag_word : R_ulag.slots.lookup ("word" : Str) = some 10 := (show R_ulag.slots.lookup ("word" : Str) = some 10 from (by decide +kernel))
theorem gl_ulag_ulam : R_ulag.globs.contains ("_law_amount" : Str) = true := (show R_ulag.globs.contains ("_law_amount" : Str) = true from (by decide +kernel))
theorem gl_ulag_ulcs : R_ulag.globs.contains ("_law_classes" : Str) = true := (show R_ulag.globs.contains ("_law_classes" : Str) = true from (by decide +kernel))
theorem gl_ulag_ulor : R_ulag.globs.contains ("_law_orders" : Str) = true := (show R_ulag.globs.contains ("_law_orders" : Str) = true from (by decide +kernel))
theorem gl_ulag_enumerate : R_ulag.globs.contains ("enumerate" : Str) = true := (show R_ulag.globs.contains ("enumerate" : Str) = true from (by decide +kernel))
theorem gl_ulag_len : R_ulag.globs.contains ("len" : Str) = true := (show R_ulag.globs.contains ("len" : Str) = true from (by decide +kernel))
theorem gl_ulag_range : R_ulag.globs.contains ("range" : Str) = true := (show R_ulag.globs.contains ("range" : Str) = true from (by decide +kernel))
theorem gl_ulag_sorted : R_ulag.globs.contains ("sorted" : Str) = true := (show R_ulag.globs.contains ("sorted" : Str) = true from (by decide +kernel))
theorem gl_ulag_translate : R_ulag.globs.contains ("translate" : Str) = true := (show R_ulag.globs.contains ("translate" : Str) = true from (by decide +kernel))
theorem gl_ulag_zip : R_ulag.globs.contains ("zip" : Str) = true := (show R_ulag.globs.contains ("zip" : Str) = true from (by decide +kernel))
theorem lc_ulag_brackets : R_ulag.loc.contains ("brackets" : Str) = true := (show R_ulag.loc.contains ("brackets" : Str) = true from (by decide +kernel))
theorem lc_ulag_codes : R_ulag.loc.contains ("codes" : Str) = true := (show R_ulag.loc.contains ("codes" : Str) = true from (by decide +kernel))
theorem lc_ulag_fitting : R_ulag.loc.contains ("fitting" : Str) = true := (show R_ulag.loc.contains ("fitting" : Str) = true from (by decide +kernel))
theorem lc_ulag_judges : R_ulag.loc.contains ("judges" : Str) = true := (show R_ulag.loc.contains ("judges" : Str) = true from (by decide +kernel))
theorem lc_ulag_orders : R_ulag.loc.contains ("orders" : Str) = true := (show R_ulag.loc.contains ("orders" : Str) = true from (by decide +kernel))
theorem lc_ulag_place : R_ulag.loc.contains ("place" : Str) = true := (show R_ulag.loc.contains ("place" : Str) = true from (by decide +kernel))
theorem lc_ulag_signs : R_ulag.cel.contains ("signs" : Str) = true := (show R_ulag.cel.contains ("signs" : Str) = true from (by decide +kernel))
theorem lc_ulag_takes : R_ulag.loc.contains ("takes" : Str) = true := (show R_ulag.loc.contains ("takes" : Str) = true from (by decide +kernel))
theorem lc_ulag_word : R_ulag.loc.contains ("word" : Str) = true := (show R_ulag.loc.contains ("word" : Str) = true from (by decide +kernel))
theorem v_ulag_brackets {pos : Pos} {k : Nat} : EvOK W R_ulag k (.Name "brackets" pos) (pVar 5) := EvOK.var sl_ulag_brackets (by decide +kernel) (by decide +kernel)
theorem v_ulag_codes {pos : Pos} {k : Nat} : EvOK W R_ulag k (.Name "codes" pos) (pVar 3) := EvOK.var sl_ulag_codes (by decide +kernel) (by decide +kernel)
theorem v_ulag_fitting {pos : Pos} {k : Nat} : EvOK W R_ulag k (.Name "fitting" pos) (pVar 4) := EvOK.var sl_ulag_fitting (by decide +kernel) (by decide +kernel)
theorem v_ulag_judges {pos : Pos} {k : Nat} : EvOK W R_ulag k (.Name "judges" pos) (pVar 6) := EvOK.var sl_ulag_judges (by decide +kernel) (by decide +kernel)
theorem v_ulag_numbers {pos : Pos} {k : Nat} : EvOK W R_ulag k (.Name "numbers" pos) (pVar 1) := EvOK.var sl_ulag_numbers (by decide +kernel) (by decide +kernel)
theorem v_ulag_orders {pos : Pos} {k : Nat} : EvOK W R_ulag k (.Name "orders" pos) (pVar 8) := EvOK.var sl_ulag_orders (by decide +kernel) (by decide +kernel)
theorem v_ulag_place {pos : Pos} {k : Nat} : EvOK W R_ulag k (.Name "place" pos) (pVar 9) := EvOK.var sl_ulag_place (by decide +kernel) (by decide +kernel)
theorem v_ulag_signs {pos : Pos} {k : Nat} : EvOK W R_ulag k (.Name "signs" pos) (pVar 2) := EvOK.var sl_ulag_signs (by decide +kernel) (by decide +kernel)
theorem v_ulag_takes {pos : Pos} {k : Nat} : EvOK W R_ulag k (.Name "takes" pos) (pVar 7) := EvOK.var sl_ulag_takes (by decide +kernel) (by decide +kernel)
theorem v_ulag_word {pos : Pos} {k : Nat} : EvOK W R_ulag k (.Name "word" pos) (pVar 10) := EvOK.var sl_ulag_word (by decide +kernel) (by decide +kernel)
theorem s_ulag_brackets : StoreAt R_ulag "brackets" 5 := ⟨sl_ulag_brackets, .inl lc_ulag_brackets⟩
theorem s_ulag_codes : StoreAt R_ulag "codes" 3 := ⟨sl_ulag_codes, .inl lc_ulag_codes⟩
theorem s_ulag_fitting : StoreAt R_ulag "fitting" 4 := ⟨sl_ulag_fitting, .inl lc_ulag_fitting⟩
theorem s_ulag_judges : StoreAt R_ulag "judges" 6 := ⟨sl_ulag_judges, .inl lc_ulag_judges⟩
theorem s_ulag_orders : StoreAt R_ulag "orders" 8 := ⟨sl_ulag_orders, .inl lc_ulag_orders⟩
theorem s_ulag_place : StoreAt R_ulag "place" 9 := ⟨sl_ulag_place, .inl lc_ulag_place⟩
theorem s_ulag_signs : StoreAt R_ulag "signs" 2 := ⟨sl_ulag_signs, .inr lc_ulag_signs⟩
theorem s_ulag_takes : StoreAt R_ulag "takes" 7 := ⟨sl_ulag_takes, .inl lc_ulag_takes⟩
theorem s_ulag_word : StoreAt R_ulag "word" 10 := ⟨sl_ulag_word, .inl lc_ulag_word⟩
noncomputable def own_ulag : List (Str × Bool) := [("numbers", true), ("signs", true), ("codes", false), ("fitting", false), ("brackets", false), ("judges", false), ("takes", false), ("orders", false), ("place", false), ("word", false)]
noncomputable def F_ulag (P : Addr) : PS := (sSeq (sAsg 2 (pComp 2 (iRange [(pConst (.int 4))]) (.nm 1) (fun _ h => some (true, h)) (pCall fChr [(pBin oAdd (pBin oAdd (pConst (.int 34)) (pBin oMod (pBin aItem (pVar 3) (pConst (.int 0))) (pConst (.int 90)))) (pVar 1))]))) (sSeq (sAsg 3 (pComp 2 (iOf (pSlice (pVar 1) (some (pConst (.int 1))) none)) (.nm 1) (fun _ h => some (true, h)) (pBin oAdd (pBin oMod (pVar 1) (pConst (.int 14))) (pConst (.int 1))))) (sSeq (sAsg 4 (pComp 2 (iOf (pVar 3)) (.nm 1) (fun _ h => some (true, h)) (pComp 2 (iRange [(pConst (.int 4))]) (.nm 1) (pTruth (pBin oMod (pBin oFdiv (pVar 3) (pBin oPow (pConst (.int 2)) (pVar 1))) (pConst (.int 2)))) (pBin aItem (pVar 6) (pVar 1))))) (sSeq (sAsg 5 (pComp 3 (iZip [pVar 4, (pSlice (pVar 1) (some (pConst (.int 1))) none)]) (.tup [1, 2]) (fun _ h => some (true, h)) (pCall (P_ulbr) [pVar 1, pVar 5, (pBin oMod (pBin oFdiv (pVar 2) (pConst (.int 14))) (pConst (.int 2)))]))) (sSeq (sAsg 6 (pCall (P_ulcs) [(pCall (P_translate P) [(pMeth .str mJoin (pConst (.str [])) [pVar 5])])])) (sSeq (sIf (pCmpB cNe (pCall fLen [pVar 6]) (pConst (.int 4))) (sSeq (sRet (pConst (.bool false))) (sNil)) (sNil)) (sSeq (sAsg 7 (pComp 2 (iOf (pVar 6)) (.nm 1) (fun _ h => some (true, h)) (pComp 2 (iOf (pVar 4)) (.nm 1) (pTruth (pCall (P_ulwi) [pVar 3, pVar 1])) (pVar 1)))) (sSeq (sAsg 8 (pCall (P_ulor) [pVar 7])) (sSeq (sFor (iEnum [pVar 8]) (.tup [9, 10]) (sSeq (sIf (pCmpB cNe (pCall fSorted [pVar 10]) (pVar 2)) (sSeq (sRet (pConst (.bool false))) (sNil)) (sNil)) (sSeq (sIf (pTruth (pComp 3 (iZip [pVar 10, pVar 4]) (.tup [1, 2]) (pCmpB cNotIn (pVar 1) (pVar 2)) (pVar 1))) (sSeq (sRet (pConst (.bool false))) (sNil)) (sNil)) (sSeq (sIf (pAndB (pCmpB cGt (pVar 9) (pConst (.int 0))) (pCmpB cGe (pBin aItem (pVar 8) (pBin oSub (pVar 9) (pConst (.int 1)))) (pVar 10))) (sSeq (sRet (pConst (.bool false))) (sNil)) (sNil)) (sNil))))) (sSeq (sRet (pCmp cEq (pCall fLen [pVar 8]) (pCall (P_ulam) [pVar 3]))) (sNil)))))))))))
theorem fs_ulag (H : Given W) : FsOK W R_ulag 4 (bodyAt 27) (F_ulag H.P) :=
 (FsOK.cons (ExOK.asg s_ulag_signs (EvOK.comp (own := [(".0", false), ("step", false)]) (cap := [("numbers", 1)]) (R' := R_ulag_c1) (CompSpec.of (by decide +kernel)) (ItEv.range gl_ulag_range (H.nb 7 rfl) (by decide +kernel) (by decide +kernel) (by decide +kernel) (.cons EvOK.int (fun _ _ => rfl) .nil)) (.nm s_ulag_c1_step) (show (1 : Nat) < 2 by decide) .nil (EvOK.callB gl_ulag_c1_chr (H.nb 2 rfl) (by decide +kernel) (by decide +kernel) (by decide +kernel) chr_fun (.cons (EvOK.bin add_ok (EvOK.bin add_ok EvOK.int (EvOK.bin mod_ok (EvOK.item v_ulag_c1_numbers EvOK.int) EvOK.int)) v_ulag_c1_step) (fun _ _ => rfl) .nil)) (fun _ _ => rfl)) (swaps_cel (by decide +kernel))) (FsOK.cons (ExOK.asgComp s_ulag_codes (own := [(".0", false), ("number", false)]) (cap := []) (R' := R_ulag_c2) (CompSpec.of (by decide +kernel)) (ItEv.of (EvOK.slice (fl := (some (pConst (.int 1)))) (fu := none) v_ulag_numbers EvOK.int trivial)) (.nm s_ulag_c2_number) (show (1 : Nat) < 2 by decide) .nil (EvOK.bin add_ok (EvOK.bin mod_ok v_ulag_c2_number EvOK.int) EvOK.int) (fun _ _ => rfl) (by decide +kernel) (fun _ h1 h2 => swaps_loc h1 h2 rfl (by decide +kernel))) (FsOK.cons (ExOK.asgComp s_ulag_fitting (own := [(".0", false), ("code", true)]) (cap := [("signs", 2)]) (R' := R_ulag_c3) (CompSpec.of (by decide +kernel)) (ItEv.of v_ulag_codes) (.nm s_ulag_c3_code) (show (1 : Nat) < 2 by decide) .nil (EvOK.comp (own := [(".0", false), ("place", false)]) (cap := [("signs", 4), ("code", 1)]) (R' := R_ulag_c3_c4) (CompSpec.of (by decide +kernel)) (ItEv.range gl_ulag_c3_range (H.nb 7 rfl) (by decide +kernel) (by decide +kernel) (by decide +kernel) (.cons EvOK.int (fun _ _ => rfl) .nil)) (.nm s_ulag_c3_c4_place) (show (1 : Nat) < 2 by decide) (.one (BtOK.val' (EvOK.bin mod_ok (EvOK.bin fdiv_ok v_ulag_c3_c4_code (EvOK.bin pow_ok EvOK.int v_ulag_c3_c4_place)) EvOK.int) (fun _ _ => rfl))) (EvOK.item v_ulag_c3_c4_signs v_ulag_c3_c4_place) (fun _ _ => rfl)) (fun _ _ => rfl) (by decide +kernel) (fun _ h1 h2 => swaps_loc h1 h2 rfl (by decide +kernel))) (FsOK.cons (ExOK.asgComp s_ulag_brackets (own := [(".0", false), ("fit", false), ("number", false)]) (cap := [("signs", 2)]) (R' := R_ulag_c5) (CompSpec.of (by decide +kernel)) (ItEv.zip gl_ulag_zip (H.nb 9 rfl) (by decide +kernel) (by decide +kernel) (by decide +kernel) (.cons v_ulag_fitting (fun _ _ => rfl) (.cons (EvOK.slice (fl := (some (pConst (.int 1)))) (fu := none) v_ulag_numbers EvOK.int trivial) (fun _ _ => rfl) .nil))) (.tup (names := ["fit", "number"]) (ps := [⟨223, 63, 223, 66⟩, ⟨223, 68, 223, 74⟩]) (fun _ => rfl) rfl (by intro p hp; simp only [List.zip_cons_cons, List.zip_nil_right, List.zip_nil_left, List.reverse_cons, List.reverse_nil, List.nil_append, List.cons_append, List.mem_cons, List.not_mem_nil, or_false] at hp; rcases hp with rfl | rfl <;> first | exact s_ulag_c5_fit | exact s_ulag_c5_number) rfl) (show ∀ i ∈ ([1, 2] : List Nat), i < 3 by decide) .nil (EvOK.call gl_ulag_c5_ulbr (H.fn 13 rfl).1 (by decide +kernel) (H.fn 13 rfl).2.fn (ok_ulbr H) (by omega) (.cons v_ulag_c5_fit (fun _ _ => rfl) (.cons v_ulag_c5_signs (fun _ _ => rfl) (.cons (EvOK.bin mod_ok (EvOK.bin fdiv_ok v_ulag_c5_number EvOK.int) EvOK.int) (fun _ _ => rfl) .nil)))) (fun _ _ => rfl) (by decide +kernel) (fun _ h1 h2 => swaps_loc h1 h2 rfl (by decide +kernel))) (FsOK.cons (ExOK.asg s_ulag_judges (EvOK.call gl_ulag_ulcs (H.fn 11 rfl).1 (by decide +kernel) (H.fn 11 rfl).2.fn (ok_ulcs H) (by omega) (.cons (EvOK.call gl_ulag_translate (H.fn 1 rfl).1 (by decide +kernel) (H.fn 1 rfl).2.fn (ok_translate H) (by omega) (.cons (EvOK.meth (t := .str) F.plainAttrs_str F.slot_str_join F.type_str_join (fun _ => rfl) rfl (by decide +kernel) join_meth (EvOK.str (by decide +kernel)) (.cons v_ulag_brackets (fun _ _ => rfl) .nil)) (fun _ _ => rfl) .nil)) (fun _ _ => rfl) .nil)) (fun _ _ _ => rfl)) (FsOK.cons (ExOK.ite (BtOK.cmp ne_ok (EvOK.callB gl_ulag_len (H.nb 0 rfl) (by decide +kernel) (by decide +kernel) (by decide +kernel) len_fun (.cons v_ulag_judges (fun _ _ => rfl) .nil)) EvOK.int rfl) (FsOK.cons (ExOK.ret EvOK.bool) FsOK.nil) FsOK.nil) (FsOK.cons (ExOK.asgComp s_ulag_takes (own := [(".0", false), ("judge", true)]) (cap := [("signs", 2)]) (R' := R_ulag_c6) (CompSpec.of (by decide +kernel)) (ItEv.of v_ulag_judges) (.nm s_ulag_c6_judge) (show (1 : Nat) < 2 by decide) .nil (EvOK.comp (own := [(".0", false), ("sign", false)]) (cap := [("judge", 1)]) (R' := R_ulag_c6_c7) (CompSpec.of (by decide +kernel)) (ItEv.of v_ulag_c6_signs) (.nm s_ulag_c6_c7_sign) (show (1 : Nat) < 2 by decide) (.one (BtOK.val' (EvOK.call gl_ulag_c6_c7_ulwi (H.fn 10 rfl).1 (by decide +kernel) (H.fn 10 rfl).2.fn (ok_ulwi H) (by omega) (.cons v_ulag_c6_c7_judge (fun _ _ => rfl) (.cons v_ulag_c6_c7_sign (fun _ _ => rfl) .nil))) (fun _ _ => rfl))) v_ulag_c6_c7_sign (fun _ _ => rfl)) (fun _ _ => rfl) (by decide +kernel) (fun _ h1 h2 => swaps_loc h1 h2 rfl (by decide +kernel))) (FsOK.cons (ExOK.asg s_ulag_orders (EvOK.call gl_ulag_ulor (H.fn 14 rfl).1 (by decide +kernel) (H.fn 14 rfl).2.fn (ok_ulor H) (by omega) (.cons v_ulag_takes (fun _ _ => rfl) .nil)) (fun _ _ _ => rfl)) (FsOK.cons (ExOK.for (.tup (names := ["place", "word"]) (ps := [⟨229, 8, 229, 13⟩, ⟨229, 15, 229, 19⟩]) (fun _ => rfl) rfl (by intro p hp; simp only [List.zip_cons_cons, List.zip_nil_right, List.zip_nil_left, List.reverse_cons, List.reverse_nil, List.nil_append, List.cons_append, List.mem_cons, List.not_mem_nil, or_false] at hp; rcases hp with rfl | rfl <;> first | exact s_ulag_place | exact s_ulag_word) rfl) (ItEv.enum gl_ulag_enumerate (H.nb 8 rfl) (by decide +kernel) (by decide +kernel) (by decide +kernel) (.cons v_ulag_orders (fun _ _ => rfl) .nil)) (FsOK.cons (ExOK.ite (BtOK.cmp ne_ok (EvOK.callB gl_ulag_sorted (H.nb 3 rfl) (by decide +kernel) (by decide +kernel) (by decide +kernel) sorted_fun (.cons v_ulag_word (fun _ _ => rfl) .nil)) v_ulag_signs rfl) (FsOK.cons (ExOK.ret EvOK.bool) FsOK.nil) FsOK.nil) (FsOK.cons (ExOK.ite (BtOK.val' (EvOK.comp (own := [(".0", false), ("sign", false), ("fit", false)]) (cap := []) (R' := R_ulag_c8) (CompSpec.of (by decide +kernel)) (ItEv.zip gl_ulag_zip (H.nb 9 rfl) (by decide +kernel) (by decide +kernel) (by decide +kernel) (.cons v_ulag_word (fun _ _ => rfl) (.cons v_ulag_fitting (fun _ _ => rfl) .nil))) (.tup (names := ["sign", "fit"]) (ps := [⟨232, 21, 232, 25⟩, ⟨232, 27, 232, 30⟩]) (fun _ => rfl) rfl (by intro p hp; simp only [List.zip_cons_cons, List.zip_nil_right, List.zip_nil_left, List.reverse_cons, List.reverse_nil, List.nil_append, List.cons_append, List.mem_cons, List.not_mem_nil, or_false] at hp; rcases hp with rfl | rfl <;> first | exact s_ulag_c8_sign | exact s_ulag_c8_fit) rfl) (show ∀ i ∈ ([1, 2] : List Nat), i < 3 by decide) (.one (BtOK.cmp notIn_ok v_ulag_c8_sign v_ulag_c8_fit rfl)) v_ulag_c8_sign (fun _ _ => rfl)) (fun _ _ => rfl)) (FsOK.cons (ExOK.ret EvOK.bool) FsOK.nil) FsOK.nil) (FsOK.cons (ExOK.ite (BtOK.and (BtOK.cmp gt_ok v_ulag_place EvOK.int rfl) (BtOK.cmp ge_ok (EvOK.item v_ulag_orders (EvOK.bin sub_ok v_ulag_place EvOK.int)) v_ulag_word rfl)) (FsOK.cons (ExOK.ret EvOK.bool) FsOK.nil) FsOK.nil) FsOK.nil))) (fun _ _ => rfl)) (FsOK.cons (ExOK.ret (EvOK.cmp eq_ok (EvOK.callB gl_ulag_len (H.nb 0 rfl) (by decide +kernel) (by decide +kernel) (by decide +kernel) len_fun (.cons v_ulag_orders (fun _ _ => rfl) .nil)) (EvOK.call gl_ulag_ulam (H.fn 16 rfl).1 (by decide +kernel) (H.fn 16 rfl).2.fn (ok_ulam H) (by omega) (.cons v_ulag_codes (fun _ _ => rfl) .nil)) rfl)) FsOK.nil))))))))))
theorem sp_ulag : FnSpec (scopeAt 27) own_ulag 1 R_ulag := FnSpec.of_b (show fnSpecB (scopeAt 27) own_ulag 1 R_ulag = true from (by decide +kernel))
noncomputable def P_ulag (P : Addr) : PF := bodyF 1 10 (F_ulag P)
theorem ok_ulag (H : Given W) : CallOK W 5 (H.a "_law_agree") (P_ulag H.P) := CallOK.of_body (H.fn 17 rfl).2 sp_ulag (fs_ulag H) (fun vals hv pm code doc => by
 obtain ⟨x0, rfl⟩ := len1 hv; rfl)
end MJ
noncomputable section NA
open PySem PySem.W PySem.Calls PyProof.Rows
set_option maxHeartbeats 4000000
variable {W : Wd} {R : Rs} {k : Nat}
noncomputable def ScriptAt (W : Wd) (a : Addr) (ns : List Int) : Prop := ∃ vs : List Value, W.B.IsList a vs.toArray ∧ IntsAre vs ns ∧ ns.length ≤ 63
theorem VRs.of_ints {ρ : List Addr} : ∀ {vs : List Value} {ns : List Int}, IntsAre vs ns → VRs ρ (ns.map .int) vs
 | _, _, .nil => trivial
 | _, _, .cons n t r => ⟨⟨t, rfl⟩, VRs.of_ints r⟩
noncomputable def pSliceB (a : Addr) (ns : List Int) (f : PE) (lo hi : Option PE) : PE := fun l h => (f l h).bind fun p => (pPart lo l p.2).bind fun q => (pPart hi l q.2).bind fun r => match p.1 with
 | .fn a' => if a' = a then some (.ref r.2.length, r.2 ++ [.list (aSl (ns.map .int) q.1 r.1)]) else none
 | _ => none
theorem EvOK.sliceB {value : Expr} {lo hi : Option Expr} {p pos : Pos} {f : PE} {fl fu : Option PE} {a : Addr} {ns : List Int} (hs : ScriptAt W a ns) (ha : EvOK W R k value f)
  (h1 : match lo, fl with | none, none => True | some e, some f => EvOK W R k e f | _, _ => False) (h2 : match hi, fu with | none, none => True | some e, some f => EvOK W R k e f | _, _ => False) :
  EvOK W R k (.Subscript value (.Slice lo hi none p) pos) (pSliceB a ns f fl fu) := by
 intro A fs env locs l G ρ σ s cx eo hl st v σ' ev Q E hQ
 refine bindP ev fun x σ₁ e1 ev => ?_
 refine bindP ev fun y σ₂ e2 ev => ?_
 refine bindP ev fun z σ₃ e3 e4 => ?_
 refine Subscript_ (ha A fs env locs l G ρ σ s cx eo hl st x σ₁ e1 _ E fun ρ₁ s₁ c₁ le₁ r₁ st₁ => ?_)
 refine wpAny_Slice (part_ok cx eo hl h1 st₁ y σ₂ e2 _ E fun ρ₂ s₂ c₂ le₂ r₂ st₂ => ?_)
 refine part_ok cx eo hl h2 st₂ z σ₃ e3 _ E fun ρ₃ s₃ c₃ le₃ r₃ st₃ => ?_
 rw [evalPart_none]
 refine wpAny_pure ?_
 refine xEA r₂ fun t2 hrf1 hrf2 => ?_; subst hrf1; subst hrf2
 refine xEA r₃ fun t3 hrf1 hrf2 => ?_; subst hrf1; subst hrf2
 have le := le₁.trans (le₂.trans le₃)
 have st₄ := st₃.push { cls := .type "slice", data := .fields #[partValue t2, partValue t3, .none] } s₃.toks
 cases x <;> simp only at e4 <;> try exact nn e4
 split at e4
 ·rename_i ha'
  replace hQ := hQ.t2 e4
  subst ha'
  cases r₁
  obtain ⟨vs, ⟨o, ho, hc, n, hd⟩, hi, hz⟩ := hs
  have hlen := hi.length
  have hl' : Heap.IsList (s₃.heap.push { cls := .type "slice", data := .fields #[partValue t2, partValue t3, .none] }) _ vs.toArray := ⟨o, st₄.stays _ _ ho, hc, n, hd⟩
  refine tail_builtin hl'.typeIs slot_list_getitem.lookup (wpAny_getItem_list_slice hl' (Heap.IsSliceOf.new ..) (part_isPart t2) (part_isPart t3) .none (by simp) ?_ (by simp; rw [sizeLine_eq]; lia)) (subscripted_plain ..)
  rw [slicePick_sl]
  exact hQ _ _ _ (le.trans (Le.app _ _)) (new_ref st₄) (st₄.newList ((VRs.of_ints hi).sl _ _) _)
 ·exact nn e4
noncomputable def oAddL : AOp2
 | .ref a, .ref b, h => match h[a]?, h[b]? with
  | some (.list xs), some (.list ys) => if xs.length + ys.length ≤ 1000000 then some (.ref h.length, h ++ [.list (xs ++ ys)]) else none
  | _, _ => none
 | _, _, _ => none
theorem addL_ok : OpOK W (binaryOp .Add) oAddL := by
 intro A G ρ σ s x y cx cy hh hu rx ry st v σ' ev Q E hQ
 unfold oAddL at ev
 split at ev
 rotate_right
 ·exact nn ev
 refine xEA rx fun a ea hrf => ?_; subst hrf
 refine xEA ry fun b eb hrf => ?_; subst hrf
 split at ev
 ·rename_i xs ys hx hy
  split at ev
  ·rename_i hz
   replace hQ := hQ.t2 ev
   refine xEEAAEEA (st.at hx) fun a' o ea' ho vs n hrf hv => ?_; subst hrf
   rw [ea] at ea'; replace ho := t1 ea' ▸ ho
   refine xEEAAEEA (st.at hy) fun b' o' eb' ho' us n' hrf hu' => ?_; subst hrf
   rw [eb] at eb'; replace ho' := t1 eb' ▸ ho'
   have h1 := hv.length
   have h2 := hu'.length
   refine PySem.P.add_list (items := vs.toArray) (items2 := us.toArray) ho ho' ?_ (by simp; rw [sizeLine_eq]; lia)
   have e : vs.toArray ++ us.toArray = (vs ++ us).toArray := by simp
   rw [e]
   exact hQ _ _ _ (Le.app _ _) (new_ref st) (st.newList (hv.app hu') _)
  ·exact nn ev
 ·exact nn ev
noncomputable def R_law_c1 : Rs := { slots := [("cell", 1)], globs := ["int"], loc := [".0", "cell"], cel := [], capt := [] }
theorem sl_law_c1_cell : R_law_c1.slots.lookup ("cell" : Str) = some 1 := (show R_law_c1.slots.lookup ("cell" : Str) = some 1 from (by decide +kernel))
theorem gl_law_c1_int : R_law_c1.globs.contains ("int" : Str) = true := (show R_law_c1.globs.contains ("int" : Str) = true from (by decide +kernel))
theorem lc_law_c1_cell : R_law_c1.loc.contains ("cell" : Str) = true := (show R_law_c1.loc.contains ("cell" : Str) = true from (by decide +kernel))
theorem v_law_c1_cell {pos : Pos} {k : Nat} : EvOK W R_law_c1 k (.Name "cell" pos) (pVar 1) := EvOK.var sl_law_c1_cell (by decide +kernel) (by decide +kernel)
theorem s_law_c1_cell : StoreAt R_law_c1 "cell" 1 := ⟨sl_law_c1_cell, .inl lc_law_c1_cell⟩
noncomputable def R_law : Rs := { slots := [("script", 1), ("drawn", 2)], globs := ["len", "_law_agree"], loc := ["script", "drawn"], cel := [], capt := [] }
theorem sl_law_drawn : R_law.slots.lookup ("drawn" : Str) = some 2 := (show R_law.slots.lookup ("drawn" : Str) = some 2 from (by decide +kernel))
theorem sl_law_script : R_law.slots.lookup ("script" : Str) = some 1 := (show R_law.slots.lookup ("script" : Str) = some 1 from (by decide +kernel))
theorem gl_law_ulag : R_law.globs.contains ("_law_agree" : Str) = true := (show R_law.globs.contains ("_law_agree" : Str) = true from (by decide +kernel))
theorem gl_law_len : R_law.globs.contains ("len" : Str) = true := (show R_law.globs.contains ("len" : Str) = true from (by decide +kernel))
theorem lc_law_drawn : R_law.loc.contains ("drawn" : Str) = true := (show R_law.loc.contains ("drawn" : Str) = true from (by decide +kernel))
theorem v_law_drawn {pos : Pos} {k : Nat} : EvOK W R_law k (.Name "drawn" pos) (pVar 2) := EvOK.var sl_law_drawn (by decide +kernel) (by decide +kernel)
theorem v_law_script {pos : Pos} {k : Nat} : EvOK W R_law k (.Name "script" pos) (pVar 1) := EvOK.var sl_law_script (by decide +kernel) (by decide +kernel)
theorem s_law_drawn : StoreAt R_law "drawn" 2 := ⟨sl_law_drawn, .inl lc_law_drawn⟩
noncomputable def own_law : List (Str × Bool) := [("script", false), ("drawn", false)]
noncomputable def F_law (P a : Addr) (ns : List Int) : PS := (sSeq (sAsg 2 (pComp 2 (iOf (pSliceB a ns (pVar 1) none (some (pConst (.int 5))))) (.nm 1) (fun _ h => some (true, h)) (pBin oMod (pCall fInt [pVar 1]) (pBin oPow (pConst (.int 10)) (pConst (.int 6)))))) (sSeq (sRet (pCall (P_ulag P) [(pBin oAddL (pVar 2) (pSlice (pList [(pConst (.int 8)), (pConst (.int 6)), (pConst (.int 26)), (pConst (.int 9)), (pConst (.int 19))]) (some (pCall fLen [pVar 2])) none))])) (sNil)))
theorem fs_law (H : Given W) {a : Addr} {ns : List Int} (hs : ScriptAt W a ns) : FsOK W R_law 5 (bodyAt 28) (F_law H.P a ns) :=
 (FsOK.cons (ExOK.asgComp s_law_drawn (own := [(".0", false), ("cell", false)]) (cap := []) (R' := R_law_c1) (CompSpec.of (by decide +kernel)) (ItEv.of (EvOK.sliceB (fl := none) (fu := (some (pConst (.int 5)))) hs v_law_script trivial EvOK.int)) (.nm s_law_c1_cell) (show (1 : Nat) < 2 by decide) .nil (EvOK.bin mod_ok (EvOK.callT gl_law_c1_int (H.nb 6 rfl) (by decide +kernel) (by decide +kernel) (by decide +kernel) int_typ (.cons v_law_c1_cell (fun _ _ => rfl) .nil)) (EvOK.bin pow_ok EvOK.int EvOK.int)) (fun _ _ => rfl) (by decide +kernel) (fun _ h1 h2 => swaps_loc h1 h2 rfl (by decide +kernel))) (FsOK.cons (ExOK.ret (EvOK.call gl_law_ulag (H.fn 17 rfl).1 (by decide +kernel) (H.fn 17 rfl).2.fn (ok_ulag H) (by decide) (.cons (EvOK.bin addL_ok v_law_drawn (EvOK.slice (fl := (some (pCall fLen [pVar 2]))) (fu := none) (EvOK.list (.cons EvOK.int (fun _ _ => rfl) (.cons EvOK.int (fun _ _ => rfl) (.cons EvOK.int (fun _ _ => rfl) (.cons EvOK.int (fun _ _ => rfl) (.cons EvOK.int (fun _ _ => rfl) .nil))))) (by decide +kernel)) (EvOK.callB gl_law_len (H.nb 0 rfl) (by decide +kernel) (by decide +kernel) (by decide +kernel) len_fun (.cons v_law_drawn (fun _ _ => rfl) .nil)) trivial)) (fun _ _ => rfl) .nil))) FsOK.nil))
theorem sp_law : FnSpec (scopeAt 28) own_law 1 R_law := FnSpec.of_b (show fnSpecB (scopeAt 28) own_law 1 R_law = true from (by decide +kernel))
noncomputable def P_law (P a : Addr) (ns : List Int) : PF := bodyF 1 2 (F_law P a ns)
theorem ok_law (H : Given W) {a al : Addr} {ns : List Int} (hs : ScriptAt W a ns) (hd : DefAt W al "law" (argsAt 28) (bodyAt 28) (scopeAt 28)) : CallOK W 6 al (P_law H.P a ns) := CallOK.of_body hd sp_law (fs_law H hs) (fun vals hv pm code doc => by
 obtain ⟨x0, rfl⟩ := len1 hv; rfl)
end NA
noncomputable section NA0
open PySem PySem.W PySem.Calls PyProof.Rows
set_option maxHeartbeats 4000000
variable {W : Wd} {R : Rs} {k : Nat}
noncomputable def ItEv0 (W : Wd) (R : Rs) (k : Nat) (e : Expr) (g : PI) : Prop :=
 ∀ A fs env locs l G ρ σ s, CxA A k fs (locs ++ G.map (·.1)) → EnvOK R env locs → l.length = locs.length → St0 W ρ σ (locs.zip l ++ G) s → ∀ it σ', g l σ = some (it, σ') → ∀ (Q : Value → Shared → Prop) (E : Value → Shared → Prop),
  (∀ ρ' s' I rs, Le ρ ρ' → ItR ρ' I it rs → St W ρ' σ' (rs ++ (locs.zip l ++ G)) s' → SelfIt W A I s' → Q (.ref I) s') →
  wpAny (model W.prog W.w) A (eval e env) (fun x s₁ => wpAny (model W.prog W.w) A (pyIter x) Q E s₁) E s
noncomputable def EvOK0 (W : Wd) (R : Rs) (k : Nat) (e : Expr) (f : PE) : Prop :=
 ∀ A fs env locs l G ρ σ s, CxA A k fs (locs ++ G.map (·.1)) → EnvOK R env locs → l.length = locs.length → St0 W ρ σ (locs.zip l ++ G) s →
  Comp W VR A (eval e env) ρ (locs.zip l ++ G) s (f l σ)
noncomputable def ExOK0 (W : Wd) (R : Rs) (k : Nat) (st : Stmt) (f : PS) : Prop :=
 ∀ A fs env locs l G ρ σ s, CxA A k fs (locs ++ G.map (·.1)) → EnvOK R env locs → fs.head? = some env → l.length = locs.length → St0 W ρ σ (locs.zip l ++ G) s → CompS W FR A (exec st env) locs l G ρ s (f l σ)
noncomputable def FsOK0 (W : Wd) (R : Rs) (k : Nat) (sts : List Stmt) (f : PS) : Prop :=
 ∀ A fs env locs l G ρ σ s, CxA A k fs (locs ++ G.map (·.1)) → EnvOK R env locs → fs.head? = some env → l.length = locs.length → St0 W ρ σ (locs.zip l ++ G) s → CompS W FR A (execs sts env) locs l G ρ s (f l σ)
noncomputable def CallOK0 (W : Wd) (k : Nat) (f : Addr) (F : PF) : Prop :=
 ∀ A fs G ρ σ s args cargs, CxA A k fs (G.map (·.1)) → St0 W ρ σ G s → VRs ρ args cargs → Comp W VR A (call (.ref f) cargs) ρ G s (F args σ)
theorem ItEv0.of {e : Expr} {f : PE} (h : EvOK0 W R k e f) : ItEv0 W R k e (iOf f) := by
 intro A fs env locs l G ρ σ s cx eo hl st it σ' ev Q E hQ
 refine bindP ev fun x σ₁ e1 e2 => ?_
 refine mapQ e2 fun it' e3 e4 => ?_
 cases e4
 exact h A fs env locs l G ρ σ s cx eo hl st x _ e1 _ E fun ρ₁ s₁ c₁ le₁ r₁ st₁ => iter_ok st₁ r₁ e3 fun s' I rs hI st' hself => hQ ρ₁ s' I rs le₁ hI st' hself
theorem comp_ok0 {elt target iter : Expr} {ifs : List Expr} {scope : Scope} {pos : Pos} {own : List (Str × Bool)} {cap : List (Str × Nat)} {R' : Rs} (C : CompSpec scope own cap R R') {g : PI} {tg : Tgt} {t : PB} {f : PE} (hi : ItEv0 W R k iter g) (ht : TgtOK R' target tg) (hb : tg.below own.length)
  (hifs : IfsOK W R' k ifs t) (he : EvOK W R' k elt f) (hs : ∀ env x, foldedSetIterable iter env x = pure x)
  {A : Around} {fs : List Env} {env : Env} {locs : List Loc} {l : List AV} {G : List (Loc × AV)} {ρ : List Addr} {σ : AH} {s : Shared} (cx : CxA A k fs (locs ++ G.map (·.1))) (eo : EnvOK R env locs) (hl : l.length = locs.length) (st : St0 W ρ σ (locs.zip l ++ G) s)
  {n : Nat} {σ' : AH} (ev : pComp own.length g tg t f l σ = some (.ref n, σ')) {use : Option (Value → Sem Unit)} {Q : Value → Shared → Prop} {E : Value → Shared → Prop}
  (hQ : UseOK W A E use Q ρ σ' n (locs.zip l ++ G)) : wpAny (model W.prog W.w) A (comprehension (.ListComp elt [⟨target, iter, ifs, 0⟩] scope pos) scope env (firstIterPos [⟨target, iter, ifs, 0⟩] pos) (newList []) false (eval iter env) use) Q E s :=
 comp_okG C ht hb hifs he hs cx eo hl (fun it σ' e Q E h => hi A fs env locs l G ρ σ s cx eo hl st it σ' e Q E h) ev hQ
theorem ExOK0.asgComp {x : Str} {p pos : Pos} {i : Nat} (hx : StoreAt R x i) {elt target iter : Expr} {ifs : List Expr} {scope : Scope} {cpos : Pos} {own : List (Str × Bool)} {cap : List (Str × Nat)} {R' : Rs} (C : CompSpec scope own cap R R') {g : PI} {tg : Tgt} {t : PB} {f : PE} (hi : ItEv0 W R k iter g) (ht : TgtOK R' target tg) (hb : tg.below own.length)
  (hifs : IfsOK W R' k ifs t) (he : EvOK W R' k elt f) (hs : ∀ env x, foldedSetIterable iter env x = pure x)
  (hloc : R.loc.contains x = true) (hsw : ∀ env : Env, env.scope.kind = .function → env.kindOf x = some .local → swapsWith (.ListComp elt [⟨target, iter, ifs, 0⟩] scope cpos) (some (.Name x p)) pos.line env = pure true) :
  ExOK0 W R k (.Assign [.Name x p] (.ListComp elt [⟨target, iter, ifs, 0⟩] scope cpos) pos) (sAsg i (pComp own.length g tg t f)) := by
 intro A fs env locs l G ρ σ s cx eo hfe hl st v l' σ' ev Q E hQ
 refine mapP ev fun y σ₁ e1 e2 => ?_
 replace hQ := hQ.r3 e2
 have hv : ∃ n, y = .ref n := by
  refine bindP e1 fun it σ₁ e1 e2 => ?_
  refine mapQ e2 fun σ₂ e3 e4 => ?_
  cases e4; exact ⟨_, rfl⟩
 obtain ⟨n, rfl⟩ := hv
 rw [exec_Assign_Name_used _ _ _ _ (hsw env eo.kind (eo.loc x hloc))]
 refine wpAny_bind (wpAny_standAt (wpAny_bind ?_))
 show wpAny _ A (do let _ ← comprehension (.ListComp elt [⟨target, iter, ifs, 0⟩] scope cpos) scope env (firstIterPos [⟨target, iter, ifs, 0⟩] cpos) (newList []) false (eval iter env) (some (assign (.Name x p) env))) _ _ s
 refine wpAny_bind (wpAny_mono (comp_ok0 (Q := fun _ s' => Q .next s') C hi ht hb hifs he hs cx eo hl st e1 (use := some (assign (.Name x p) env)) ?_) (fun _ s' hq => wpAny_pure (wpAny_pure hq)) fun _ _ e => e)
 intro ρ' s' c K le r st' Q' hQ'
 refine wpAny_assign_Name (store_ok eo hl (st'.perm (perm_raws _ _ _)) hx r fun s'' st'' => ?_)
 have st₂ := st''.perm (perm_raws _ _ _)
 refine hQ' s'' (fun L h' hs' hm hG => ?_) ⟨_, st₂⟩
 obtain ⟨x', v', hm⟩ := hm
 have hG' : ∀ p ∈ locs.zip (l.set i (.ref n)) ++ G, p.1.addr ≠ L := by
  intro p hp
  rcases List.mem_append.mp hp with h | h
  ·have h1 := (List.of_mem_zip (a := p.1) (b := p.2) h).1
   obtain ⟨j, hj, ej⟩ := List.getElem_of_mem h1
   have : (p.1, l[j]'(by lia)) ∈ locs.zip l := by
    refine zI (i := j) (List.getElem?_zip_eq_some.mpr ⟨?_, ?_⟩)
    ·rw [zH hj, ej]
    ·exact zH _
   exact hG (p.1, l[j]'(by lia)) (List.mem_append_left _ this)
  ·exact hG p (List.mem_append_right _ h)
 exact hQ ρ' _ _ le rfl (by simp) (st₂.drop hm hG' hs')
theorem FsOK0.cons {st : Stmt} {sts : List Stmt} {f g : PS} (h1 : ExOK0 W R k st f) (h2 : FsOK W R k sts g) : FsOK0 W R k (st :: sts) (sSeq f g) := by
 intro A fs env locs l G ρ σ s cx eo hfe hl st v l' σ' ev Q E hQ
 refine bindP3 ev fun fl l₁ σ₁ e1 e2 => ?_
 refine wpAny_execs_cons (h1 A fs env locs l G ρ σ s cx eo hfe hl st fl l₁ σ₁ e1 _ E fun ρ₁ s₁ c₁ le₁ r₁ hl₁ st₁ => ?_)
 cases fl with
 | nxt =>
  cases r₁
  exact h2 A fs env locs l₁ G ρ₁ σ₁ s₁ cx eo hfe (hl₁.trans hl) st₁ v l' σ' e2 Q E fun ρ₂ s₂ c₂ le₂ r₂ hl₂ => hQ ρ₂ s₂ c₂ (le₁.trans le₂) r₂ (hl₂.trans hl₁)
 | brk => cases r₁; cases e2; exact hQ ρ₁ s₁ _ le₁ rfl hl₁ st₁
 | cont => cases r₁; cases e2; exact hQ ρ₁ s₁ _ le₁ rfl hl₁ st₁
 | ret v =>
  refine xEA r₁ fun c hrf rc => ?_; subst hrf
  cases e2; exact hQ ρ₁ s₁ _ le₁ ⟨c, rfl, rc⟩ hl₁ st₁
theorem CallOK0.of_body {a : Addr} {name : Str} {params : Arguments} {body : List Stmt} {scope : Scope} (D : DefAt W a name params body scope) {own : List (Str × Bool)} {n : Nat} (S : FnSpec scope own n R) {f : PS} (hb : FsOK0 W R k body f)
  (hbind : ∀ (vals : List Value), vals.length = n → ∀ pm code doc, bindArgs (docDef name params body scope pm code doc) ⟨vals, []⟩ = pure (((own.take n).map (·.1)).zip vals))
  (hcode : ∀ c pm code doc o, R.code = some c → W.B.get? a = some o → o.data = .func (docDef name params body scope pm code doc) → code = c := by intro c pm code doc o h; cases h) :
  CallOK0 W (k + 1) a (bodyF n own.length f) :=
 fun A fs G ρ σ s args cargs cx st ra => of_bodyG (nt := 0) D S (fun A fs env locs l G ρ σ s cx eo hf hl st hn => hb A fs env locs l G ρ σ s cx eo hf hl st) hbind hcode A fs G ρ σ s args cargs cx st (Nat.zero_le _) ra
theorem EvOK0.var {x : Str} {pos : Pos} {i : Nat} (e : R.slots.lookup x = some i) (hd : (x == ("__debug__" : Str)) = false) (hcd : (x == ("__classdict__" : Str)) = false) {A : Around} {fs : List Env} {env : Env} {locs : List Loc} {l : List AV} {G : List (Loc × AV)} {ρ : List Addr} {σ : AH} {s : Shared}
  (cx : CxA A k fs (locs ++ G.map (·.1))) (eo : EnvOK R env locs) (hl : l.length = locs.length) (st : St0 W ρ σ (locs.zip l ++ G) s) {v : AV} {σ' : AH} (ev : pVar i l σ = some (v, σ')) {Q : Value → Shared → Prop} {E : Value → Shared → Prop} (hQ : ∀ c, VR ρ v c → σ' = σ → Q c s) :
  wpAny (model W.prog W.w) A (eval (.Name x pos) env) Q E s := by
 refine xEA (eo.slots x i e) fun loc el hs => ?_
 unfold pVar at ev
 split at ev
 ·exact nn ev
 ·rename_i u n hu
  cases ev
  have hm : (loc, v) ∈ locs.zip l ++ G := zI (zip_get el hu)
  exact wpAny_Name (loadName_slot eo.kind hs (st.locs _ hm) (fun q => n q) (fun c r => hQ c r rfl) hcd) hd
 ·exact nn ev
theorem EvOK0.sliceB {x : Str} {np p pos cp : Pos} {i j : Nat} {n : Int} {a : Addr} {ns : List Int} (hs : ScriptAt W a ns) (e : R.slots.lookup x = some i) (hd : (x == ("__debug__" : Str)) = false) (hcd : (x == ("__classdict__" : Str)) = false) :
  EvOK0 W R k (.Subscript (.Name x np) (.Slice none (some (.Constant (.int n) j cp)) none p) pos) (pSliceB a ns (pVar i) none (some (pConst (.int n)))) := by
 intro A fs env locs l G ρ σ s cx eo hl st v σ' ev Q E hQ
 refine bindP ev fun y σ₁ e1 ev => ?_
 refine bindP ev fun y2 σ₂ e2 ev => ?_
 refine bindP ev fun z σ₃ e3 e4 => ?_
 cases e2
 cases e3
 refine Subscript_ (EvOK0.var e hd hcd cx eo hl st e1 fun c₁ r₁ hσ => ?_)
 subst hσ
 refine wpAny_Slice ?_
 rw [evalPart_none]
 refine wpAny_pure ?_
 rw [evalPart_some]
 refine wpAny_Constant_int ?_
 have st₃ : St W ρ σ₁ (locs.zip l ++ G) { s with toks := s.toks + 1 } := st
 generalize hs₃ : ({ s with toks := s.toks + 1 } : Shared) = s₃ at st₃ ⊢
 refine wpAny_pure ?_
 have st₄ := st₃.push { cls := .type "slice", data := .fields #[.none, partValue (some (n, s.toks)), .none] } s₃.toks
 cases y <;> simp only at e4 <;> try exact nn e4
 split at e4
 ·rename_i ha'
  replace hQ := hQ.t2 e4
  subst ha'
  cases r₁
  obtain ⟨vs, ⟨o, ho, hc, m, hd'⟩, hi, hz⟩ := hs
  have hlen := hi.length
  have hl' : Heap.IsList (s₃.heap.push { cls := .type "slice", data := .fields #[.none, partValue (some (n, s.toks)), .none] }) _ vs.toArray := ⟨o, st₄.stays _ _ ho, hc, m, hd'⟩
  refine tail_builtin hl'.typeIs slot_list_getitem.lookup (wpAny_getItem_list_slice hl' (Heap.IsSliceOf.new ..) .none (part_isPart (some (n, s.toks))) .none (by simp) ?_ (by simp; rw [sizeLine_eq]; lia)) (subscripted_plain ..)
  rw [slicePick_sl]
  exact hQ _ _ _ (Le.app _ _) (new_ref st₄) (st₄.newList ((VRs.of_ints hi).sl _ _) _)
 ·exact nn e4
theorem fs_law0 (H : Given W) {a : Addr} {ns : List Int} (hs : ScriptAt W a ns) : FsOK0 W R_law 5 (bodyAt 28) (F_law H.P a ns) :=
 (FsOK0.cons (ExOK0.asgComp s_law_drawn (own := [(".0", false), ("cell", false)]) (cap := []) (R' := R_law_c1) (CompSpec.of (by decide +kernel)) (ItEv0.of (EvOK0.sliceB hs sl_law_script (by decide +kernel) (by decide +kernel))) (.nm s_law_c1_cell) (show (1 : Nat) < 2 by decide) .nil (EvOK.bin mod_ok (EvOK.callT gl_law_c1_int (H.nb 6 rfl) (by decide +kernel) (by decide +kernel) (by decide +kernel) int_typ (.cons v_law_c1_cell (fun _ _ => rfl) .nil)) (EvOK.bin pow_ok EvOK.int EvOK.int)) (fun _ _ => rfl) (by decide +kernel) (fun _ h1 h2 => swaps_loc h1 h2 rfl (by decide +kernel))) (FsOK.cons (ExOK.ret (EvOK.call gl_law_ulag (H.fn 17 rfl).1 (by decide +kernel) (H.fn 17 rfl).2.fn (ok_ulag H) (by lia) (.cons (EvOK.bin addL_ok v_law_drawn (EvOK.slice (fl := (some (pCall fLen [pVar 2]))) (fu := none) (EvOK.list (.cons EvOK.int (fun _ _ => rfl) (.cons EvOK.int (fun _ _ => rfl) (.cons EvOK.int (fun _ _ => rfl) (.cons EvOK.int (fun _ _ => rfl) (.cons EvOK.int (fun _ _ => rfl) .nil))))) (by decide +kernel)) (EvOK.callB gl_law_len (H.nb 0 rfl) (by decide +kernel) (by decide +kernel) (by decide +kernel) len_fun (.cons v_law_drawn (fun _ _ => rfl) .nil)) trivial)) (fun _ _ => rfl) .nil))) FsOK.nil))
theorem ok_law0 (H : Given W) {a al : Addr} {ns : List Int} (hs : ScriptAt W a ns) (hd : DefAt W al "law" (argsAt 28) (bodyAt 28) (scopeAt 28)) : CallOK0 W 6 al (P_law H.P a ns) := CallOK0.of_body hd sp_law (fs_law0 H hs) (fun vals hv pm code doc => by
 obtain ⟨x0, rfl⟩ := len1 hv; rfl)
end NA0
noncomputable section NB1
open PySem PySem.W PySem.Calls PyProof.Rows
set_option maxHeartbeats 4000000
theorem hid_get {h : Heap} {P : Addr} (hP : h.get? P = some (tabObj #[])) {b : Addr} {o : Obj} (e : h.get? b = some o) (hn : o.data ≠ .fields #[]) : (hideA h [P]).get? b = some o := by
 rw [hideA_out _ _ _ (fun hm => ?_)]
 ·exact e
 ·have := zL hm
  subst this
  rw [hP] at e; cases e
  exact hn rfl
theorem hid_back {h : Heap} {P : Addr} {b : Addr} {o : Obj} (e : (hideA h [P]).get? b = some o) : h.get? b = some o ∧ b ≠ P := by
 by_cases hb : b ∈ [P]
 ·rw [hideA_in _ _ _ hb] at e; cases e
 ·rw [hideA_out _ _ _ hb] at e
  exact ⟨e, fun q => hb (by rw [q]; exact List.mem_singleton.mpr rfl)⟩
theorem hid_ns {h : Heap} {P : Addr} (hP : h.get? P = some (tabObj #[])) {a : Addr} {m : Str → Option Value} (n : h.Ns a m) : (hideA h [P]).Ns a m :=
 let ⟨o, es, ep, ho, hd, r⟩ := n; ⟨o, es, ep, hid_get hP ho (by rw [hd]; intro e; cases e), hd, r⟩
theorem hid_code {h : Heap} {P : Addr} (hP : h.get? P = some (tabObj #[])) {cd : Value} {q : Str} (n : h.CodeRec cd q) : (hideA h [P]).CodeRec cd q := by
 obtain ⟨c, o, vs, t, e, ho, hd, r⟩ := n; exact ⟨c, o, vs, t, e, hid_get hP ho (by rw [hd]; intro e; injection e with e; subst e; simp at r), hd, r⟩
theorem def_of {q : Program} {loose : List Str} {mean : ExcName → Option Value} {mg mb : Str → Option Value} {h : Heap} (T : Top q loose mean mg mb h) {P : Addr} (hP : h.get? P = some (tabObj #[])) {prog : Program} {w : World} {os : OsState}
  {g : (hideA h [P]).Ns mainGlobals mg} {b : (hideA h [P]).Ns builtinsNs mb} {nl : (hideA h [P]).NoLimit} {bi : ∀ x : Str, x ≠ "__name__" → mb x = bootBuiltins x} {name : Str} {i : Nat}
  (hm : ∃ pos, (⟨name, argsAt i, bodyAt i, scopeAt i, pos⟩ : DefRec) ∈ recsOf q) : ∃ a, mg name = some (.ref a) ∧ DefAt ⟨prog, w, hideA h [P], os, mg, mb, g, b, nl, bi⟩ a name (argsAt i) (bodyAt i) (scopeAt i) := by
 obtain ⟨pos, hm⟩ := hm
 obtain ⟨a, o, pm, code, doc, h1, h2, h3, h4⟩ := T.fn _ hm
 exact ⟨a, h1, o, pm, code, doc, hid_get hP h2 (by rw [h3]; intro e; cases e), h3, hid_code hP h4⟩
theorem given_of {q : Program} {loose : List Str} {mean : ExcName → Option Value} {mg mb : Str → Option Value} {h : Heap} (T : Top q loose mean mg mb h) {P c pa : Addr} (hP : h.get? P = some (tabObj #[])) {prog : Program} {w : World} {os : OsState}
  (g : (hideA h [P]).Ns mainGlobals mg) (b : (hideA h [P]).Ns builtinsNs mb) (nl : (hideA h [P]).NoLimit) (bi : ∀ x : Str, x ≠ "__name__" → mb x = bootBuiltins x)
  (hrec : ∀ p ∈ theDefs, ∃ pos, (⟨p.1, argsAt p.2, bodyAt p.2, scopeAt p.2, pos⟩ : DefRec) ∈ recsOf q) (hfree : ∀ x ∈ theFree, mg x = none)
  (htwin : mg "_twin_re_1" = some (.ref pa)) (hpat : PatAt (hideA h [P]) pa) (hcode : CodeHd h c P) (hmain : ∃ o, h.get? mainGlobals = some o ∧ o.cls ≠ .type "module")
  {at0 : Addr} {ot : Obj} {ft : FuncData} (htr : mg "_translate" = some (.ref at0)) (hot : h.get? at0 = some ot) (hoc : ot.data = .func ft) (hfc : ft.code = .ref c) :
  ∃ H : Given ⟨prog, w, hideA h [P], os, mg, mb, g, b, nl, bi⟩, H.P = P := by
 have htab : TabAt ⟨prog, w, hideA h [P], os, mg, mb, g, b, nl, bi⟩ c P := by
  refine ⟨?_, ?_, hideA_in _ _ _ (List.mem_singleton.mpr rfl)⟩
  ·obtain ⟨o, vs, file, tf, flags, tg, inF, text, tt, e, e1, e2, e3, r⟩ := hcode
   exact ⟨o, vs, file, tf, flags, tg, inF, text, tt, hid_get hP e (by rw [e2]; intro q; injection q with q; subst q; simp at e3), e1, e2, e3, r⟩
  ·obtain ⟨bm, ob, h1, h2, h3, h4, h5, h6⟩ := T.bmain
   refine xEA hmain fun o ho hn => ?_
   refine ⟨bm, ob, h1, h2, fun e => ?_, fun e => ?_, hid_get hP h3 (by rw [h6]; intro e; cases e), h4, h5, h6⟩
   ·rw [e, ho] at h3; cases h3; exact hn h4
   ·rw [e, hP] at h3; cases h3; cases h6
 have key : ∀ p ∈ theDefs, mg p.1 = some (.ref (Classical.epsilon fun x => mg p.1 = some (.ref x))) ∧ DefAt ⟨prog, w, hideA h [P], os, mg, mb, g, b, nl, bi⟩ (Classical.epsilon fun x => mg p.1 = some (.ref x)) p.1 (argsAt p.2) (bodyAt p.2) (scopeAt p.2) := fun p hp =>
  have ⟨a, e, d⟩ := def_of (prog := prog) (w := w) (os := os) (g := g) (b := b) (nl := nl) (bi := bi) T hP (hrec p hp)
  have q : mg p.1 = some (.ref (Classical.epsilon fun x => mg p.1 = some (.ref x))) := Classical.epsilon_spec (p := fun x => mg p.1 = some (.ref x)) ⟨a, e⟩
  have r : a = Classical.epsilon fun x => mg p.1 = some (.ref x) := Value.ref.inj (Option.some.inj (e.symm.trans q))
  ⟨q, r ▸ d⟩
 refine ⟨⟨P, c, pa, fun s => Classical.epsilon fun x => mg s = some (.ref x), htab, hpat, htwin, fun k _ _ e => key _ (zI e), fun k _ e => hfree _ (zI e), fun c' pm cd doc o hc ho hd => ?_⟩, rfl⟩
 cases hc
 have ea : at0 = _ := Value.ref.inj (Option.some.inj (htr.symm.trans (key ("_translate", 10) (zI (i := 2) rfl)).1))
 rw [← ea] at ho
 obtain ⟨ho', _⟩ := hid_back ho
 rw [hot] at ho'; cases ho'
 rw [hoc] at hd
 injection hd with hd
 subst hd
 exact hfc
end NB1
noncomputable section PA
open PySem
noncomputable abbrev Wo := List Nat
noncomputable def aSs (ws : List Wo) : List AV := ws.map .str
theorem aSs_length (ws : List Wo) : (aSs ws).length = ws.length := by simp [aSs]
theorem aSs_get (ws : List Wo) (i : Nat) : (aSs ws)[i]? = (ws[i]?).map .str := by simp [aSs]
theorem aSs_set (ws : List Wo) (i : Nat) (x : Wo) : (aSs ws).set i (.str x) = aSs (ws.set i x) := by simp [aSs, List.map_set]
theorem aSs_append (a b : List Wo) : aSs (a ++ b) = aSs a ++ aSs b := by simp [aSs]
theorem small_nat {i : Nat} (h : i < 1000000000) : small (i : Int) = true := by unfold small; simp; omega
theorem seqIdx_nat {i n : Nat} (h : i < n) : seqIndex? (i : Int) n = some i := by
 unfold seqIndex?
 have h1 : ¬ ((i : Int) < 0) := by lia
 simp only [h1, if_false]
 rw [if_pos (by simp; omega)]
 simp
theorem aItem_nat {σ : AH} {n i : Nat} {xs : List AV} {v : AV} (hσ : σ[n]? = some (.list xs)) (hv : xs[i]? = some v) (hn : v ≠ .undef) (hi : i < 1000000000) : aItem (.ref n) (.int (i : Int)) σ = some (v, σ) := by
 have hl := (zC hv).1
 simp only [aItem, small_nat hi, if_true, hσ, seqIdx_nat hl, zB, hv]
theorem aSet_nat {σ : AH} {n i : Nat} {xs : List AV} {v : AV} (hσ : σ[n]? = some (.list xs)) (hl : i < xs.length) (hi : i < 1000000000) : aSet (.ref n) (.int (i : Int)) v σ = some (σ.set n (.list (xs.set i v))) := by
 simp only [aSet, small_nat hi, if_true, hσ, seqIdx_nat hl, zM]
theorem set_get {σ : AH} {n : Nat} {o o' : AObj} (h : σ[n]? = some o) : (σ.set n o')[n]? = some o' := by
 rw [List.getElem?_set_self (zC h).1]
theorem par_eq {pos : Nat} (h : 0 < pos) : (((pos : Nat) : Int) - 1).fdiv (2 ^ (1 : Int).toNat) = (((pos - 1) / 2 : Nat) : Int) := by
 have : ((pos : Nat) : Int) - 1 = ((pos - 1 : Nat) : Int) := by exact o23 h
 rw [this]
 show Int.fdiv _ 2 = _
 rw [Int.fdiv_eq_ediv_of_nonneg _ (by decide)]
 exact rfl
noncomputable def sd : Nat → List Wo → Nat → Wo → List Wo
 | 0, ws, pos, x => ws.set pos x
 | f + 1, ws, pos, x => if pos = 0 then ws.set pos x else if x < ws.getD ((pos - 1) / 2) [] then sd f (ws.set pos (ws.getD ((pos - 1) / 2) [])) ((pos - 1) / 2) x else ws.set pos x
noncomputable def sdT : PB := pCmpB cGt (pVar 3) (pVar 2)
noncomputable def sdB : PS := sSeq (sAsg 5 (pBin oShr (pBin oSub (pVar 3) (pConst (.int 1))) (pConst (.int 1)))) (sSeq (sAsg 6 (pBin aItem (pVar 1) (pVar 5)))
 (sSeq (sIf (pCmpB cLt (pVar 4) (pVar 6)) (sSeq (sSet (pVar 1) (pVar 3) (pVar 6)) (sSeq (sAsg 3 (pVar 5)) (sSeq sCont sNil))) sNil) (sSeq sBrk sNil)))
theorem F_sd_eq : F_usd = sSeq (sAsg 4 (pBin aItem (pVar 1) (pVar 3))) (sSeq (sWhile sdT sdB) (sSeq (sSet (pVar 1) (pVar 3) (pVar 4)) sNil)) := rfl
theorem sdB_eval {σ : AH} {n pos : Nat} {ws : List Wo} {x y : Wo} {a b : AV} (hσ : σ[n]? = some (.list (aSs ws))) (hp : 0 < pos) (hl : pos < ws.length) (hs : ws.length < 1000000) (hy : ws[(pos - 1) / 2]? = some y) :
  sdB [.undef, .ref n, .int 0, .int pos, .str x, a, b] σ = if x < y then some (.cont, [.undef, .ref n, .int 0, .int ((pos - 1) / 2 : Nat), .str x, .int ((pos - 1) / 2 : Nat), .str y], σ.set n (.list (aSs (ws.set pos y))))
   else some (.brk, [.undef, .ref n, .int 0, .int pos, .str x, .int ((pos - 1) / 2 : Nat), .str y], σ) := by
 have h1 := par_eq hp
 have hyv : (aSs ws)[(pos - 1) / 2]? = some (.str y) := by rw [aSs_get, hy]; rfl
 have h2 := aItem_nat hσ hyv (by simp) (by omega)
 have h3 := aSet_nat (v := .str y) hσ (i := pos) (by rw [aSs_length]; exact hl) (by exact Nat.lt_trans hl (zK hs (by decide)))
 rw [aSs_set] at h3
 unfold sdB
 simp only [sSeq, sAsg, pBin, pVar, pConst, oSub_i, oShr_i, zS, zZ, zB, zM, h1, zU, zV, h2, sIf, pCmpB, cLt_i, cLt_s]
 rw [if_pos (by decide)]
 simp only [zM, zB, h1, zU, zV, h2, sSeq, cLt_s, zS, zZ]
 by_cases hxy : x < y
 ·simp only [hxy, decide_true, if_true, sSet, pVar, zS, zZ, zB, h3, zM, sAsg, sCont, zU, zV]
 ·simp only [hxy, decide_false, Bool.false_eq_true, if_false, sNil, zB, sBrk]
theorem sd_loop {n : Nat} {x : Wo} : ∀ (f : Nat) (F : Nat) (ws : List Wo) (pos : Nat) (σ : AH) (a b : AV), pos ≤ f → f < F → σ[n]? = some (.list (aSs ws)) → pos < ws.length → ws.length < 1000000 →
  ∃ pos' a' b' ws', wLoop sdT sdB F [.undef, .ref n, .int 0, .int pos, .str x, a, b] σ = some (.nxt, [.undef, .ref n, .int 0, .int (pos' : Nat), .str x, a', b'], σ.set n (.list (aSs ws'))) ∧ ws'.length = ws.length ∧ pos' < ws.length ∧ ws'.set pos' x = sd f ws pos x := by
 intro f
 induction f with
 | zero =>
  intro F ws pos σ a b hp hF hσ hl hs
  obtain ⟨F, rfl⟩ : ∃ F', F = F' + 1 := ⟨F - 1, by exact o65 hF⟩
  have : pos = 0 := by exact Nat.eq_zero_of_le_zero hp
  subst this
  refine ⟨0, a, b, ws, ?_, rfl, hl, rfl⟩
  unfold wLoop
  have : σ.set n (.list (aSs ws)) = σ := list_set_same hσ
  rw [this]
  simp [sdT, pCmpB, pVar, cGt_i, cGt_s]
 | succ f ih =>
  intro F ws pos σ a b hp hF hσ hl hs
  obtain ⟨F, rfl⟩ : ∃ F', F = F' + 1 := ⟨F - 1, by exact o65 hF⟩
  unfold sd
  by_cases h0 : pos = 0
  ·subst h0
   refine ⟨0, a, b, ws, ?_, rfl, hl, by rw [if_pos rfl]⟩
   unfold wLoop
   have : σ.set n (.list (aSs ws)) = σ := list_set_same hσ
   rw [this]
   simp [sdT, pCmpB, pVar, cGt_i, cGt_s]
  ·rw [if_neg h0]
   have hpp : (pos - 1) / 2 < ws.length := by exact o68 hl
   have hy : ws[(pos - 1) / 2]? = some (ws.getD ((pos - 1) / 2) []) := by rw [zJ, zH hpp]; rfl
   generalize hyd : ws.getD ((pos - 1) / 2) [] = y at hy ⊢
   have hev := sdB_eval (x := x) (a := a) (b := b) hσ (by exact Nat.pos_of_ne_zero h0) hl hs hy
   have ht : sdT [.undef, .ref n, .int 0, .int (pos : Nat), .str x, a, b] σ = some (true, σ) := by
    simp [sdT, pCmpB, pVar, cGt_i, cGt_s]; exact Nat.pos_of_ne_zero h0
   by_cases hxy : x < y
   ·rw [if_pos hxy] at hev ⊢
    obtain ⟨pos', a', b', ws', e1, e2, e3, e4⟩ := ih F (ws.set pos y) ((pos - 1) / 2) (σ.set n (.list (aSs (ws.set pos y)))) (.int ((pos - 1) / 2 : Nat)) (.str y) (by lia) (by exact Nat.lt_of_succ_lt_succ hF) (set_get hσ) (by simpa using hpp) (by simpa using hs)
    refine ⟨pos', a', b', ws', ?_, by simpa using e2, by simpa using e3, e4⟩
    unfold wLoop
    rw [ht]
    simp only [zB, if_true, hev]
    rw [e1, List.set_set]
   ·rw [if_neg hxy] at hev ⊢
    refine ⟨pos, .int ((pos - 1) / 2 : Nat), .str y, ws, ?_, rfl, hl, rfl⟩
    unfold wLoop
    rw [ht]
    simp only [zB, if_true, hev]
    have : σ.set n (.list (aSs ws)) = σ := list_set_same hσ
    rw [this]
theorem siftdown_spec {n pos : Nat} {ws : List Wo} {x : Wo} {σ : AH} (hσ : σ[n]? = some (.list (aSs ws))) (hx : ws[pos]? = some x) (hs : ws.length < 1000000) :
  P_usd [.ref n, .int 0, .int pos] σ = some (.none, σ.set n (.list (aSs (sd pos ws pos x)))) := by
 have hl := (zC hx).1
 obtain ⟨pos', a', b', ws', e1, e2, e3, e4⟩ := sd_loop (n := n) (x := x) pos FUEL ws pos σ .undef .undef (Nat.le_refl _) (by unfold FUEL; exact Nat.lt_trans hl (zK hs (by decide))) hσ hl hs
 have hxv : (aSs ws)[pos]? = some (.str x) := by rw [aSs_get, hx]; rfl
 have h2 := aItem_nat hσ hxv (by simp) (by exact Nat.lt_trans hl (zK hs (by decide)))
 have h3 := aSet_nat (v := .str x) (set_get (o' := .list (aSs ws')) hσ) (i := pos') (by rw [aSs_length, e2]; exact e3) (by exact Nat.lt_trans e3 (zK hs (by decide)))
 rw [aSs_set, e4, List.set_set] at h3
 unfold P_usd bodyF
 rw [F_sd_eq]
 simp only [List.length_cons, List.length_nil, if_true, List.replicate, List.cons_append, List.nil_append, sSeq, sAsg, pBin, pVar, zS, zZ, zB, zM, h2, zU, zV, sWhile, e1, sSet, h3, sNil]
end PA
noncomputable section PB
open PySem
noncomputable def push (ws : List Wo) (x : Wo) : List Wo := sd ws.length (ws ++ [x]) ws.length x
theorem heappush_spec {n : Nat} {ws : List Wo} {x : Wo} {σ : AH} (hσ : σ[n]? = some (.list (aSs ws))) (hs : ws.length < 900000) :
  P_heappush [.ref n, .str x] σ = some (.none, σ.set n (.list (aSs (push ws x)))) := by
 have h1 : (σ.set n (.list (aSs (ws ++ [x]))))[n]? = some (.list (aSs (ws ++ [x]))) := set_get hσ
 have hsd := siftdown_spec (pos := ws.length) (x := x) h1 (by simp) (by simp; exact Nat.lt_succ_of_le (zK hs (by decide)))
 have hlen : (aSs (ws ++ [x])).length ≤ 1000000 := by rw [aSs_length]; simp; exact Nat.le_of_lt (zK hs (by decide))
 have hlen2 : (aSs ws).length ≤ 1000000 := by rw [aSs_length]; exact Nat.le_of_lt (zK hs (by decide))
 have happ : aSs ws ++ [AV.str x] = aSs (ws ++ [x]) := by rw [aSs_append]; rfl
 have hl : (((aSs (ws ++ [x])).length : Nat) : Int) - 1 = (ws.length : Nat) := by rw [aSs_length]; simp
 unfold P_heappush bodyF F_heappush
 simp only [List.length_cons, List.length_nil, if_true, List.replicate, List.cons_append, List.nil_append, sSeq, sExpr, pMeth, SKind.ok, pArgs, pVar, zS, zZ, zB, zM, hσ, mAppend, hlen2, happ, pCall, pConst, pBin, fLen, h1, hlen, oSub_i, hl, hsd, sNil, List.set_set]
 unfold push
 rfl
noncomputable def su : Nat → List Wo → Nat → List Wo × Nat
 | 0, ws, pos => (ws, pos)
 | f + 1, ws, pos => if 2 * pos + 1 < ws.length then
   let c := if 2 * pos + 2 < ws.length ∧ ¬ ws.getD (2 * pos + 1) [] < ws.getD (2 * pos + 2) [] then 2 * pos + 2 else 2 * pos + 1
   su f (ws.set pos (ws.getD c [])) c
  else (ws, pos)
noncomputable def suT : PB := pCmpB cLt (pVar 6) (pVar 3)
noncomputable def suB : PS := (sSeq (sAsg 7 (pBin oAdd (pVar 6) (pConst (.int 1)))) (sSeq (sIf (pAndB (pCmpB cLt (pVar 7) (pVar 3)) (pNot (pCmpB cLt (pBin aItem (pVar 1) (pVar 6)) (pBin aItem (pVar 1) (pVar 7))))) (sSeq (sAsg 6 (pVar 7)) (sNil)) (sNil)) (sSeq (sSet (pVar 1) (pVar 2) (pBin aItem (pVar 1) (pVar 6))) (sSeq (sAsg 2 (pVar 6)) (sSeq (sAsg 6 (pBin oAdd (pBin oMul (pConst (.int 2)) (pVar 2)) (pConst (.int 1)))) (sNil)))))) 
theorem F_su_eq : F_usu = (sSeq (sAsg 3 (pCall fLen [pVar 1])) (sSeq (sAsg 4 (pVar 2)) (sSeq (sAsg 5 (pBin aItem (pVar 1) (pVar 2))) (sSeq (sAsg 6 (pBin oAdd (pBin oMul (pConst (.int 2)) (pVar 2)) (pConst (.int 1)))) (sSeq (sWhile suT suB) (sSeq (sSet (pVar 1) (pVar 2) (pVar 5)) (sSeq (sExpr (pCall (P_usd) [pVar 1, pVar 4, pVar 2])) (sNil)))))))) := rfl
theorem oMul2 (pos : Nat) (σ : AH) : oMul (.int 2) (.int (pos : Nat)) σ = some (.int ((2 * pos : Nat) : Int), σ) := by
 have h : small 2 = true := by decide
 simp [oMul_i, h]
theorem item_str {σ : AH} {n i : Nat} {ws : List Wo} (hσ : σ[n]? = some (.list (aSs ws))) (hl : i < ws.length) (hs : ws.length < 1000000) : aItem (.ref n) (.int (i : Int)) σ = some (.str (ws.getD i []), σ) := by
 refine aItem_nat hσ ?_ (by simp) (by exact Nat.lt_trans hl (zK hs (by decide)))
 rw [aSs_get, zJ, zH hl]; rfl
theorem suB_eval {σ : AH} {n pos : Nat} {ws : List Wo} {x st v7 : AV} (hσ : σ[n]? = some (.list (aSs ws))) (hs : ws.length < 1000000) (hp : pos < ws.length) (hl : 2 * pos + 1 < ws.length) :
  let c := if 2 * pos + 2 < ws.length ∧ ¬ ws.getD (2 * pos + 1) [] < ws.getD (2 * pos + 2) [] then 2 * pos + 2 else 2 * pos + 1
  suB [.undef, .ref n, .int pos, .int ws.length, st, x, .int (2 * pos + 1 : Nat), v7] σ = some (.nxt, [.undef, .ref n, .int c, .int ws.length, st, x, .int (2 * c + 1 : Nat), .int (2 * pos + 2 : Nat)], σ.set n (.list (aSs (ws.set pos (ws.getD c []))))) := by
 intro c
 have e1 : ((2 * pos + 1 : Nat) : Int) + 1 = ((2 * pos + 2 : Nat) : Int) := by exact rfl
 have hi1 := item_str hσ hl hs
 have hset : ∀ y : Wo, aSet (.ref n) (.int (pos : Nat)) (.str y) σ = some (σ.set n (.list (aSs (ws.set pos y)))) := fun y => by
  have := aSet_nat (v := .str y) hσ (i := pos) (by rw [aSs_length]; exact hp) (by lia)
  rw [aSs_set] at this; exact this
 have e3 : ∀ m : Nat, ((2 * m : Nat) : Int) + 1 = ((2 * m + 1 : Nat) : Int) := fun m => by exact rfl
 unfold suB
 by_cases h2 : 2 * pos + 2 < ws.length
 ·have hi2 := item_str hσ h2 hs
  by_cases h3 : ws.getD (2 * pos + 1) [] < ws.getD (2 * pos + 2) []
  ·have hc : c = 2 * pos + 1 := by exact if_neg fun h => h.2 h3
   have hlt : ((2 * pos + 2 : Nat) : Int) < (ws.length : Int) := by exact o44 h2
   rw [hc]
   simp only [sSeq, sAsg, pBin, pVar, pConst, oAdd_i, oAdd_s, zS, zZ, zB, zM, e1, zU, zV, sIf, pAndB, pCmpB, cLt_i, cLt_s, hlt, decide_true, if_true, pNot, hi1, hi2, h3, Bool.not_true, Bool.false_eq_true, if_false, sNil, sSet, hset, oMul2, e3]
  ·have hc : c = 2 * pos + 2 := by exact if_pos ⟨h2, h3⟩
   have hlt : ((2 * pos + 2 : Nat) : Int) < (ws.length : Int) := by exact o44 h2
   rw [hc]
   simp only [sSeq, sAsg, pBin, pVar, pConst, oAdd_i, oAdd_s, zS, zZ, zB, zM, e1, zU, zV, sIf, pAndB, pCmpB, cLt_i, cLt_s, hlt, decide_true, if_true, pNot, hi1, hi2, h3, decide_false, Bool.not_false, sNil, sSet, hset, oMul2, e3]
 ·have hc : c = 2 * pos + 1 := by exact if_neg fun h => h2 h.1
  have hlt : ¬ ((2 * pos + 2 : Nat) : Int) < (ws.length : Int) := by lia
  rw [hc]
  simp only [sSeq, sAsg, pBin, pVar, pConst, oAdd_i, oAdd_s, zS, zZ, zB, zM, e1, zU, zV, sIf, pAndB, pCmpB, cLt_i, cLt_s, hlt, decide_false, Bool.false_eq_true, if_false, sNil, hi1, sSet, hset, oMul2, e3]
end PB
noncomputable section PC
open PySem
theorem su_loop {n L : Nat} {st x : AV} : ∀ (f F : Nat) (ws : List Wo) (pos : Nat) (σ : AH) (v7 : AV), L ≤ f + pos → f < F → σ[n]? = some (.list (aSs ws)) → ws.length = L → pos < L → L < 1000000 →
  ∃ v6 v7', wLoop suT suB F [.undef, .ref n, .int pos, .int L, st, x, .int (2 * pos + 1 : Nat), v7] σ = some (.nxt, [.undef, .ref n, .int ((su f ws pos).2 : Nat), .int L, st, x, v6, v7'], σ.set n (.list (aSs (su f ws pos).1))) ∧
   (su f ws pos).1.length = L ∧ (su f ws pos).2 < L := by
 intro f
 induction f with
 | zero => intro F ws pos σ v7 h1 h2 h3 h4 h5 h6; omega
 | succ f ih =>
  intro F ws pos σ v7 h1 h2 h3 h4 h5 h6
  obtain ⟨F, rfl⟩ : ∃ F', F = F' + 1 := ⟨F - 1, by exact o65 h2⟩
  unfold su
  by_cases hc : 2 * pos + 1 < ws.length
  ·rw [if_pos hc]
   have hev := suB_eval (x := x) (st := st) (v7 := v7) h3 (by exact o51 h4 h6) (by exact o52 h5 (Eq.symm h4)) hc
   dsimp only at hev ⊢
   generalize hcc : (if 2 * pos + 2 < ws.length ∧ ¬ ws.getD (2 * pos + 1) [] < ws.getD (2 * pos + 2) [] then 2 * pos + 2 else 2 * pos + 1) = c at hev ⊢
   have hcl : pos < c ∧ c < L := by
    rw [← hcc]
    split
    ·rename_i h; lia
    ·lia
   refine xEEAA (ih F (ws.set pos (ws.getD c [])) c (σ.set n (.list (aSs (ws.set pos (ws.getD c []))))) (.int (2 * pos + 2 : Nat)) (by lia) (by exact Nat.lt_of_succ_lt_succ h2) (set_get h3) (by simpa using h4) hcl.2 h6) fun v6 v7' e1 e2 e3 => ?_
   refine ⟨v6, v7', ?_, e2, e3⟩
   have ht : suT [.undef, .ref n, .int pos, .int L, st, x, .int (2 * pos + 1 : Nat), v7] σ = some (true, σ) := by
    simp [suT, pCmpB, pVar, cLt_i, cLt_s]; exact o44 (o52 hc h4)
   unfold wLoop
   rw [ht]
   rw [h4] at hev
   simp only [zB, if_true, hev]
   rw [e1, List.set_set]
  ·rw [if_neg hc]
   refine ⟨.int (2 * pos + 1 : Nat), v7, ?_, h4, h5⟩
   have ht : suT [.undef, .ref n, .int pos, .int L, st, x, .int (2 * pos + 1 : Nat), v7] σ = some (false, σ) := by
    simp [suT, pCmpB, pVar, cLt_i, cLt_s]; lia
   unfold wLoop
   rw [ht]
   have : σ.set n (.list (aSs ws)) = σ := list_set_same h3
   rw [this]
   simp
noncomputable def siftup (ws : List Wo) (x : Wo) : List Wo := let r := su ws.length ws 0; sd r.2 (r.1.set r.2 x) r.2 x
theorem siftup_spec {n : Nat} {ws : List Wo} {x : Wo} {σ : AH} (hσ : σ[n]? = some (.list (aSs ws))) (hx : ws[0]? = some x) (hs : ws.length < 1000000) :
  P_usu [.ref n, .int 0] σ = some (.none, σ.set n (.list (aSs (siftup ws x)))) := by
 have hl := (zC hx).1
 have hxv : (aSs ws)[0]? = some (.str x) := by rw [aSs_get, hx]; rfl
 have h2 := aItem_nat hσ hxv (by simp) (by decide)
 refine xEEAA (su_loop (n := n) (L := ws.length) (st := .int 0) (x := .str x) ws.length FUEL ws 0 σ .undef (by exact Nat.le_refl _) (by unfold FUEL; exact zK hs (by decide)) hσ rfl hl hs) fun v6 v7' e1 e2 e3 => ?_
 have h3 := aSet_nat (v := .str x) (set_get (o' := .list (aSs (su ws.length ws 0).1)) hσ) (i := (su ws.length ws 0).2) (by rw [aSs_length, e2]; exact e3) (by exact Nat.lt_trans e3 (zK hs (by decide)))
 rw [aSs_set, List.set_set] at h3
 have h4 := siftdown_spec (n := n) (pos := (su ws.length ws 0).2) (x := x) (ws := (su ws.length ws 0).1.set (su ws.length ws 0).2 x) (σ := σ.set n (.list (aSs ((su ws.length ws 0).1.set (su ws.length ws 0).2 x)))) (set_get hσ) (by rw [List.getElem?_set_self (by exact o52 e3 (Eq.symm e2))]) (by simp; exact o51 e2 hs)
 rw [List.set_set] at h4
 have hlen : ws.length ≤ 1000000 := by exact Nat.le_of_lt hs
 have hm : oMul (.int 2) (.int 0) σ = some (.int ((2 * 0 : Nat) : Int), σ) := oMul2 0 σ
 have e0 : ((2 * 0 : Nat) : Int) + 1 = ((2 * 0 + 1 : Nat) : Int) := rfl
 have ez : ((0 : Nat) : Int) = 0 := rfl
 rw [ez] at h2 e1
 unfold P_usu bodyF
 rw [F_su_eq]
 simp only [List.length_cons, List.length_nil, if_true, List.replicate, List.cons_append, List.nil_append, sSeq, sAsg, pBin, pVar, pCall, pArgs, fLen, hσ, hlen, aSs_length, pConst, oAdd_i, oAdd_s, hm, e0, zS, zZ, zB, zM, h2, zU, zV, sWhile, e1, sSet, h3, sExpr, h4, sNil, List.set_set, siftup]
theorem heappop_one {n : Nat} {x : Wo} {σ : AH} (hσ : σ[n]? = some (.list (aSs [x]))) : P_heappop [.ref n] σ = some (.str x, σ.set n (.list (aSs []))) := by
 have h1 : (σ.set n (.list (aSs [])))[n]? = some (.list (aSs [])) := set_get hσ
 simp only [aSs, List.map_cons, List.map_nil] at hσ h1
 unfold P_heappop bodyF F_heappop
 simp [sSeq, sAsg, sIf, sRet, sNil, pMeth, SKind.ok, pArgs, pVar, mPop, pTruth, aTruth, hσ, h1, List.replicate, aSs]
theorem heappop_more {n : Nat} {y x : Wo} {ws : List Wo} {σ : AH} (hσ : σ[n]? = some (.list (aSs (y :: ws ++ [x])))) (hs : ws.length < 900000) : P_heappop [.ref n] σ = some (.str y, σ.set n (.list (aSs (siftup (x :: ws) x)))) := by
 have h1 : (σ.set n (.list (aSs (y :: ws))))[n]? = some (.list (aSs (y :: ws))) := set_get hσ
 have h2 : (σ.set n (.list (aSs (x :: ws))))[n]? = some (.list (aSs (x :: ws))) := set_get hσ
 have h3 := siftup_spec (x := x) h2 rfl (by simp; exact Nat.lt_succ_of_le (zK hs (by decide)))
 rw [List.set_set] at h3
 have hi : aItem (.ref n) (.int 0) (σ.set n (.list (aSs (y :: ws)))) = some (.str y, σ.set n (.list (aSs (y :: ws)))) := aItem_nat (i := 0) h1 rfl (by simp) (by decide)
 have hset : aSet (.ref n) (.int 0) (.str x) (σ.set n (.list (aSs (y :: ws)))) = some (σ.set n (.list (aSs (x :: ws)))) := by
  have := aSet_nat (v := .str x) h1 (i := 0) (by simp [aSs]) (by decide)
  rw [List.set_set] at this
  exact this
 have hl1 : (aSs (y :: ws ++ [x])).length ≤ 1000000 := by rw [aSs_length]; simp; exact Nat.le_of_lt (zK hs (by decide))
 have hl2 : (aSs (y :: ws)).length ≤ 1000000 := by rw [aSs_length]; simp; exact Nat.le_of_lt (zK hs (by decide))
 have hlast : (aSs (y :: ws ++ [x])).getLast? = some (.str x) := by rw [aSs_append]; exact List.getLast?_concat
 have hdrop : (aSs (y :: ws ++ [x])).dropLast = aSs (y :: ws) := by rw [aSs_append]; exact List.dropLast_concat
 have hne : (aSs (y :: ws)).isEmpty = false := rfl
 generalize y :: ws ++ [x] = zs at hσ hl1 hlast hdrop
 unfold P_heappop bodyF F_heappop
 simp only [List.length_cons, List.length_nil, if_true, List.replicate, List.cons_append, List.nil_append, sSeq, sAsg, sIf, sRet, sNil, pMeth, SKind.ok, pArgs, pVar, zS, zZ, zB, zM, hσ, mPop, hl1, hlast, hdrop, zU, zV, pTruth, aTruth, h1, hl2, hne, Bool.not_false, pBin, pConst, hi, sSet, hset, sExpr, pCall, h3]
end PC
noncomputable section PD
open PySem
theorem g_set (l : List Wo) (i j : Nat) (a : Wo) (hi : i < l.length) : (l.set i a).getD j [] = if i = j then a else l.getD j [] := by
 rw [zJ, List.getElem?_set]
 by_cases h : i = j
 ·rw [if_pos h, if_pos h, if_pos hi]; rfl
 ·rw [if_neg h, if_neg h, ← zJ]
noncomputable def IsHeap (v : List Wo) : Prop := ∀ i, 0 < i → i < v.length → v.getD ((i - 1) / 2) [] ≤ v.getD i []
noncomputable def AlmostHeap (v : List Wo) (pos : Nat) : Prop :=
 (∀ i, 0 < i → i < v.length → i ≠ pos → v.getD ((i - 1) / 2) [] ≤ v.getD i []) ∧ (∀ i, 0 < i → i < v.length → (i - 1) / 2 = pos → 0 < pos → v.getD ((pos - 1) / 2) [] ≤ v.getD i [])
theorem le_of_ltW {a b : Wo} (h : a < b) : a ≤ b := List.le_of_lt h
theorem le_trW {a b c : Wo} (h : a ≤ b) (h' : b ≤ c) : a ≤ c := List.le_trans h h'
theorem sd_heap : ∀ (f : Nat) (ws : List Wo) (pos : Nat) (x : Wo), pos ≤ f → pos < ws.length → AlmostHeap (ws.set pos x) pos → IsHeap (sd f ws pos x) ∧ (sd f ws pos x).Perm (ws.set pos x) := by
 intro f
 induction f with
 | zero =>
  intro ws pos x hf hl ha
  have : pos = 0 := by exact Nat.eq_zero_of_le_zero hf
  subst this
  exact ⟨fun i h1 h2 => ha.1 i h1 h2 (by exact Nat.ne_of_gt h1), List.Perm.refl _⟩
 | succ f ih =>
  intro ws pos x hf hl ha
  unfold sd
  by_cases h0 : pos = 0
  ·subst h0
   rw [if_pos rfl]
   exact ⟨fun i h1 h2 => ha.1 i h1 h2 (by exact Nat.ne_of_gt h1), List.Perm.refl _⟩
  ·rw [if_neg h0]
   have hpp : (pos - 1) / 2 < pos := by exact ohp (Nat.pos_of_ne_zero h0)
   generalize hp : (pos - 1) / 2 = pp at hpp
   have hppl : pp < ws.length := by exact Nat.lt_trans hpp hl
   generalize hy : ws.getD pp [] = y
   have hlen : (ws.set pos x).length = ws.length := by simp
   have hv : ∀ j, (ws.set pos x).getD j [] = if pos = j then x else ws.getD j [] := fun j => g_set ws pos j x hl
   have hvpp : (ws.set pos x).getD pp [] = y := by rw [hv, if_neg (by exact Nat.ne_of_gt hpp), hy]
   by_cases hxy : x < y
   ·rw [if_pos hxy]
    have hv' : ∀ j, ((ws.set pos y).set pp x).getD j [] = if pp = j then x else if pos = j then y else ws.getD j [] := fun j => by
     rw [g_set _ _ _ _ (by simpa using hppl), g_set _ _ _ _ hl]
    have hxley := le_of_ltW hxy
    have key : AlmostHeap ((ws.set pos y).set pp x) pp := by
     refine ⟨fun i h1 h2 h3 => ?_, fun i h1 h2 h3 h4 => ?_⟩
     ·have h2' : i < ws.length := by simpa using h2
      rw [hv', hv']
      rw [if_neg (by lia : ¬ pp = i)]
      have c1 := ha.1 i h1 (by simpa using h2')
      have c2 := ha.2 i h1 (by simpa using h2')
      rw [hv, hv] at c1
      rw [hv, hv] at c2
      by_cases hi : pos = i
      ·subst hi
       rw [hp, if_pos rfl, if_pos rfl]
       exact hxley
      ·rw [if_neg hi] at c1 c2 ⊢
       have c1 := c1 (by exact Ne.symm hi)
       by_cases hq : pp = (i - 1) / 2
       ·rw [if_pos hq]
        rw [if_neg (by lia : ¬ pos = (i - 1) / 2), ← hq, hy] at c1
        exact le_trW hxley c1
       ·rw [if_neg hq]
        by_cases hr : pos = (i - 1) / 2
        ·rw [if_pos hr]
         have c2 := c2 hr.symm (by exact o58 hpp)
         rw [hp, if_neg (by exact Nat.ne_of_gt hpp), hy] at c2
         exact c2
        ·rw [if_neg hr] at c1 ⊢
         exact c1
     ·have h2' : i < ws.length := by simpa using h2
      rw [hv', hv']
      rw [if_neg (by exact Nat.ne_of_gt (ohp h4) : ¬ pp = (pp - 1) / 2), if_neg (by exact Nat.ne_of_gt (o68 hpp) : ¬ pos = (pp - 1) / 2), if_neg (by exact o5 h1 h3 : ¬ pp = i)]
      have c3 := ha.1 pp h4 (by simpa using hppl) (by exact Nat.ne_of_lt hpp)
      rw [hv, hv, if_neg (by exact Nat.ne_of_gt (o68 hpp)), if_neg (by exact Nat.ne_of_gt hpp), hy] at c3
      by_cases hi : pos = i
      ·rw [if_pos hi]; exact c3
      ·rw [if_neg hi]
       have c1 := ha.1 i h1 (by simpa using h2') (by exact Ne.symm hi)
       rw [hv, hv, if_neg hi, if_neg (by exact Nat.ne_of_gt (o51 h3 hpp)), h3, hy] at c1
       exact le_trW c3 c1
    obtain ⟨r1, r2⟩ := ih (ws.set pos y) pp x (by exact Nat.le_of_lt_succ (zK hpp hf)) (by simpa using hppl) key
    refine ⟨r1, r2.trans ?_⟩
    have e := List.set_set_perm (as := ws.set pos x) (i := pos) (j := pp) (by simpa using hl) (by simpa using hppl)
    have e1 : (ws.set pos x)[pp]'(by simpa using hppl) = y := by
     rw [zJ, zH (by simpa using hppl)] at hvpp
     exact hvpp
    have e2 : (ws.set pos x)[pos]'(by simpa using hl) = x := by simp
    rw [e1, e2, List.set_set] at e
    exact e
   ·rw [if_neg hxy]
    refine ⟨fun i h1 h2 => ?_, List.Perm.refl _⟩
    by_cases hi : i = pos
    ·subst hi
     rw [hp, hvpp, hv, if_pos rfl]
     exact List.not_lt.mp hxy
    ·exact ha.1 i h1 h2 hi
theorem push_heap {ws : List Wo} {x : Wo} (h : IsHeap ws) : IsHeap (push ws x) ∧ (push ws x).Perm (ws ++ [x]) := by
 have hset : (ws ++ [x]).set ws.length x = ws ++ [x] := by simp
 have := sd_heap ws.length (ws ++ [x]) ws.length x (Nat.le_refl _) (by simp) (by
  rw [hset]
  refine ⟨fun i h1 h2 h3 => ?_, fun i h1 h2 h3 h4 => ?_⟩
  ·have h2 : i < ws.length := by simp at h2; exact Nat.lt_of_le_of_ne (Nat.le_of_lt_succ h2) h3
   have := h i h1 h2
   rw [zJ, zJ] at this ⊢
   rw [List.getElem?_append_left (by exact o68 h2), List.getElem?_append_left h2]
   exact this
  ·simp at h2; lia)
 rw [hset] at this
 exact this
end PD
noncomputable section PE1
open PySem
noncomputable def HoleHeap (v : List Wo) (pos : Nat) : Prop :=
 (∀ i, 0 < i → i < v.length → i ≠ pos → (i - 1) / 2 ≠ pos → v.getD ((i - 1) / 2) [] ≤ v.getD i []) ∧ (∀ i, 0 < i → i < v.length → (i - 1) / 2 = pos → 0 < pos → v.getD ((pos - 1) / 2) [] ≤ v.getD i [])
theorem swap_perm (ws : List Wo) (x : Wo) {pos c : Nat} (hl : pos < ws.length) (hc : c < ws.length) (hne : pos ≠ c) : ((ws.set pos (ws.getD c [])).set c x).Perm (ws.set pos x) := by
 have e := List.set_set_perm (as := ws.set pos x) (i := pos) (j := c) (by simpa using hl) (by simpa using hc)
 have e1 : (ws.set pos x)[c]'(by simpa using hc) = ws.getD c [] := by
  rw [List.getElem_set_ne hne, zJ, zH hc]; rfl
 have e2 : (ws.set pos x)[pos]'(by simpa using hl) = x := by simp
 rw [e1, e2, List.set_set] at e
 exact e
theorem su_heap (x : Wo) : ∀ (f : Nat) (ws : List Wo) (pos : Nat), ws.length ≤ f + pos → pos < ws.length → HoleHeap (ws.set pos x) pos →
  AlmostHeap ((su f ws pos).1.set (su f ws pos).2 x) (su f ws pos).2 ∧ ((su f ws pos).1.set (su f ws pos).2 x).Perm (ws.set pos x) ∧ (su f ws pos).2 < (su f ws pos).1.length := by
 intro f
 induction f with
 | zero => intro ws pos h1 h2; omega
 | succ f ih =>
  intro ws pos hf hl hh
  unfold su
  by_cases hc : 2 * pos + 1 < ws.length
  ·rw [if_pos hc]
   dsimp only
   generalize hcc : (if 2 * pos + 2 < ws.length ∧ ¬ ws.getD (2 * pos + 1) [] < ws.getD (2 * pos + 2) [] then 2 * pos + 2 else 2 * pos + 1) = c
   have hcl : pos < c ∧ c < ws.length ∧ (c - 1) / 2 = pos ∧ (∀ i, 0 < i → i < ws.length → (i - 1) / 2 = pos → ws.getD c [] ≤ ws.getD i []) := by
    rw [← hcc]
    split
    ·rename_i h
     refine ⟨by lia, by omega, by lia, fun i h1 h2 h3 => ?_⟩
     have : i = 2 * pos + 1 ∨ i = 2 * pos + 2 := by exact o3 h1 h3
     rcases this with rfl | rfl
     ·exact List.not_lt.mp h.2
     ·exact List.le_refl _
    ·rename_i h
     refine ⟨by lia, by omega, by lia, fun i h1 h2 h3 => ?_⟩
     have : i = 2 * pos + 1 ∨ i = 2 * pos + 2 := by exact o3 h1 h3
     rcases this with rfl | rfl
     ·exact List.le_refl _
     ·by_cases hlt : ws.getD (2 * pos + 1) [] < ws.getD (2 * pos + 2) []
      ·exact le_of_ltW hlt
      ·exact absurd ⟨h2, hlt⟩ h
   obtain ⟨c1, c2, c3, c4⟩ := hcl
   have hv : ∀ j, (ws.set pos x).getD j [] = if pos = j then x else ws.getD j [] := fun j => g_set ws pos j x hl
   have hv' : ∀ j, ((ws.set pos (ws.getD c [])).set c x).getD j [] = if c = j then x else if pos = j then ws.getD c [] else ws.getD j [] := fun j => by
    rw [g_set _ _ _ _ (by simpa using c2), g_set _ _ _ _ hl]
   have key : HoleHeap ((ws.set pos (ws.getD c [])).set c x) c := by
    refine ⟨fun i h1 h2 h3 h4 => ?_, fun i h1 h2 h3 h4 => ?_⟩
    ·have h2' : i < ws.length := by simpa using h2
     rw [hv', hv', if_neg (show ¬ c = (i - 1) / 2 from fun e => h4 e.symm), if_neg (show ¬ c = i from fun e => h3 e.symm)]
     by_cases hi : pos = i
     ·subst hi
      rw [if_neg (by exact Nat.ne_of_gt (ohp h1)), if_pos rfl]
      have := hh.2 c (by exact o58 c1) (by simpa using c2) c3 h1
      rw [hv, hv, if_neg (by exact Nat.ne_of_gt (ohp h1)), if_neg (by omega)] at this
      exact this
     ·rw [if_neg hi]
      by_cases hp : pos = (i - 1) / 2
      ·rw [if_pos hp]; exact c4 i h1 h2' hp.symm
      ·rw [if_neg hp]
       have := hh.1 i h1 (by simpa using h2') (fun e => hi e.symm) (fun e => hp e.symm)
       rw [hv, hv, if_neg hp, if_neg hi] at this
       exact this
    ·have h2' : i < ws.length := by simpa using h2
     rw [hv', hv', c3, if_neg (by exact Nat.ne_of_gt c1), if_pos rfl, if_neg (by exact o5 h1 h3), if_neg (by exact o4 c1 c3 h1 h3)]
     have := hh.1 i h1 (by simpa using h2') (by lia) (by exact Nat.ne_of_gt (o52 c1 (Eq.symm h3)))
     rw [hv, hv, if_neg (by exact Nat.ne_of_lt (o52 c1 (Eq.symm h3))), if_neg (by exact o4 c1 c3 h1 h3), h3] at this
     exact this
   obtain ⟨r1, r2, r3⟩ := ih (ws.set pos (ws.getD c [])) c (by simp; lia) (by simpa using c2) key
   exact ⟨r1, r2.trans (swap_perm ws x hl c2 (by exact Nat.ne_of_lt c1)), r3⟩
  ·rw [if_neg hc]
   refine ⟨⟨fun i h1 h2 h3 => hh.1 i h1 h2 h3 ?_, fun i h1 h2 h3 h4 => ?_⟩, List.Perm.refl _, hl⟩
   ·have : i < ws.length := by simpa using h2
    show (i - 1) / 2 ≠ pos
    lia
   ·have : i < ws.length := by simpa using h2
    have h3 : (i - 1) / 2 = pos := h3
    lia
theorem root_min {v : List Wo} (h : IsHeap v) : ∀ i, i < v.length → v.getD 0 [] ≤ v.getD i [] := by
 intro i
 induction i using Nat.strongRecOn with
 | ind i ih =>
  intro hi
  by_cases h0 : i = 0
  ·rw [h0]; exact List.le_refl _
  ·exact le_trW (ih ((i - 1) / 2) (by exact ohp (Nat.pos_of_ne_zero h0)) (by exact o68 hi)) (h i (by exact Nat.pos_of_ne_zero h0) hi)
theorem root_min' {y : Wo} {v : List Wo} (h : IsHeap (y :: v)) {w : Wo} (hw : w ∈ y :: v) : y ≤ w := by
 obtain ⟨i, hi, rfl⟩ := List.getElem_of_mem hw
 have := root_min h i hi
 rw [zJ, zJ, zH hi] at this
 exact this
theorem siftup_heap {y x : Wo} {ws : List Wo} (h : IsHeap (y :: ws ++ [x])) : IsHeap (siftup (x :: ws) x) ∧ (siftup (x :: ws) x).Perm (x :: ws) := by
 have hh : HoleHeap ((x :: ws).set 0 x) 0 := by
  refine ⟨fun i h1 h2 h3 h4 => ?_, fun i h1 h2 h3 h4 => by lia⟩
  have h2' : i < ws.length + 1 := by simpa using h2
  have := h i h1 (by simp; exact Nat.lt_succ_of_lt h2')
  obtain ⟨j, rfl⟩ : ∃ j, i = j + 1 := ⟨i - 1, by exact o65 h1⟩
  obtain ⟨k, hk⟩ : ∃ k, (j + 1 - 1) / 2 = k + 1 := ⟨(j + 1 - 1) / 2 - 1, by exact o65 (Nat.pos_of_ne_zero h4)⟩
  rw [hk] at this ⊢
  simp only [zV, List.getD_cons_succ, List.cons_append] at this ⊢
  rw [zJ, zJ, List.getElem?_append_left (by exact zK (o71 hk) (Nat.le_of_lt_succ (o68 h2'))), List.getElem?_append_left (by exact Nat.lt_of_succ_lt_succ h2')] at this
  rw [zJ, zJ]
  exact this
 obtain ⟨r1, r2, r3⟩ := su_heap x (x :: ws).length (x :: ws) 0 (by exact Nat.le_refl _) (by simp) hh
 have := sd_heap (su (x :: ws).length (x :: ws) 0).2 ((su (x :: ws).length (x :: ws) 0).1.set (su (x :: ws).length (x :: ws) 0).2 x) (su (x :: ws).length (x :: ws) 0).2 x (Nat.le_refl _) (by simpa using r3) (by rw [List.set_set]; exact r1)
 rw [List.set_set] at this
 exact ⟨this.1, this.2.trans r2⟩
theorem heappop_spec {n : Nat} {v : List Wo} {σ : AH} (hσ : σ[n]? = some (.list (aSs v))) (hv : IsHeap v) (hne : v ≠ []) (hs : v.length < 900000) :
  ∃ y v', P_heappop [.ref n] σ = some (.str y, σ.set n (.list (aSs v'))) ∧ IsHeap v' ∧ v.Perm (y :: v') ∧ ∀ w ∈ v, y ≤ w := by
 match v, hne with
 | [y], _ => exact ⟨y, [], heappop_one hσ, fun i h1 h2 => by simp at h2, List.Perm.refl _, fun w hw => by rw [zL hw]; exact List.le_refl _⟩
 | y :: z :: r, _ =>
  obtain ⟨ws, x, e⟩ : ∃ ws x, z :: r = ws ++ [x] := ⟨(z :: r).dropLast, (z :: r).getLast (by simp), (List.dropLast_concat_getLast (by simp)).symm⟩
  rw [e] at hσ hv hs ⊢
  obtain ⟨h1, h2⟩ := siftup_heap (y := y) (x := x) (ws := ws) hv
  refine ⟨y, _, heappop_more (y := y) (x := x) (ws := ws) hσ (by simp at hs; exact o9 (o9 hs)), h1, ?_, fun w hw => root_min' hv hw⟩
  refine List.Perm.cons y (List.Perm.trans ?_ h2.symm)
  exact List.perm_append_singleton x ws
end PE1
noncomputable section QA
open PySem
theorem wLoop_inv {t : PB} {b : PS} (P : Nat → List AV → AH → Prop) (E : List AV → AH → Prop)
  (hs : ∀ i l h, P (i + 1) l h → ∃ h1 fl l' h', t l h = some (true, h1) ∧ b l h1 = some (fl, l', h') ∧ (fl = .nxt ∨ fl = .cont) ∧ P i l' h')
  (he : ∀ l h, P 0 l h → ∃ h', t l h = some (false, h') ∧ E l h') :
  ∀ (m F : Nat) (l : List AV) (h : AH), m < F → P m l h → ∃ l' h', wLoop t b F l h = some (.nxt, l', h') ∧ E l' h' := by
 intro m
 induction m with
 | zero =>
  intro F l h hF hp
  obtain ⟨F, rfl⟩ : ∃ F', F = F' + 1 := ⟨F - 1, by exact o65 hF⟩
  refine xEA (he l h hp) fun h' e1 e2 => ?_
  refine ⟨l, h', ?_, e2⟩
  unfold wLoop
  rw [e1]; rfl
 | succ m ih =>
  intro F l h hF hp
  obtain ⟨F, rfl⟩ : ∃ F', F = F' + 1 := ⟨F - 1, by exact o65 hF⟩
  obtain ⟨h1, fl, l', h', e1, e2, e3, e4⟩ := hs m l h hp
  refine xEEA (ih F l' h' (by exact Nat.lt_of_succ_lt_succ hF) e4) fun l2 h2 e5 e6 => ?_
  refine ⟨l2, h2, ?_, e6⟩
  unfold wLoop
  rw [e1]
  simp only [zB, if_true, e2]
  rcases e3 with rfl | rfl <;> exact e5
theorem fLoop_inv {tg : Tgt} {b : PS} (its : Nat → AIt) (P : Nat → List AV → AH → Prop) (m : Nat) (hf : ∀ i, (its i).fits tg = true)
  (hs : ∀ i, i < m → ∀ l h, P i l h → ∃ v h1 l1 fl l' h', aNext (its i) h = some (some v, its (i + 1), h1) ∧ aBind tg v l h1 = some l1 ∧ b l1 h1 = some (fl, l', h') ∧ (fl = .nxt ∨ fl = .cont) ∧ P (i + 1) l' h')
  (he : ∀ l h, P m l h → ∃ it', aNext (its m) h = some (none, it', h)) :
  ∀ (d i F : Nat) (l : List AV) (h : AH), i + d = m → d < F → P i l h → ∃ l' h', fLoop tg b F (its i) l h = some (.nxt, l', h') ∧ P m l' h' := by
 intro d
 induction d with
 | zero =>
  intro i F l h hi hF hp
  obtain ⟨F, rfl⟩ : ∃ F', F = F' + 1 := ⟨F - 1, by exact o65 hF⟩
  have : i = m := by omega
  subst this
  obtain ⟨it', e⟩ := he l h hp
  refine ⟨l, h, ?_, hp⟩
  unfold fLoop
  rw [if_pos (hf i), e]; rfl
 | succ d ih =>
  intro i F l h hi hF hp
  obtain ⟨F, rfl⟩ : ∃ F', F = F' + 1 := ⟨F - 1, by exact o65 hF⟩
  obtain ⟨v, h1, l1, fl, l', h', e1, e2, e3, e4, e5⟩ := hs i (by exact o20 hi) l h hp
  refine xEEA (ih (i + 1) F l' h' (by exact o8 hi) (by exact Nat.lt_of_succ_lt_succ hF) e5) fun l2 h2 e6 e7 => ?_
  refine ⟨l2, h2, ?_, e7⟩
  unfold fLoop
  rw [if_pos (hf i), e1]
  simp only [zB, e2, e3]
  rcases e4 with rfl | rfl <;> exact e6
noncomputable def Kp (σ σ' : AH) : Prop := ∀ (i : Nat) (o : AObj), σ[i]? = some o → σ'[i]? = some o
theorem Kp.refl (σ : AH) : Kp σ σ := fun _ _ e => e
theorem Kp.trans {a b c : AH} (x : Kp a b) (y : Kp b c) : Kp a c := fun i o e => y i o (x i o e)
theorem Kp.app (σ τ : AH) : Kp σ (σ ++ τ) := fun i o e => by
 rw [List.getElem?_append_left (zC e).1]; exact e
theorem Kp.len {σ σ' : AH} (h : Kp σ σ') : σ.length ≤ σ'.length := by
 cases q : σ.length with
 | zero => exact Nat.zero_le _
 | succ n =>
  have := h n _ (zH (by exact o71 q))
  have := (zC this).1
  exact this
theorem Kp.set {σ σ' : AH} (h : Kp σ σ') {n : Nat} (hn : σ.length ≤ n) (o : AObj) : Kp σ (σ'.set n o) := fun i x e => by
 have := (zC e).1
 rw [List.getElem?_set_ne (by exact Nat.ne_of_gt (zK this hn))]
 exact h i x e
theorem Kp.appr {σ σ' : AH} (h : Kp σ σ') (τ : AH) : Kp σ (σ' ++ τ) := h.trans (.app _ _)
theorem get_new (σ : AH) (o : AObj) : (σ ++ [o])[σ.length]? = some o := by rw [List.getElem?_append_right (Nat.le_refl _)]; simp
noncomputable def All2 {α β : Type} (R : α → β → Prop) : List α → List β → Prop
 | [], [] => True
 | x :: xs, y :: ys => R x y ∧ All2 R xs ys
 | _, _ => False
theorem All2.ind {α β : Type} {R : α → β → Prop} {P : List α → List β → Prop} (h0 : P [] []) (h1 : ∀ x xs y ys, R x y → All2 R xs ys → P xs ys → P (x :: xs) (y :: ys)) : ∀ {xs : List α} {ys : List β}, All2 R xs ys → P xs ys := by
 intro xs
 induction xs with
 | nil => intro ys h; cases ys with | nil => exact h0 | cons _ _ => exact h.elim
 | cons x xs ih => intro ys h; cases ys with | nil => exact h.elim | cons y ys => exact h1 x xs y ys h.1 h.2 (ih h.2)
theorem All2.len {α β : Type} {R : α → β → Prop} {xs : List α} {ys : List β} (r : All2 R xs ys) : ys.length = xs.length := All2.ind (P := fun (xs : List α) (ys : List β) => ys.length = xs.length) rfl (fun _ _ _ _ _ _ c => congrArg (· + 1) c) r
theorem All2.imp {α β : Type} {R R' : α → β → Prop} (h : ∀ x y, R x y → R' x y) {xs : List α} {ys : List β} (r : All2 R xs ys) : All2 R' xs ys := All2.ind (P := All2 R') trivial (fun _ _ _ _ a _ c => ⟨h _ _ a, c⟩) r
theorem All2.snoc {α β : Type} {R : α → β → Prop} {x : α} {y : β} (h : R x y) {xs : List α} {ys : List β} (r : All2 R xs ys) : All2 R (xs ++ [x]) (ys ++ [y]) := All2.ind (P := fun xs ys => All2 R (xs ++ [x]) (ys ++ [y])) (by exact ⟨h, trivial⟩) (fun _ _ _ _ a _ c => by exact ⟨a, c⟩) r
theorem All2.get {α β : Type} {R : α → β → Prop} {xs : List α} {ys : List β} {i : Nat} {x : α} (r : All2 R xs ys) (e : xs[i]? = some x) : ∃ y, ys[i]? = some y ∧ R x y :=
 All2.ind (P := fun xs ys => ∀ i, xs[i]? = some x → ∃ y, ys[i]? = some y ∧ R x y) (fun _ e => nn e) (fun _ _ v _ a _ c i e => by
  cases i with
  | zero => exact ⟨v, rfl, t1 e ▸ a⟩
  | succ i => exact c i e) r i e
theorem All2.eq_map {α β : Type} {w : α → β} {xs : List α} {ys : List β} (r : All2 (fun x y => y = w x) xs ys) : ys = xs.map w := All2.ind (P := fun xs ys => ys = xs.map w) rfl (fun _ _ _ _ a _ c => by rw [a, c]; rfl) r
theorem mAppend_ok {σ : AH} {n : Nat} {xs : List AV} (v : AV) (h : σ[n]? = some (.list xs)) (hl : xs.length ≤ 1000000) : mAppend (.ref n) [v] σ = some (.none, σ.set n (.list (xs ++ [v]))) := by
 simp only [mAppend, h, if_pos hl]
noncomputable def Fr0 (k : Nat) (q : List AV) : Prop := q.length = k ∧ q[0]? = some .undef
theorem cLoop_inv {α : Type} {tg : Tgt} {t : PB} {elt : PE} {k : Nat} {l : List AV} {σ : AH} (its : Nat → AIt) (xs : List α) (pre : α → List AV) (b : α → Bool) (R : α → AV → AH → Prop)
  (hf : ∀ i, (its i).fits tg = true) (hpre : ∀ x, Fr0 k (pre x))
  (hn : ∀ σ', Kp σ σ' → ∀ i x, xs[i]? = some x → ∃ v σ'', aNext (its i) σ' = some (some v, its (i + 1), σ'') ∧ Kp σ' σ'' ∧ ∀ q : List AV, Fr0 k q → aBind tg v (q ++ l) σ'' = some (pre x ++ l))
  (he : ∀ σ', Kp σ σ' → ∃ it', aNext (its xs.length) σ' = some (none, it', σ'))
  (ht : ∀ x ∈ xs, ∀ σ', Kp σ σ' → ∃ σ'', Kp σ' σ'' ∧ t (pre x ++ l) σ' = some (b x, σ''))
  (hw : ∀ x ∈ xs, b x = true → ∀ σ', Kp σ σ' → σ.length < σ'.length → ∃ v σ'', Kp σ' σ'' ∧ elt (pre x ++ l) σ' = some (v, σ'') ∧ R x v σ'')
  (hR : ∀ x v h h', R x v h → (∀ i o, i ≠ σ.length → h[i]? = some o → h'[i]? = some o) → R x v h') (hl : xs.length < 1000000) :
  ∀ (d i F : Nat) (q : List AV) (h : AH) (ys : List AV), i + d = xs.length → d < F → Fr0 k q → Kp σ h → h[σ.length]? = some (.list ys) → All2 (fun x v => R x v h) ((xs.take i).filter b) ys →
   ∃ h' ys', cLoop tg t elt σ.length F (its i) (q ++ l) h = some h' ∧ Kp σ h' ∧ h'[σ.length]? = some (.list ys') ∧ All2 (fun x v => R x v h') (xs.filter b) ys' := by
 intro d
 induction d with
 | zero =>
  intro i F q h ys hi hF hq hk ha hall
  obtain ⟨F, rfl⟩ : ∃ F', F = F' + 1 := ⟨F - 1, by exact o65 hF⟩
  have : i = xs.length := by omega
  subst this
  obtain ⟨it', e⟩ := he h hk
  refine ⟨h, ys, ?_, hk, ha, by rwa [List.take_length] at hall⟩
  unfold cLoop
  rw [if_pos (hf _), e]; rfl
 | succ d ih =>
  intro i F q h ys hi hF hq hk ha hall
  obtain ⟨F, rfl⟩ : ∃ F', F = F' + 1 := ⟨F - 1, by exact o65 hF⟩
  have hil : i < xs.length := by exact o20 hi
  have hx : xs[i]? = some xs[i] := zH hil
  have hmem : xs[i] ∈ xs := List.getElem_mem hil
  generalize xs[i] = x at hx hmem
  have htake : xs.take (i + 1) = xs.take i ++ [x] := by
   rw [List.take_add_one, hx]; rfl
  refine xEEAA (hn h hk i x hx) fun v h1 e1 k1 e2 => ?_
  refine xEA (ht x hmem h1 (hk.trans k1)) fun h2 k2 e3 => ?_
  have hstep : cLoop tg t elt σ.length (F + 1) (its i) (q ++ l) h = if b x then (elt (pre x ++ l) h2).bind fun y => (mAppend (.ref σ.length) [y.1] y.2).bind fun z => cLoop tg t elt σ.length F (its (i + 1)) (pre x ++ l) z.2
    else cLoop tg t elt σ.length F (its (i + 1)) (pre x ++ l) h2 := by
   rw [cLoop, if_pos (hf i), e1]
   simp only [zB, e2 q hq, e3]
  have hk2 := hk.trans (k1.trans k2)
  have ha2 := (k1.trans k2) _ _ ha
  have hal : σ.length < h2.length := (zC ha2).1
  have hall2 : All2 (fun x v => R x v h2) ((xs.take i).filter b) ys := hall.imp fun x v r => hR x v h h2 r fun i o _ e => (k1.trans k2) i o e
  rw [hstep]
  cases hb : b x with
  | false =>
   simp only [Bool.false_eq_true, if_false]
   refine ih (i + 1) F (pre x) h2 ys (by exact o8 hi) (by exact Nat.lt_of_succ_lt_succ hF) (hpre x) hk2 ha2 ?_
   rw [htake, List.filter_append, List.filter_cons_of_neg (by simp [hb])]
   simpa using hall2
  | true =>
   refine xEEAA (hw x hmem hb h2 hk2 hal) fun y h3 k3 e4 r => ?_
   have ha3 := k3 _ _ ha2
   have hys : ys.length ≤ 1000000 := by
    rw [hall.len]
    have := List.length_filter_le b (xs.take i)
    rw [List.length_take] at this
    lia
   simp only [if_true, e4, zB, mAppend_ok y ha3 hys]
   have hst : ∀ i o, i ≠ σ.length → h3[i]? = some o → (h3.set σ.length (.list (ys ++ [y])))[i]? = some o := fun i o n e => by
    rw [List.getElem?_set_ne (Ne.symm n)]; exact e
   refine ih (i + 1) F (pre x) _ (ys ++ [y]) (by exact o8 hi) (by exact Nat.lt_of_succ_lt_succ hF) (hpre x) ((hk2.trans k3).set (Nat.le_refl _) _) (set_get ha3) ?_
   rw [htake, List.filter_append, List.filter_cons_of_pos hb]
   refine All2.snoc (R := fun x v => R x v (h3.set σ.length (.list (ys ++ [y])))) (hR x y h3 _ r hst) (hall2.imp fun x v r => hR x v _ _ (hR x v h2 h3 r fun i o _ e => k3 i o e) hst)
theorem pComp_gen {α : Type} {g : PI} {tg : Tgt} {t : PB} {elt : PE} {k : Nat} {l : List AV} {σ₀ σ : AH} (its : Nat → AIt) (xs : List α) (pre : α → List AV) (b : α → Bool) (R : α → AV → AH → Prop) (hk0 : 0 < k)
  (hg : g l σ₀ = some (its 0, σ))
  (hf : ∀ i, (its i).fits tg = true) (hpre : ∀ x, Fr0 k (pre x))
  (hn : ∀ σ', Kp σ σ' → ∀ i x, xs[i]? = some x → ∃ v σ'', aNext (its i) σ' = some (some v, its (i + 1), σ'') ∧ Kp σ' σ'' ∧ ∀ q : List AV, Fr0 k q → aBind tg v (q ++ l) σ'' = some (pre x ++ l))
  (he : ∀ σ', Kp σ σ' → ∃ it', aNext (its xs.length) σ' = some (none, it', σ'))
  (ht : ∀ x ∈ xs, ∀ σ', Kp σ σ' → ∃ σ'', Kp σ' σ'' ∧ t (pre x ++ l) σ' = some (b x, σ''))
  (hw : ∀ x ∈ xs, b x = true → ∀ σ', Kp σ σ' → σ.length < σ'.length → ∃ v σ'', Kp σ' σ'' ∧ elt (pre x ++ l) σ' = some (v, σ'') ∧ R x v σ'')
  (hR : ∀ x v h h', R x v h → (∀ i o, i ≠ σ.length → h[i]? = some o → h'[i]? = some o) → R x v h') (hl : xs.length < 1000000) :
  ∃ h' ys', pComp k g tg t elt l σ₀ = some (.ref σ.length, h') ∧ Kp σ h' ∧ h'[σ.length]? = some (.list ys') ∧ All2 (fun x v => R x v h') (xs.filter b) ys' := by
 obtain ⟨h', ys', e1, e2, e3, e4⟩ := cLoop_inv (F := FUEL) (q := List.replicate k .undef) (h := σ ++ [.list []]) (ys := []) its xs pre b R hf hpre hn he ht hw hR hl xs.length 0 (by exact Nat.zero_add _) (by unfold FUEL; exact zK hl (by decide)) ⟨by simp, by cases k with | zero => lia | succ k => rfl⟩ (.app _ _) (get_new _ _) trivial
 refine ⟨h', ys', ?_, e2, e3, e4⟩
 unfold pComp
 rw [hg]
 simp only [zB, e1, zM]
end QA
noncomputable section QB
open PySem
noncomputable def dS (ws : List Wo) : PyData := .list (ws.map fun w => .str ⟨w.toArray⟩)
noncomputable def WOk (w : Wo) : Prop := ∀ c ∈ w, c < 128
theorem mapO_str (k : Nat) (h : AH) : ∀ ws : List Wo, mapO (aPy k h) (aSs ws) = some (ws.map fun w => .str ⟨w.toArray⟩)
 | [] => rfl
 | w :: ws => by
  have := mapO_str k h ws
  unfold aSs at this
  simp only [aSs, List.map_cons, mapO]
  rw [this]
  rw [aPy_str]
  rfl
theorem aPy_list (k : Nat) {h : AH} {n : Nat} {ws : List Wo} (e : h[n]? = some (.list (aSs ws))) : aPy (k + 1) h (.ref n) = some (dS ws) := by
 rw [aPy_ref, e]
 show (mapO _ _).map _ = _
 rw [mapO_str]
 rfl
theorem canLay_all : ∀ ws : List Wo, (∀ w ∈ ws, WOk w) → PyData.canLayAll0 (ws.map fun w => PyData.str ⟨w.toArray⟩) = true
 | [], _ => rfl
 | w :: ws, h => by
  simp only [List.map_cons, PyData.canLayAll0, Bool.and_eq_true]
  refine ⟨?_, canLay_all ws fun x hx => h x (.tail _ hx)⟩
  have := h w (.head _)
  simp only [PyData.canLay0, PyData.strOk]
  rw [Array.all_eq_true]
  intro i hi
  have : w[i]'(by simpa using hi) < 128 := this _ (List.getElem_mem _)
  simp
  exact zK this (by decide)
theorem depth_all : ∀ ws : List Wo, PyData.depthAll (ws.map fun w => PyData.str ⟨w.toArray⟩) = 0
 | [] => rfl
 | w :: ws => by simp [PyData.depthAll, PyData.depth, depth_all ws]
theorem shaped_dS {ws : List Wo} (h : ∀ w ∈ ws, WOk w) : SeqAt.shaped (dS ws) = true := by
 simp only [SeqAt.shaped, dS, PyData.canLay0, canLay_all ws h, PyData.depth, depth_all, Bool.true_and]; decide
theorem eqv_dS {ws : List Wo} (h : ∀ w ∈ ws, WOk w) : PyData.eqv (dS ws) (dS ws) = true := SeqAt.eqv_refl _ (by simp only [dS, PyData.canLay0, canLay_all ws h])
theorem cEq_lists {h : AH} {a b : Nat} {ws : List Wo} (ha : h[a]? = some (.list (aSs ws))) (hb : h[b]? = some (.list (aSs ws))) (hw : ∀ w ∈ ws, WOk w) : aDeepEq h (.ref a) (.ref b) = some true := by
 unfold aDeepEq
 rw [aPy_list 3 ha, aPy_list 3 hb]
 simp only [zB, shaped_dS hw, Bool.and_self, if_true, eqv_dS hw]
theorem eqvAll_nil (w : Wo) (ws : List Wo) : PyData.eqvAll ((w :: ws).map fun w => PyData.str ⟨w.toArray⟩) [] = false := by simp [PyData.eqvAll]
theorem cNe_nil {h : AH} {a b : Nat} {ws : List Wo} (ha : h[a]? = some (.list (aSs ws))) (hb : h[b]? = some (.list [])) (hw : ∀ w ∈ ws, WOk w) : cNe (.ref a) (.ref b) h = some (!ws.isEmpty) := by
 have hb' : h[b]? = some (.list (aSs [])) := hb
 simp only [cNe_s, cNe_r, aDeepEq]
 rw [aPy_list 3 ha, aPy_list 3 hb']
 simp only [zB, shaped_dS hw, shaped_dS (ws := []) (fun _ h => by cases h), Bool.and_self, if_true, zM]
 cases ws with
 | nil => rw [eqv_dS (ws := []) (fun _ h => by cases h)]; rfl
 | cons w ws =>
  have : PyData.eqv (dS (w :: ws)) (dS []) = false := by
   simp only [dS, PyData.eqv, List.map_nil]
   exact eqvAll_nil w ws
  rw [this]; rfl
theorem cNe_same {h : AH} {a b : Nat} {ws : List Wo} (ha : h[a]? = some (.list (aSs ws))) (hb : h[b]? = some (.list (aSs ws))) (hw : ∀ w ∈ ws, WOk w) : cNe (.ref a) (.ref b) h = some false := by
 simp only [cNe_s, cNe_r, cEq_lists ha hb hw, zM, Bool.not_true]
theorem cNe_pairs {h : AH} {a b a1 a2 b1 b2 : Nat} {xs ys : List Wo} (ha : h[a]? = some (.tup [.ref a1, .ref a2])) (hb : h[b]? = some (.tup [.ref b1, .ref b2])) (h1 : h[a1]? = some (.list (aSs xs))) (h2 : h[a2]? = some (.list (aSs ys)))
  (h3 : h[b1]? = some (.list (aSs xs))) (h4 : h[b2]? = some (.list (aSs ys))) (hx : ∀ w ∈ xs, WOk w) (hy : ∀ w ∈ ys, WOk w) : cNe (.ref a) (.ref b) h = some false := by
 have e1 : aPy 4 h (.ref a) = some (.tuple [dS xs, dS ys]) := by
  rw [aPy_ref, ha]
  simp only [mapO]
  rw [aPy_list 2 h1, aPy_list 2 h2]; rfl
 have e2 : aPy 4 h (.ref b) = some (.tuple [dS xs, dS ys]) := by
  rw [aPy_ref, hb]
  simp only [mapO]
  rw [aPy_list 2 h3, aPy_list 2 h4]; rfl
 have c : PyData.canLay0 (.tuple [dS xs, dS ys]) = true := by
  simp only [PyData.canLay0, PyData.canLayAll0, dS, canLay_all xs hx, canLay_all ys hy, Bool.and_self]
 have sh : SeqAt.shaped (.tuple [dS xs, dS ys]) = true := by
  simp only [SeqAt.shaped, c, Bool.true_and]
  simp only [PyData.depth, PyData.depthAll, dS, depth_all]; decide
 simp only [cNe_s, cNe_r, aDeepEq, e1, e2, zB, sh, Bool.and_self, if_true, SeqAt.eqv_refl _ c, zM, Bool.not_true]
theorem comp_pick {g : PI} {t : PB} {l : List AV} {σ₀ σ : AH} (its : Nat → AIt) (ws : List Wo) (p : Wo → Bool) (hg : g l σ₀ = some (its 0, σ)) (hf : ∀ i, (its i).fits (.nm 1) = true)
  (hn : ∀ σ', Kp σ σ' → ∀ i w, ws[i]? = some w → aNext (its i) σ' = some (some (.str w), its (i + 1), σ')) (he : ∀ σ', Kp σ σ' → ∃ it', aNext (its ws.length) σ' = some (none, it', σ'))
  (ht : ∀ w ∈ ws, ∀ σ', Kp σ σ' → ∃ σ'', Kp σ' σ'' ∧ t (.undef :: .str w :: l) σ' = some (p w, σ'')) (hl : ws.length < 1000000) :
  ∃ σ', pComp 2 g (.nm 1) t (pVar 1) l σ₀ = some (.ref σ.length, σ') ∧ Kp σ σ' ∧ σ'[σ.length]? = some (.list (aSs (ws.filter p))) := by
 obtain ⟨h', ys, e1, e2, e3, e4⟩ := pComp_gen (k := 2) (elt := pVar 1) (l := l) its ws (fun w => [.undef, .str w]) p (fun w v _ => v = .str w) (by decide) hg hf (fun _ => ⟨rfl, rfl⟩)
  (fun σ' k i w e => ⟨.str w, σ', hn σ' k i w e, .refl _, fun q hq => by
   obtain ⟨h1, h2⟩ := hq
   obtain ⟨a, b, rfl⟩ := len2 h1; cases Option.some.inj h2; rfl⟩) he (fun w hw σ' k => ht w hw σ' k) (fun w hw hb σ' k _ => ⟨.str w, σ', .refl _, rfl, rfl⟩) (fun _ _ _ _ e _ => e) hl
 exact ⟨h', e1, e2, by rw [e3, All2.eq_map e4]; rfl⟩
theorem next_list {σ : AH} {n : Nat} {xs : List AV} (h : σ[n]? = some (.list xs)) (i : Nat) {v : AV} (e : xs[i]? = some v) : aNext (.one (.list n i)) σ = some (some v, .one (.list n (i + 1)), σ) := by
 simp only [aNext, sNext, h, e, zM]
theorem next_list_end {σ : AH} {n : Nat} {xs : List AV} (h : σ[n]? = some (.list xs)) : aNext (.one (.list n xs.length)) σ = some (none, .one (.list n xs.length), σ) := by
 simp only [aNext, sNext, h, List.getElem?_eq_none (Nat.le_refl _), zM]
theorem next_str (σ : AH) (t : List Nat) (i : Nat) {c : Nat} (e : t[i]? = some c) : aNext (.one (.str t i)) σ = some (some (.str [c]), .one (.str t (i + 1)), σ) := by
 simp only [aNext, sNext, e, zM]
theorem next_str_end (σ : AH) (t : List Nat) : aNext (.one (.str t t.length)) σ = some (none, .one (.str t t.length), σ) := by
 simp only [aNext, sNext, List.getElem?_eq_none (Nat.le_refl _), zM]
theorem comp_list {g : PI} {t : PB} {l : List AV} {σ₀ σ : AH} {n : Nat} {ws : List Wo} (p : Wo → Bool) (hσ : σ[n]? = some (.list (aSs ws))) (hg : g l σ₀ = some (.one (.list n 0), σ))
  (ht : ∀ w ∈ ws, ∀ σ', Kp σ σ' → ∃ σ'', Kp σ' σ'' ∧ t (.undef :: .str w :: l) σ' = some (p w, σ'')) (hl : ws.length < 1000000) :
  ∃ σ', pComp 2 g (.nm 1) t (pVar 1) l σ₀ = some (.ref σ.length, σ') ∧ Kp σ σ' ∧ σ'[σ.length]? = some (.list (aSs (ws.filter p))) :=
 comp_pick (fun i => .one (.list n i)) ws p hg (fun _ => rfl) (fun σ' k i w e => next_list (k _ _ hσ) i (by rw [aSs_get, e]; rfl))
  (fun σ' k => ⟨_, by have := next_list_end (k _ _ hσ); rwa [aSs_length] at this⟩) ht hl
theorem comp_str {g : PI} {t : PB} {l : List AV} {σ₀ σ : AH} {cs : List Nat} (p : Wo → Bool) (hg : g l σ₀ = some (.one (.str cs 0), σ))
  (ht : ∀ w ∈ cs.map (fun c => [c]), ∀ σ', Kp σ σ' → ∃ σ'', Kp σ' σ'' ∧ t (.undef :: .str w :: l) σ' = some (p w, σ'')) (hl : cs.length < 1000000) :
  ∃ σ', pComp 2 g (.nm 1) t (pVar 1) l σ₀ = some (.ref σ.length, σ') ∧ Kp σ σ' ∧ σ'[σ.length]? = some (.list (aSs ((cs.map fun c => [c]).filter p))) :=
 comp_pick (fun i => .one (.str cs i)) (cs.map fun c => [c]) p hg (fun _ => rfl) (fun σ' k i w e => by
   rw [List.getElem?_map] at e
   refine mapQ e fun c e1 e2 => ?_
   subst e2
   exact next_str σ' cs i e1)
  (fun σ' k => ⟨_, by have := next_str_end σ' cs; rw [List.length_map]; exact this⟩) ht (by simpa using hl)
end QB
noncomputable section QC
open PySem
theorem allStr_aSs : ∀ ws : List Wo, allStr (aSs ws) = some ws
 | [] => rfl
 | w :: ws => by
  have := allStr_aSs ws
  unfold aSs at this
  simp only [aSs, List.map_cons, allStr, this, zM]
theorem aSs_erase (ws : List Wo) (j : Nat) : (aSs ws).eraseIdx j = aSs (ws.eraseIdx j) := by simp [aSs, List.eraseIdx_eq_take_drop_succ]
noncomputable def uld : List Wo → List Wo → List Wo → List Wo × List Wo
 | [], ms, as => (ms, as)
 | e :: es, ms, as => match as.findIdx? (· == e) with
  | some j => uld es ms (as.eraseIdx j)
  | none => uld es (ms ++ [e]) as
noncomputable def ulT : PB := pTruth (pVar 1)
noncomputable def ulB : PS := (sSeq (sAsg 4 (pMeth .list mPop (pVar 1) [])) (sSeq (sTry 2 4 3) (sNil)))
theorem F_ul_eq : F_uldf = (sSeq (sAsg 3 (pList [])) (sSeq (sWhile ulT ulB) (sSeq (sRet (pTup [pVar 3, pVar 2])) (sNil)))) := rfl
theorem set_ne {σ : AH} {n i : Nat} (o : AObj) (h : i ≠ n) : (σ.set n o)[i]? = σ[i]? := List.getElem?_set_ne (Ne.symm h)
theorem ul_step {n m q : Nat} {e : Wo} {r ms as : List Wo} {v : AV} {σ : AH} (hn : σ[n]? = some (.list (aSs (r.reverse ++ [e])))) (hm : σ[m]? = some (.list (aSs as))) (hq : σ[q]? = some (.list (aSs ms))) (hnm : n ≠ m) (hnq : n ≠ q) (hmq : m ≠ q)
  (h1 : r.length < 1000) (h2 : as.length < 1000) (h3 : ms.length < 1000) :
  ulB [.undef, .ref n, .ref m, .ref q, v] σ = some (.nxt, [.undef, .ref n, .ref m, .ref q, .str e], match as.findIdx? (· == e) with
   | some j => (σ.set n (.list (aSs r.reverse))).set m (.list (aSs (as.eraseIdx j)))
   | none => (σ.set n (.list (aSs r.reverse))).set q (.list (aSs (ms ++ [e])))) := by
 have hl1 : (aSs (r.reverse ++ [e])).length ≤ 1000000 := by rw [aSs_length]; simp; exact Nat.le_of_lt (zK h1 (by decide))
 have hlast : (aSs (r.reverse ++ [e])).getLast? = some (.str e) := by rw [aSs_append]; exact List.getLast?_concat
 have hdrop : (aSs (r.reverse ++ [e])).dropLast = aSs r.reverse := by rw [aSs_append]; exact List.dropLast_concat
 have hm' : (σ.set n (.list (aSs r.reverse)))[m]? = some (.list (aSs as)) := by rw [set_ne _ (Ne.symm hnm)]; exact hm
 have hq' : (σ.set n (.list (aSs r.reverse)))[q]? = some (.list (aSs ms)) := by rw [set_ne _ (Ne.symm hnq)]; exact hq
 have hl2 : (aSs as).length ≤ 1000000 := by rw [aSs_length]; exact Nat.le_of_lt (zK h2 (by decide))
 have hl3 : (aSs ms).length ≤ 1000000 := by rw [aSs_length]; exact Nat.le_of_lt (zK h3 (by decide))
 have happ : aSs ms ++ [AV.str e] = aSs (ms ++ [e]) := by rw [aSs_append]; rfl
 generalize r.reverse ++ [e] = zs at hn hl1 hlast hdrop
 unfold ulB
 simp only [sSeq, sAsg, pMeth, SKind.ok, pArgs, pVar, zS, zZ, zB, zM, hn, if_true, mPop, hl1, hlast, hdrop, zU, zV, sTry, sTry3, hm', allStr_aSs, hl2]
 cases as.findIdx? (· == e) with
 | some j => simp only [zB, aSs_erase, sNil]
 | none => simp only [mAppend, hq', hl3, if_true, zM, zB, happ, sNil]
theorem ul_loop {n m q : Nat} (hnm : n ≠ m) (hnq : n ≠ q) (hmq : m ≠ q) : ∀ (r : List Wo) (F : Nat) (ms as : List Wo) (v : AV) (σ : AH), r.length < F → σ[n]? = some (.list (aSs r.reverse)) → σ[m]? = some (.list (aSs as)) → σ[q]? = some (.list (aSs ms)) →
  r.length + ms.length < 1000 → as.length < 1000 → ∃ v' σ', wLoop ulT ulB F [.undef, .ref n, .ref m, .ref q, v] σ = some (.nxt, [.undef, .ref n, .ref m, .ref q, v'], σ') ∧ σ'[m]? = some (.list (aSs (uld r ms as).2)) ∧
   σ'[q]? = some (.list (aSs (uld r ms as).1)) ∧ (∀ i, i ≠ n → i ≠ m → i ≠ q → σ'[i]? = σ[i]?) ∧ σ'.length = σ.length := by
 intro r
 induction r with
 | nil =>
  intro F ms as v σ hF hn hm hq h1 h2
  obtain ⟨F, rfl⟩ : ∃ F', F = F' + 1 := ⟨F - 1, by simp at hF; exact o65 hF⟩
  refine ⟨v, σ, ?_, hm, hq, fun _ _ _ _ => rfl, rfl⟩
  unfold wLoop
  have hn' : σ[n]? = some (.list []) := hn
  simp only [ulT, pTruth, pVar, zS, zZ, zB, aTruth, hn', List.length_nil, Nat.zero_le, if_true, zM, List.isEmpty_nil, Bool.not_true, Bool.false_eq_true, if_false]
 | cons e r ih =>
  intro F ms as v σ hF hn hm hq h1 h2
  obtain ⟨F, rfl⟩ : ∃ F', F = F' + 1 := ⟨F - 1, by simp at hF; exact o65 hF⟩
  rw [List.reverse_cons] at hn
  simp only [List.length_cons] at h1 hF
  have hst := ul_step (v := v) hn hm hq hnm hnq hmq (by exact o9 (o9 h1)) h2 (by exact o58 h1)
  have hT : ulT [.undef, .ref n, .ref m, .ref q, v] σ = some (true, σ) := by
   have hl : (aSs (r.reverse ++ [e])).length ≤ 1000000 := by rw [aSs_length]; simp; lia
   have hne : (aSs (r.reverse ++ [e])).isEmpty = false := by rw [aSs_append]; simp [aSs]
   simp only [ulT, pTruth, pVar, zS, zZ, zB, aTruth, hn, hl, if_true, zM, hne, Bool.not_false]
  unfold wLoop
  rw [hT]
  simp only [zB, if_true, hst]
  unfold uld
  cases hj : as.findIdx? (· == e) with
  | some j =>
   dsimp only
   have hel : (as.eraseIdx j).length < 1000 := zF (List.length_eraseIdx_le ..) h2
   obtain ⟨v', σ', e1, e2, e3, e4, e5⟩ := ih F ms (as.eraseIdx j) (.str e) ((σ.set n (.list (aSs r.reverse))).set m (.list (aSs (as.eraseIdx j)))) (by exact Nat.lt_of_succ_lt_succ hF)
    (by rw [set_ne _ hnm]; exact set_get hn) (set_get (by rw [set_ne _ (Ne.symm hnm)]; exact hm)) (by rw [set_ne _ (Ne.symm hmq), set_ne _ (Ne.symm hnq)]; exact hq) (by lia) hel
   exact ⟨v', σ', e1, e2, e3, fun i a b c => by rw [e4 i a b c, set_ne _ b, set_ne _ a], by rw [e5]; simp⟩
  | none =>
   dsimp only
   obtain ⟨v', σ', e1, e2, e3, e4, e5⟩ := ih F (ms ++ [e]) as (.str e) ((σ.set n (.list (aSs r.reverse))).set q (.list (aSs (ms ++ [e])))) (by exact Nat.lt_of_succ_lt_succ hF)
    (by rw [set_ne _ hnq]; exact set_get hn) (by rw [set_ne _ hmq, set_ne _ (Ne.symm hnm)]; exact hm) (set_get (by rw [set_ne _ (Ne.symm hnq)]; exact hq)) (by simp; lia) h2
   exact ⟨v', σ', e1, e2, e3, fun i a b c => by rw [e4 i a b c, set_ne _ c, set_ne _ a], by rw [e5]; simp⟩
theorem uld_spec {n m : Nat} {es as : List Wo} {σ : AH} (hn : σ[n]? = some (.list (aSs es))) (hm : σ[m]? = some (.list (aSs as))) (hnm : n ≠ m) (h1 : es.length < 900) (h2 : as.length < 900) :
  ∃ r q σ', P_uldf [.ref n, .ref m] σ = some (.ref r, σ') ∧ σ.length ≤ r ∧ σ.length ≤ q ∧ r ≠ q ∧ σ'[r]? = some (.tup [.ref q, .ref m]) ∧ σ'[q]? = some (.list (aSs (uld es.reverse [] as).1)) ∧ σ'[m]? = some (.list (aSs (uld es.reverse [] as).2)) ∧
   (∀ i o, i ≠ n → i ≠ m → σ[i]? = some o → σ'[i]? = some o) ∧ σ.length < σ'.length := by
 have hnl := (zC hn).1
 have hml := (zC hm).1
 have hk := Kp.app σ [.list []]
 obtain ⟨v', σ', e1, e2, e3, e4, e5⟩ := ul_loop (n := n) (m := m) (q := σ.length) hnm (by exact Nat.ne_of_lt hnl) (by exact Nat.ne_of_lt hml) es.reverse FUEL [] as .undef (σ ++ [.list []]) (by rw [List.length_reverse]; unfold FUEL; exact zK h1 (by decide)) (by rw [List.reverse_reverse]; exact hk _ _ hn) (hk _ _ hm) (get_new _ _) (by simp; exact zK h1 (by decide)) (by exact zK h2 (by decide))
 have hk2 := Kp.app σ' [.tup [.ref σ.length, .ref m]]
 have e5' : σ'.length = σ.length + 1 := by rw [e5]; simp
 refine ⟨σ'.length, σ.length, σ' ++ [.tup [.ref σ.length, .ref m]], ?_, by exact o70 e5', Nat.le_refl _, by exact Nat.ne_of_gt (o71 e5'), get_new _ _, hk2 _ _ e3, hk2 _ _ e2, fun i o a b e => hk2 _ _ ?_, by simp; exact Nat.lt_succ_of_le (o70 e5')⟩
 ·unfold P_uldf bodyF
  rw [F_ul_eq]
  simp only [List.length_cons, List.length_nil, if_true, List.replicate, List.cons_append, List.nil_append, sSeq, sAsg, pList, pArgs, zB, zM, zU, zV, sWhile, e1, sRet, pTup, pVar, zS, zZ, sNil]
 ·have hi := (zC e).1
  rw [e4 i a b (by exact Nat.ne_of_lt hi)]
  exact hk _ _ e
theorem erase_filter {e : Wo} : ∀ {as : List Wo} {j : Nat}, as.Nodup → as[j]? = some e → as.eraseIdx j = as.filter (fun a => !decide (a = e))
 | [], _, _, h => by simp at h
 | a :: as, 0, hn, h => by
  simp only [zZ, Option.some.injEq] at h
  subst h
  have := (List.nodup_cons.mp hn).1
  simp only [List.eraseIdx_cons_zero, List.filter_cons, decide_true, Bool.not_true, Bool.false_eq_true, if_false]
  exact (List.filter_eq_self.mpr fun x hx => by
   have : x ≠ a := fun q => this (q ▸ hx)
   simp [this]).symm
 | a :: as, j + 1, hn, h => by
  rw [zS] at h
  have hne : a ≠ e := fun q => (List.nodup_cons.mp hn).1 (q ▸ zI h)
  simp only [List.eraseIdx_cons_succ, List.filter_cons, hne, decide_false, Bool.not_false, if_true]
  rw [erase_filter (List.nodup_cons.mp hn).2 h]
theorem uld_eq : ∀ (es ms as : List Wo), es.Nodup → as.Nodup → uld es ms as = (ms ++ es.filter (fun e => !decide (e ∈ as)), as.filter fun a => !decide (a ∈ es))
 | [], ms, as, _, _ => by
  simp only [uld, List.filter_nil, List.append_nil, List.not_mem_nil, decide_false, Bool.not_false, Prod.mk.injEq, true_and]
  exact (List.filter_eq_self.mpr fun _ _ => rfl).symm
 | e :: es, ms, as, h1, h2 => by
  obtain ⟨h1a, h1b⟩ := List.nodup_cons.mp h1
  unfold uld
  cases hj : as.findIdx? (· == e) with
  | none =>
   have hne : e ∉ as := fun hm => by
    rw [List.findIdx?_eq_none_iff] at hj
    have := hj e hm
    simp at this
   dsimp only
   rw [uld_eq es _ as h1b h2]
   simp only [List.filter_cons, hne, decide_false, Bool.not_false, if_true, List.append_assoc, List.cons_append, List.nil_append, Prod.mk.injEq, true_and]
   apply List.filter_congr
   intro a ha
   have : a ≠ e := fun q => hne (q ▸ ha)
   simp [this]
  | some j =>
   dsimp only
   refine xEA (List.findIdx?_eq_some_iff_getElem.mp hj) fun hjl hje hjn => ?_
   have hje : as[j] = e := by simpa using hje
   have hmem : e ∈ as := hje ▸ List.getElem_mem hjl
   have her : as.eraseIdx j = as.filter (fun a => !decide (a = e)) := erase_filter h2 (by rw [zH hjl, hje])
   rw [uld_eq es ms _ h1b (her ▸ h2.filter _)]
   rw [her]
   simp only [List.filter_cons, hmem, decide_true, Bool.not_true, Bool.false_eq_true, if_false, List.filter_filter, Prod.mk.injEq]
   refine ⟨?_, ?_⟩
   ·congr 1
    apply List.filter_congr
    intro a ha
    have : a ≠ e := fun q => h1a (q ▸ ha)
    simp [this]
   ·apply List.filter_congr
    intro a ha
    by_cases q : a = e <;> simp [q]
end QC
noncomputable section QD
open PySem
theorem seq_asg {i : Nat} {f : PE} {g : PS} {l : List AV} {h h' : AH} {v : AV} (e : f l h = some (v, h')) : sSeq (sAsg i f) g l h = g (l.set i v) h' := by simp only [sSeq, sAsg, e, zM, zB]
theorem seq_expr {f : PE} {g : PS} {l : List AV} {h h' : AH} (e : f l h = some (.none, h')) : sSeq (sExpr f) g l h = g l h' := by simp only [sSeq, sExpr, e, zB]
theorem seq_ret {f : PE} {g : PS} {l : List AV} {h h' : AH} {v : AV} (e : f l h = some (v, h')) : sSeq (sRet f) g l h = some (.ret v, l, h') := by simp only [sSeq, sRet, e, zM, zB]
theorem seq_nxt {f g : PS} {l l' : List AV} {h h' : AH} (e : f l h = some (.nxt, l', h')) : sSeq f g l h = g l' h' := by simp only [sSeq, e, zB]
theorem seq_ift {t : PB} {a b g : PS} {l : List AV} {h h' : AH} (e : t l h = some (true, h')) : sSeq (sIf t a b) g l h = sSeq a g l h' := by simp only [sSeq, sIf, e, zB, if_true]
theorem seq_iff {t : PB} {a b g : PS} {l : List AV} {h h' : AH} (e : t l h = some (false, h')) : sSeq (sIf t a b) g l h = sSeq b g l h' := by simp only [sSeq, sIf, e, zB, Bool.false_eq_true, if_false]
theorem seq_nil {g : PS} {l : List AV} {h : AH} : sSeq sNil g l h = g l h := rfl
theorem seq_seq {f g k : PS} {l l' : List AV} {h h' : AH} {o : AF} (e : sSeq f g l h = some (.nxt, l', h')) : sSeq (sSeq f g) k l h = k l' h' := seq_nxt e
noncomputable def ltA : Wo → Wo → Prop
 | a :: w, b :: w' => a < b ∨ (a = b ∧ ltA w w')
 | _, _ => False
theorem ltA_lt : ∀ {w w' : Wo}, ltA w w' → w < w'
 | a :: w, b :: w', h => by
  rcases h with h | ⟨rfl, h⟩
  ·exact List.Lex.rel h
  ·exact List.Lex.cons (ltA_lt h)
theorem ltA_app_l : ∀ {w w' : Wo} (x : Wo), ltA w w' → ltA (w ++ x) w'
 | _ :: _, _ :: _, x, h => h.imp id fun ⟨e, h⟩ => ⟨e, ltA_app_l x h⟩
theorem ltA_app_r : ∀ {w w' : Wo} (x : Wo), ltA w w' → ltA w (w' ++ x)
 | _ :: _, _ :: _, x, h => h.imp id fun ⟨e, h⟩ => ⟨e, ltA_app_r x h⟩
theorem ltA_same : ∀ (w : Wo) {c d : Nat}, c < d → ltA (w ++ [c]) (w ++ [d])
 | [], _, _, h => .inl h
 | a :: w, _, _, h => .inr ⟨rfl, ltA_same w h⟩
noncomputable def left (ts : List (List Nat)) (w : Wo) : List Nat := (ts.getD w.length []).filter fun c => !decide (c ∈ w)
noncomputable def ext (ts : List (List Nat)) : Nat → Wo → List Wo
 | 0, w => [w]
 | k + 1, w => (left ts w).flatMap fun c => ext ts k (w ++ [c])
noncomputable def nodes (ts : List (List Nat)) : Nat → Wo → Nat
 | 0, _ => 1
 | k + 1, w => 1 + ((left ts w).map fun c => nodes ts k (w ++ [c])).sum
theorem sum_le {α : Type} {f : α → Nat} {b : Nat} : ∀ {l : List α}, (∀ x ∈ l, f x ≤ b) → (l.map f).sum ≤ l.length * b
 | [], _ => by simp
 | x :: l, h => by
  have := sum_le (l := l) fun y hy => h y (.tail _ hy)
  have := h x (.head _)
  simp only [List.map_cons, List.sum_cons, List.length_cons, Nat.add_mul, Nat.one_mul]
  lia
theorem nodes_le {ts : List (List Nat)} (ht : ∀ t ∈ ts, t.length ≤ 4) : ∀ (k : Nat) (w : Wo), nodes ts k w ≤ 5 ^ k
 | 0, _ => Nat.le_refl _
 | k + 1, w => by
  unfold nodes
  have h1 : (left ts w).length ≤ 4 := by
   refine zG (List.length_filter_le ..) ?_
   rw [zJ]
   cases q : ts[w.length]? with
   | none => simp
   | some t => exact ht t (zI q)
  have h2 := sum_le (f := fun c => nodes ts k (w ++ [c])) (b := 5 ^ k) (l := left ts w) fun c _ => nodes_le ht k _
  have h3 : (left ts w).length * 5 ^ k ≤ 4 * 5 ^ k := Nat.mul_le_mul_right _ h1
  have h4 : 0 < 5 ^ k := Nat.pow_pos (by decide)
  rw [Nat.pow_succ]
  lia
theorem nodes_pos {ts : List (List Nat)} : ∀ (k : Nat) (w : Wo), 0 < nodes ts k w
 | 0, _ => Nat.one_pos
 | k + 1, w => by unfold nodes; exact o9 (Nat.add_lt_add_right (by decide) _)
structure Turn (ts : List (List Nat)) (i : Nat) (v L os : List Wo) : Prop where
 heap : IsHeap v
 perm : v.Perm L
 ac : L.Pairwise ltA
 ok : ∀ w ∈ L, w.length ≤ 4 ∧ w.Nodup ∧ WOk w
 sum : (L.map fun w => nodes ts (4 - w.length) w).sum = i
 told : os ++ L.flatMap (fun w => ext ts (4 - w.length) w) = ext ts 4 []
theorem len_le_sum {ts : List (List Nat)} : ∀ L : List Wo, L.length ≤ (L.map fun w => nodes ts (4 - w.length) w).sum
 | [] => Nat.le_refl _
 | w :: L => by
  have := len_le_sum (ts := ts) L
  have := nodes_pos (ts := ts) (4 - w.length) w
  simp only [List.length_cons, List.map_cons, List.sum_cons]
  lia
theorem Turn.head {ts : List (List Nat)} {i : Nat} {v L os : List Wo} (T : Turn ts i v L os) {y : Wo} {v' : List Wo} (hp : v.Perm (y :: v')) (hm : ∀ w ∈ v, y ≤ w) : ∃ L', L = y :: L' ∧ v'.Perm L' := by
 cases L with
 | nil => exact absurd (hp.symm.trans T.perm) (by intro q; have := q.length_eq; simp at this)
 | cons w L' =>
  have hy : y ∈ w :: L' := (T.perm.mem_iff).mp (hp.mem_iff.mpr (.head _))
  have hw : y ≤ w := hm w (T.perm.mem_iff.mpr (.head _))
  have e : y = w := by
   rcases zN hy with e | h
   ·exact e
   ·exact absurd (ltA_lt ((List.pairwise_cons.mp T.ac).1 y h)) (List.not_lt.mpr hw)
  subst e
  exact ⟨L', rfl, List.Perm.cons_inv (hp.symm.trans T.perm)⟩
theorem Turn.full {ts : List (List Nat)} {i : Nat} {v v' L' os : List Wo} {y : Wo} (T : Turn ts (i + 1) v (y :: L') os) (hv : IsHeap v') (hp : v'.Perm L') (hy : y.length = 4) : Turn ts i v' L' (os ++ [y]) where
 heap := hv
 perm := hp
 ac := (List.pairwise_cons.mp T.ac).2
 ok := fun w hw => T.ok w (.tail _ hw)
 sum := by
  have := T.sum
  simp only [List.map_cons, List.sum_cons, hy, Nat.sub_self, nodes] at this
  lia
 told := by
  have := T.told
  simp only [List.flatMap_cons, hy, Nat.sub_self, ext] at this
  rw [List.append_assoc]
  exact this
theorem Turn.more {ts : List (List Nat)} {i : Nat} {v v' L' os : List Wo} {y : Wo} (hts : ∀ t ∈ ts, t.Pairwise (· < ·) ∧ WOk t) (T : Turn ts (i + 1) v (y :: L') os) (hv : IsHeap v') (hp : v'.Perm (L' ++ (left ts y).map fun c => y ++ [c])) (hy : y.length < 4) :
  Turn ts i v' ((left ts y).map (fun c => y ++ [c]) ++ L') os := by
 have hl : ∀ c ∈ left ts y, c < 128 ∧ c ∉ y := by
  intro c hc
  obtain ⟨h1, h2⟩ := List.mem_filter.mp hc
  refine ⟨?_, by simpa using h2⟩
  rw [zJ] at h1
  cases q : ts[y.length]? with
  | none => rw [q] at h1; simp at h1
  | some t => rw [q] at h1; exact (hts t (zI q)).2 c h1
 have hs : (left ts y).Pairwise (· < ·) := by
  unfold left
  refine List.Pairwise.filter _ ?_
  rw [zJ]
  cases q : ts[y.length]? with
  | none => simp
  | some t => exact (hts t (zI q)).1
 obtain ⟨k, hk⟩ : ∃ k, 4 - y.length = k + 1 := ⟨4 - y.length - 1, by exact o65 (Nat.sub_pos_of_lt hy)⟩
 have hk' : ∀ c : Nat, 4 - (y ++ [c]).length = k := fun c => by simp; omega
 obtain ⟨ha, hb⟩ := List.pairwise_cons.mp T.ac
 refine ⟨hv, hp.trans List.perm_append_comm, ?_, ?_, ?_, ?_⟩
 ·rw [List.pairwise_append]
  refine ⟨?_, hb, ?_⟩
  ·rw [List.pairwise_map]
   exact hs.imp fun h => ltA_same y h
  ·intro a ha' b hb'
   refine xEA (List.mem_map.mp ha') fun c _ hrf => ?_; subst hrf
   exact ltA_app_l _ (ha b hb')
 ·intro w hw
  rcases List.mem_append.mp hw with h | h
  ·refine xEA (List.mem_map.mp h) fun c hc hrf => ?_; subst hrf
   obtain ⟨o1, o2, o3⟩ := T.ok y (.head _)
   obtain ⟨c1, c2⟩ := hl c hc
   refine ⟨by simp; exact Nat.le_of_lt_succ hy, ?_, ?_⟩
   ·rw [List.nodup_append]
    exact ⟨o2, by simp, fun a ha b hb e => by rw [zL hb] at e; exact c2 (e ▸ ha)⟩
   ·intro x hx
    rcases List.mem_append.mp hx with h | h
    ·exact o3 x h
    ·rw [zL h]; exact c1
  ·exact T.ok w (.tail _ h)
 ·have := T.sum
  simp only [List.map_cons, List.sum_cons, hk, nodes] at this
  simp only [List.map_append, List.sum_append, List.map_map, Function.comp_def, hk']
  lia
 ·have := T.told
  simp only [List.flatMap_cons, hk, ext] at this
  simp only [List.flatMap_append, List.flatMap_map, hk']
  exact this
theorem Turn.start (ts : List (List Nat)) : Turn ts (nodes ts 4 []) [[]] [[]] [] where
 heap := fun i h1 h2 => by simp at h2; lia
 perm := .refl _
 ac := by simp
 ok := fun w hw => by rw [zL hw]; exact ⟨by simp, by simp, fun c hc => by cases hc⟩
 sum := by simp
 told := by simp
theorem Turn.done {ts : List (List Nat)} {v L os : List Wo} (T : Turn ts 0 v L os) : v = [] ∧ os = ext ts 4 [] := by
 have h1 := len_le_sum (ts := ts) L
 rw [T.sum] at h1
 have hL : L = [] := List.length_eq_zero_iff.mp (by exact Nat.eq_zero_of_le_zero h1)
 subst hL
 exact ⟨List.Perm.eq_nil T.perm, by have := T.told; simpa using this⟩
theorem Turn.some {ts : List (List Nat)} {i : Nat} {v L os : List Wo} (T : Turn ts (i + 1) v L os) : v ≠ [] := by
 intro e
 subst e
 have hL := List.Perm.eq_nil T.perm.symm
 subst hL
 have := T.sum
 simp at this
end QD
noncomputable section QE
open PySem
noncomputable def oOne (c : Nat) : Wo := [c]
noncomputable def ones (t : List Nat) : List Wo := t.map oOne
theorem mem_ones {t : List Nat} {c : Nat} : oOne c ∈ ones t ↔ c ∈ t := by simp [ones, oOne]
theorem ones_filter (t : List Nat) (p : Wo → Bool) : (ones t).filter p = ones (t.filter fun c => p (oOne c)) := by simp [ones, List.filter_map, Function.comp_def]
theorem ones_ok {t : List Nat} (h : WOk t) : ∀ w ∈ ones t, WOk w := fun w hw => by
 refine xEA (List.mem_map.mp hw) fun c hc hrf => ?_; subst hrf
 intro d hd
 rw [zL hd]; exact h c hc
noncomputable def orB : PS := (sSeq (sExpr (pCall (P_heappush) [pVar 2, (pBin oAdd (pVar 4) (pVar 9))])) (sNil))
noncomputable def orElse : PS := (sSeq (sAsg 5 (pBin aItem (pVar 1) (pCall fLen [pVar 4]))) (sSeq (sAsg 6 (pCall (P_uldf) [(pCall fList [pVar 4]), (pSlice (pVar 5) none none)])) (sSeq (sAsg 7 (pComp 2 (iOf (pRev (pVar 4))) (.nm 1) (pCmpB cNotIn (pVar 1) (pVar 7)) (pVar 1))) (sSeq (sAsg 8 (pComp 2 (iOf (pVar 5)) (.nm 1) (pCmpB cNotIn (pVar 1) (pVar 6)) (pVar 1))) (sSeq (sIf (pCmpB cNe (pVar 6) (pTup [pVar 7, pVar 8])) (sSeq (sRet (pList [(pConst (.str []))])) (sNil)) (sNil)) (sSeq (sFor (iOf (pVar 8)) (.nm 9) orB) (sNil)))))))
noncomputable def orBody : PS := (sSeq (sAsg 4 (pCall (P_heappop) [pVar 2])) (sSeq (sIf (pCmpB cEq (pCall fLen [pVar 4]) (pCall fLen [pVar 1])) (sSeq (sExpr (pMeth .list mAppend (pVar 3) [pVar 4])) (sNil)) orElse) (sNil)))
theorem F_or_eq : F_ulor = (sSeq (sSwap [2, 3] (pTup [(pList []), (pList [])])) (sSeq (sExpr (pCall (P_heappush) [pVar 2, (pConst (.str []))])) (sSeq (sWhile (pTruth (pVar 2)) orBody) (sSeq (sRet (pVar 3)) (sNil))))) := rfl
theorem push_loop {H : Nat} {y : Wo} {l0 l1 l3 l5 l6 l7 l8 : AV} {n : Nat} {cs : List Nat} : ∀ (d i F : Nat) (u : List Wo) (v9 : AV) (σ : AH), i + d = cs.length → d < F → σ[n]? = some (.list (aSs (ones cs))) → σ[H]? = some (.list (aSs u)) → n ≠ H → IsHeap u → u.length + d < 800000 → y.length < 1000 →
  ∃ v9' σ' u', fLoop (.nm 9) orB F (.one (.list n i)) [l0, l1, .ref H, l3, .str y, l5, l6, l7, l8, v9] σ = some (.nxt, [l0, l1, .ref H, l3, .str y, l5, l6, l7, l8, v9'], σ') ∧ σ'[H]? = some (.list (aSs u')) ∧ IsHeap u' ∧ u'.Perm (u ++ (cs.drop i).map fun c => y ++ [c]) ∧ (∀ j, j ≠ H → σ'[j]? = σ[j]?) := by
 intro d
 induction d with
 | zero =>
  intro i F u v9 σ hi hF hn hH hne hu hlen hy
  obtain ⟨F, rfl⟩ : ∃ F', F = F' + 1 := ⟨F - 1, by exact o65 hF⟩
  have hil : i = (aSs (ones cs)).length := by rw [aSs_length, ones, List.length_map]; omega
  refine ⟨v9, σ, u, ?_, hH, hu, ?_, fun _ _ => rfl⟩
  ·unfold fLoop
   rw [hil, next_list_end hn]; rfl
  ·rw [List.drop_eq_nil_of_le (by exact o53 (Nat.le_refl _) (Eq.symm hi))]; simp
 | succ d ih =>
  intro i F u v9 σ hi hF hn hH hne hu hlen hy
  obtain ⟨F, rfl⟩ : ∃ F', F = F' + 1 := ⟨F - 1, by exact o65 hF⟩
  have hil : i < cs.length := by exact o20 hi
  have hc : (aSs (ones cs))[i]? = some (.str [cs[i]]) := by
   rw [aSs_get, ones, List.getElem?_map, zH hil]; rfl
  have hd : cs.drop i = cs[i] :: cs.drop (i + 1) := List.drop_eq_getElem_cons hil
  generalize cs[i] = c at hc hd
  have hb : orB [l0, l1, .ref H, l3, .str y, l5, l6, l7, l8, .str [c]] σ = some (.nxt, [l0, l1, .ref H, l3, .str y, l5, l6, l7, l8, .str [c]], σ.set H (.list (aSs (push u (y ++ [c]))))) := by
   have hp := heappush_spec (x := y ++ [c]) hH (by exact o9 (zK hlen (by decide)))
   have hle : y.length + [c].length ≤ 1000000 := by simp; exact Nat.le_of_lt (zK hy (by decide))
   unfold orB
   simp only [sSeq, sExpr, pCall, pArgs, pVar, pBin, zS, zZ, zB, oAdd_i, oAdd_s, hle, if_true, hp, sNil]
  obtain ⟨ph, pp⟩ := push_heap (x := y ++ [c]) hu
  obtain ⟨v9', σ', u', e1, e2, e3, e4, e5⟩ := ih (i + 1) F (push u (y ++ [c])) (.str [c]) (σ.set H (.list (aSs (push u (y ++ [c]))))) (by exact o8 hi) (by exact Nat.lt_of_succ_lt_succ hF)
   (by rw [set_ne _ hne]; exact hn) (set_get hH) hne ph (by rw [pp.length_eq]; simp; lia) hy
  refine ⟨v9', σ', u', ?_, e2, e3, ?_, fun j hj => by rw [e5 j hj, set_ne _ hj]⟩
  ·unfold fLoop
   rw [next_list hn i hc]
   simp only [AIt.fits, if_true, zB, aBind, zU, zV, hb]
   exact e1
  ·rw [hd, List.map_cons]
   refine e4.trans ?_
   refine (pp.append_right _).trans ?_
   simp
end QE
noncomputable section QF
open PySem
set_option maxHeartbeats 1000000
noncomputable def Lists (h : AH) (refs : List AV) (wss : List (List Wo)) : Prop := All2 (fun ws v => ∃ n, v = .ref n ∧ h[n]? = some (.list (aSs ws))) wss refs
theorem Lists.mono {h h' : AH} (k : Kp h h') {refs : List AV} {wss : List (List Wo)} (x : Lists h refs wss) : Lists h' refs wss := x.imp fun _ _ ⟨n, a, b⟩ => ⟨n, a, k _ _ b⟩
theorem in_list {h : AH} {n : Nat} {ws : List Wo} (w : Wo) (e : h[n]? = some (.list (aSs ws))) : cIn (.str w) (.ref n) h = some (ws.any (· == w)) := by
 show inRef w n h = _
 unfold inRef
 rw [e]
 show (allStr (aSs ws)).map _ = _
 rw [allStr_aSs]
 rfl
theorem notIn_list {h : AH} {n : Nat} {ws : List Wo} (w : Wo) (e : h[n]? = some (.list (aSs ws))) : cNotIn (.str w) (.ref n) h = some (!decide (w ∈ ws)) := by
 have := in_list w e
 simp only [cNotIn, this, zM]
 congr 2
 rw [Bool.eq_iff_iff]
 simp
theorem notIn_str (h : AH) (c : Nat) (t : List Nat) : cNotIn (.str [c]) (.str t) h = some (!decide (c ∈ t)) := by
 rfl
theorem all_lt {t : List Nat} (h : WOk t) : t.all (fun c => decide (c < 128)) = true := by
 rw [List.all_eq_true]; intro x hx; exact decide_eq_true (h x hx)
theorem or_else {ts : List (List Nat)} {T H O : Nat} {refs : List AV} {σ₀ h : AH} {v' : List Wo} {y : Wo} {a5 a6 a7 a8 a9 : AV} (hk : Kp σ₀ h) (hT : σ₀[T]? = some (.list refs)) (hL : Lists σ₀ refs (ts.map ones)) (hts : ∀ t ∈ ts, t.Pairwise (· < ·) ∧ WOk t ∧ t.length ≤ 4)
  (hl4 : ts.length = 4) (hH : h[H]? = some (.list (aSs v'))) (hH0 : σ₀.length ≤ H) (hv : IsHeap v') (hvl : v'.length < 700000) (hy : y.length < 4) (hyn : y.Nodup) (hyo : WOk y) :
  ∃ b5 b6 b7 b8 b9 h' u', sSeq orElse sNil [.undef, .ref T, .ref H, .ref O, .str y, a5, a6, a7, a8, a9] h = some (.nxt, [.undef, .ref T, .ref H, .ref O, .str y, b5, b6, b7, b8, b9], h') ∧ h'[H]? = some (.list (aSs u')) ∧ IsHeap u' ∧ u'.Perm (v' ++ (left ts y).map fun c => y ++ [c]) ∧
   Kp σ₀ h' ∧ (∀ j, j ≠ H → ∀ o, h[j]? = some o → h'[j]? = some o) := by
 have hyl : y.length < ts.length := by exact o52 hy (Eq.symm hl4)
 have htm : ts[y.length] ∈ ts := List.getElem_mem hyl
 have hleft : left ts y = (ts[y.length]).filter fun c => !decide (c ∈ y) := by
  unfold left; rw [zJ, zH hyl]; rfl
 have hte : (ts.map ones)[y.length]? = some (ones ts[y.length]) := by rw [List.getElem?_map, zH hyl]; rfl
 generalize ts[y.length] = t at htm hleft hte
 obtain ⟨ht1, ht2, ht3⟩ := hts t htm
 have htn : t.Nodup := ht1.imp fun h => Nat.ne_of_lt h
 obtain ⟨rv, hrv, n, rfl, hn0⟩ := hL.get hte
 have hn := hk _ _ hn0
 have hnlt := (zC hn0).1
 have hHlt := (zC hH).1
 have hlen0 := hk.len
 have s5 : pBin aItem (pVar 1) (pCall fLen [pVar 4]) [.undef, .ref T, .ref H, .ref O, .str y, a5, a6, a7, a8, a9] h = some (.ref n, h) := by
  have hle : y.length ≤ 1000000 := by exact Nat.le_of_lt (zK hy (by decide))
  have hi := aItem_nat (v := .ref n) (i := y.length) (hk _ _ hT) hrv (by simp) (by exact zK hy (by decide))
  simp only [pBin, pVar, pCall, pArgs, zS, zZ, zB, fLen, hle, if_true, hi]
 have kA := Kp.app h [AObj.list (aSs (ones y))]
 have kB := Kp.app (h ++ [AObj.list (aSs (ones y))]) [AObj.list (aSs (ones t))]
 have hnA := kA _ _ hn
 obtain ⟨r, q, h3, u1, u2, u3, u4, u5, u6, u7, u8, u9⟩ := uld_spec (n := h.length) (m := (h ++ [AObj.list (aSs (ones y))]).length) (es := ones y) (as := ones t) (σ := h ++ [AObj.list (aSs (ones y))] ++ [AObj.list (aSs (ones t))])
  (kB _ _ (get_new _ _)) (get_new _ _) (by simp) (by simp [ones]; exact zK hy (by decide)) (by simp [ones]; exact zF ht3 (by decide))
 have k3 : Kp h h3 := fun i o e => by
  have hi := (zC e).1
  exact u8 i o (by exact Nat.ne_of_lt hi) (by simp; exact Nat.ne_of_lt (Nat.lt_succ_of_lt hi)) (kB _ _ (kA _ _ e))
 have hrev : (ones y).reverse = ones y.reverse := by simp [ones]
 have hnd1 : (ones y.reverse).Nodup := by
  unfold ones
  rw [List.nodup_iff_pairwise_ne, List.pairwise_map]
  refine List.Pairwise.imp ?_ (List.pairwise_reverse.mpr ((List.nodup_iff_pairwise_ne.mp hyn).imp fun h => Ne.symm h))
  intro a b hab e
  injection e with e
  exact hab e
 have hnd2 : (ones t).Nodup := by
  unfold ones
  rw [List.nodup_iff_pairwise_ne, List.pairwise_map]
  refine List.Pairwise.imp ?_ (List.nodup_iff_pairwise_ne.mp htn)
  intro a b hab e
  injection e with e
  exact hab e
 rw [hrev, uld_eq _ _ _ hnd1 hnd2] at u6 u7
 simp only [List.nil_append] at u6 u7
 have s6 : pCall P_uldf [pCall fList [pVar 4], pSlice (pVar 5) none none] [.undef, .ref T, .ref H, .ref O, .str y, .ref n, a6, a7, a8, a9] h = some (.ref r, h3) := by
  have hle : y.length ≤ 1000000 := by exact Nat.le_of_lt (zK hy (by decide))
  have hle2 : (aSs (ones t)).length ≤ 1000000 := by rw [aSs_length]; simp [ones]; exact zG ht3 (by decide)
  have e1 : (List.map (fun c => AV.str [c]) y) = aSs (ones y) := by simp [aSs, ones, oOne]
  have e2 : aSl (aSs (ones t)) none none = aSs (ones t) := by simp [aSl]
  simp only [pCall, pArgs, pVar, zS, zZ, zB, fList, hle, if_true, e1, pSlice, pPart, aSlice, hnA, hle2, e2, u1]
 obtain ⟨h4, m1, m2, m3⟩ := comp_str (g := iOf (pRev (pVar 4))) (t := pCmpB cNotIn (pVar 1) (pVar 7)) (l := [.undef, .ref T, .ref H, .ref O, .str y, .ref n, .ref r, a7, a8, a9]) (σ₀ := h3) (σ := h3) (cs := y.reverse) (fun x => !decide (x ∈ ones t))
  (by
   have hle : y.length ≤ 1000000 := by exact Nat.le_of_lt (zK hy (by decide))
   have hall : (y.reverse.all fun c => decide (c < 128)) = true := by rw [List.all_reverse]; exact all_lt hyo
   simp only [iOf, pRev, pVar, zS, zZ, zB, aRev, hle, if_true, aIter, hall, zM])
  (fun w hw σ' k => ⟨σ', .refl _, by
   simp only [pCmpB, pVar, zS, zZ, zB, notIn_list w (k _ _ (k3 _ _ hn)), zM]⟩) (by rw [List.length_reverse]; exact zK hy (by decide))
 obtain ⟨h5, p1, p2, p3⟩ := comp_list (g := iOf (pVar 5)) (t := pCmpB cNotIn (pVar 1) (pVar 6)) (l := [.undef, .ref T, .ref H, .ref O, .str y, .ref n, .ref r, .ref h3.length, a8, a9]) (σ₀ := h4) (σ := h4) (n := n) (ws := ones t) (fun x => !decide (x ∈ ones y.reverse))
  (m2 _ _ (k3 _ _ hn))
  (by simp only [iOf, pVar, zS, zZ, zB, aIter, m2 _ _ (k3 _ _ hn), zM])
  (fun w hw σ' k => ⟨σ', .refl _, by
   refine xEA (List.mem_map.mp hw) fun c hc hrf => ?_; subst hrf
   simp only [pCmpB, pVar, zS, zZ, zB, oOne, notIn_str, zM]
   congr 3
   have : ([c] ∈ ones y.reverse) ↔ c ∈ y := by have := mem_ones (t := y.reverse) (c := c); rw [List.mem_reverse] at this; exact this
   simp only [this]⟩) (by simp [ones]; exact zF ht3 (by decide))
 have k5 : Kp h h5 := k3.trans (m2.trans p2)
 have k6 := Kp.app h5 [AObj.tup [.ref h3.length, .ref h4.length]]
 have hones : (y.reverse.map fun c => [c]) = ones y.reverse := rfl
 rw [hones] at m3
 have s9 : pCmpB cNe (pVar 6) (pTup [pVar 7, pVar 8]) [.undef, .ref T, .ref H, .ref O, .str y, .ref n, .ref r, .ref h3.length, .ref h4.length, a9] h5 = some (false, h5 ++ [AObj.tup [.ref h3.length, .ref h4.length]]) := by
  have := cNe_pairs (h := h5 ++ [AObj.tup [.ref h3.length, .ref h4.length]]) (a := r) (b := h5.length) (a1 := q) (a2 := (h ++ [AObj.list (aSs (ones y))]).length) (b1 := h3.length) (b2 := h4.length) (xs := (ones y.reverse).filter fun x => !decide (x ∈ ones t)) (ys := (ones t).filter fun x => !decide (x ∈ ones y.reverse))
   (k6 _ _ (p2 _ _ (m2 _ _ u5))) (get_new _ _) (k6 _ _ (p2 _ _ (m2 _ _ u6))) (k6 _ _ (p2 _ _ (m2 _ _ u7))) (k6 _ _ (p2 _ _ m3)) (k6 _ _ p3)
   (fun w hw => ones_ok (fun c hc => hyo c (List.mem_reverse.mp hc)) w (List.mem_filter.mp hw).1) (fun w hw => ones_ok ht2 w (List.mem_filter.mp hw).1)
  simp only [pCmpB, pVar, pTup, pArgs, zS, zZ, zB, this, zM]
 have hpf : (ones t).filter (fun x => !decide (x ∈ ones y.reverse)) = ones (left ts y) := by
  rw [ones_filter, hleft]
  congr 1
  apply List.filter_congr
  intro c _
  congr 1
  have := mem_ones (t := y.reverse) (c := c)
  rw [List.mem_reverse] at this
  simp only [this]
 rw [hpf] at p3
 have h4l := p2.len
 have h34 := m2.len
 have h0 := k3.len
 obtain ⟨v9', σ', u', e1, e2, e3, e4, e5⟩ := push_loop (H := H) (y := y) (l0 := .undef) (l1 := .ref T) (l3 := .ref O) (l5 := .ref n) (l6 := .ref r) (l7 := .ref h3.length) (l8 := .ref h4.length) (n := h4.length) (cs := left ts y) (left ts y).length 0 FUEL v' a9 (h5 ++ [AObj.tup [.ref h3.length, .ref h4.length]])
  (by exact Nat.zero_add _) (by
   have : (left ts y).length ≤ 4 := by rw [hleft]; exact zG (List.length_filter_le ..) ht3
   unfold FUEL; lia) (k6 _ _ p3) (k6 _ _ (k5 _ _ hH)) (by exact Nat.ne_of_gt (zK hHlt (zG h0 h34))) hv (by
   have : (left ts y).length ≤ 4 := by rw [hleft]; exact zG (List.length_filter_le ..) ht3
   lia) (by exact zK hy (by decide))
 rw [List.drop_zero] at e4
 refine ⟨.ref n, .ref r, .ref h3.length, .ref h4.length, v9', σ', u', ?_, e2, e3, e4, fun i o e => ?_, fun j hj o e => by rw [e5 j hj]; exact k6 _ _ (k5 _ _ e)⟩
 ·unfold orElse
  apply seq_nxt
  rw [seq_asg s5]
  simp only [zU, zV]
  rw [seq_asg s6]
  simp only [zU, zV]
  rw [seq_asg m1]
  simp only [zU, zV]
  rw [seq_asg p1]
  simp only [zU, zV]
  rw [seq_iff s9, seq_nil]
  apply seq_nxt
  have hit : iOf (pVar 8) [.undef, .ref T, .ref H, .ref O, .str y, .ref n, .ref r, .ref h3.length, .ref h4.length, a9] (h5 ++ [AObj.tup [.ref h3.length, .ref h4.length]]) = some (.one (.list h4.length 0), h5 ++ [AObj.tup [.ref h3.length, .ref h4.length]]) := by
   simp only [iOf, pVar, zS, zZ, zB, aIter, k6 _ _ p3, zM]
  unfold sFor
  rw [hit]
  exact e1
 ·have hi := (zC e).1
  rw [e5 i (by exact Nat.ne_of_lt (zK hi hH0))]
  exact k6 _ _ (k5 _ _ (hk _ _ e))
end QF
noncomputable section QG
open PySem
set_option maxHeartbeats 1000000
structure OrSt (ts : List (List Nat)) (σ₀ : AH) (T H O : Nat) (i : Nat) (l : List AV) (h : AH) : Prop where
 ex : ∃ v L os a4 a5 a6 a7 a8 a9, l = [.undef, .ref T, .ref H, .ref O, a4, a5, a6, a7, a8, a9] ∧ Kp σ₀ h ∧ h[H]? = some (.list (aSs v)) ∧ h[O]? = some (.list (aSs os)) ∧ Turn ts i v L os ∧ os.length + i ≤ 1000 ∧ i ≤ 1000
theorem or_turn {ts : List (List Nat)} {T H O : Nat} {refs : List AV} {σ₀ : AH} (hT : σ₀[T]? = some (.list refs)) (hL : Lists σ₀ refs (ts.map ones)) (hts : ∀ t ∈ ts, t.Pairwise (· < ·) ∧ WOk t ∧ t.length ≤ 4) (hl4 : ts.length = 4)
  (hH0 : σ₀.length ≤ H) (hO0 : σ₀.length ≤ O) (hHO : H ≠ O) {i : Nat} {l : List AV} {h : AH} (S : OrSt ts σ₀ T H O (i + 1) l h) :
  ∃ h1 fl l' h', pTruth (pVar 2) l h = some (true, h1) ∧ orBody l h1 = some (fl, l', h') ∧ (fl = .nxt ∨ fl = .cont) ∧ OrSt ts σ₀ T H O i l' h' := by
 obtain ⟨v, L, os, a4, a5, a6, a7, a8, a9, rfl, hk, hH, hO, Tn, hb, hb2⟩ := S.ex
 have hvl : v.length ≤ 1000 := by
  have := len_le_sum (ts := ts) L
  rw [Tn.sum] at this
  rw [Tn.perm.length_eq]; lia
 have hne := Tn.some
 have hle : (aSs v).length ≤ 1000000 := by rw [aSs_length]; exact zG hvl (by decide)
 have hie : (aSs v).isEmpty = false := by cases v with | nil => exact absurd rfl hne | cons _ _ => rfl
 obtain ⟨y, v', e1, hv', hp, hmin⟩ := heappop_spec hH Tn.heap hne (by exact zF hvl (by decide))
 refine xEA (Tn.head hp hmin) fun L' hrf hp' => ?_; subst hrf
 obtain ⟨y1, y2, y3⟩ := Tn.ok y (.head _)
 have kH : ∀ j o, j ≠ H → h[j]? = some o → (h.set H (.list (aSs v')))[j]? = some o := fun j o n e => by rw [set_ne _ n]; exact e
 have hk1 : Kp σ₀ (h.set H (.list (aSs v'))) := hk.set hH0 _
 have hH1 : (h.set H (.list (aSs v')))[H]? = some (.list (aSs v')) := set_get hH
 have hO1 := kH _ _ (Ne.symm hHO) hO
 have hvl' : v'.length ≤ 1000 := by have := hp.length_eq; simp at this; lia
 have s4 : pCall P_heappop [pVar 2] [.undef, .ref T, .ref H, .ref O, a4, a5, a6, a7, a8, a9] h = some (.str y, h.set H (.list (aSs v'))) := by
  simp only [pCall, pArgs, pVar, zS, zZ, zB, e1]
 have hT1 := hk1 _ _ hT
 have hrl : refs.length = 4 := by have := All2.len hL; rw [this]; simp [hl4]
 have st : pCmpB cEq (pCall fLen [pVar 4]) (pCall fLen [pVar 1]) [.undef, .ref T, .ref H, .ref O, .str y, a5, a6, a7, a8, a9] (h.set H (.list (aSs v'))) = some (((y.length : Int) == ((4 : Nat) : Int)), h.set H (.list (aSs v'))) := by
  have h1 : y.length ≤ 1000000 := by exact zG y1 (by decide)
  have h2 : refs.length ≤ 1000000 := by exact Nat.le_of_lt (o51 hrl (by decide))
  simp only [pCmpB, pCall, pArgs, pVar, zS, zZ, zB, fLen, h1, hT1, if_true, hrl, cEq_i, cEq_s, zM]
  rfl
 refine ⟨h, ?_⟩
 have htest : pTruth (pVar 2) [.undef, .ref T, .ref H, .ref O, a4, a5, a6, a7, a8, a9] h = some (true, h) := by
  simp only [pTruth, pVar, zS, zZ, zB, aTruth, hH, hle, if_true, hie, Bool.not_false, zM]
 by_cases hfull : y.length = 4
 ·have happ : aSs os ++ [AV.str y] = aSs (os ++ [y]) := by rw [aSs_append]; rfl
  have hol : (aSs os).length ≤ 1000000 := by rw [aSs_length]; exact o56 (zG hb (by decide))
  have s3 : sSeq (sExpr (pMeth .list mAppend (pVar 3) [pVar 4])) sNil [.undef, .ref T, .ref H, .ref O, .str y, a5, a6, a7, a8, a9] (h.set H (.list (aSs v'))) = some (.nxt, [.undef, .ref T, .ref H, .ref O, .str y, a5, a6, a7, a8, a9], (h.set H (.list (aSs v'))).set O (.list (aSs (os ++ [y])))) := by
   simp only [sSeq, sExpr, pMeth, pVar, pArgs, SKind.ok, zS, zZ, zB, hO1, if_true, mAppend, hol, happ, sNil]
  refine ⟨.nxt, _, _, htest, ?_, .inl rfl, ⟨v', L', os ++ [y], .str y, a5, a6, a7, a8, a9, rfl, hk1.set hO0 _, by rw [set_ne _ hHO]; exact hH1, set_get hO1, Tn.full hv' hp' hfull, by simp; exact o11 hb, by exact o56 hb2⟩⟩
  unfold orBody
  rw [seq_asg s4]
  simp only [zU, zV]
  rw [seq_ift (by rw [st, hfull]; rfl)]
  rw [seq_nxt s3]; rfl
 ·have hlt : y.length < 4 := by exact Nat.lt_of_le_of_ne y1 hfull
  obtain ⟨b5, b6, b7, b8, b9, h', u', g1, g2, g3, g4, g5, g6⟩ := or_else (O := O) (a5 := a5) (a6 := a6) (a7 := a7) (a8 := a8) (a9 := a9) hk1 hT hL hts hl4 hH1 hH0 hv' (by exact zF hvl' (by decide)) hlt y2 y3
  refine ⟨.nxt, _, _, htest, ?_, .inl rfl, ⟨u', _, os, .str y, b5, b6, b7, b8, b9, rfl, g5, g2, g6 _ (Ne.symm hHO) _ hO1, Tn.more (fun t ht => ⟨(hts t ht).1, (hts t ht).2.1⟩) g3 (g4.trans (hp'.append_right _)) hlt, by exact Nat.le_of_lt hb, by exact o56 hb2⟩⟩
  unfold orBody
  rw [seq_asg s4]
  simp only [zU, zV]
  rw [seq_iff (by rw [st]; congr 2; simp; lia)]
  exact g1
theorem orders_spec {ts : List (List Nat)} {T : Nat} {refs : List AV} {σ₀ : AH} (hT : σ₀[T]? = some (.list refs)) (hL : Lists σ₀ refs (ts.map ones)) (hts : ∀ t ∈ ts, t.Pairwise (· < ·) ∧ WOk t ∧ t.length ≤ 4) (hl4 : ts.length = 4) :
  ∃ O σ', P_ulor [.ref T] σ₀ = some (.ref O, σ') ∧ Kp σ₀ σ' ∧ σ₀.length ≤ O ∧ σ'[O]? = some (.list (aSs (ext ts 4 []))) := by
 have hb : nodes ts 4 [] ≤ 5 ^ 4 := nodes_le (fun t ht => (hts t ht).2.2) 4 []
 have kA := Kp.app σ₀ [AObj.list []]
 have kB := Kp.app (σ₀ ++ [AObj.list []]) [AObj.list []]
 have kC := Kp.app (σ₀ ++ [AObj.list []] ++ [AObj.list []]) [AObj.tup [.ref σ₀.length, .ref (σ₀ ++ [AObj.list []]).length]]
 have hlen : (σ₀ ++ [AObj.list []]).length = σ₀.length + 1 := by simp
 generalize hσ : σ₀ ++ [AObj.list []] ++ [AObj.list []] ++ [AObj.tup [.ref σ₀.length, .ref (σ₀ ++ [AObj.list []]).length]] = σ₁ at kC
 have k1 : Kp σ₀ σ₁ := kA.trans (kB.trans kC)
 have hH1 : σ₁[σ₀.length]? = some (.list (aSs [])) := kC _ _ (kB _ _ (get_new _ _))
 have hO1 : σ₁[(σ₀ ++ [AObj.list []]).length]? = some (.list (aSs [])) := kC _ _ (get_new _ _)
 have hp := heappush_spec (x := []) hH1 (by simp)
 have hpush : push [] [] = [[]] := rfl
 rw [hpush] at hp
 rw [hlen] at hO1
 have S0 : OrSt ts σ₀ T σ₀.length (σ₀.length + 1) (nodes ts 4 []) [.undef, .ref T, .ref σ₀.length, .ref (σ₀.length + 1), .undef, .undef, .undef, .undef, .undef, .undef] (σ₁.set σ₀.length (.list (aSs [[]]))) :=
  ⟨[[]], [[]], [], _, _, _, _, _, _, rfl, k1.set (Nat.le_refl _) _, set_get hH1, by rw [set_ne _ (by exact Nat.ne_of_gt (Nat.lt_succ_self _))]; exact hO1, Turn.start ts, by simp; exact zG hb (by decide), by exact zG hb (by decide)⟩
 obtain ⟨l', h', e1, i', S'⟩ := wLoop_inv (t := pTruth (pVar 2)) (b := orBody) (fun i l h => OrSt ts σ₀ T σ₀.length (σ₀.length + 1) i l h) (fun l h => OrSt ts σ₀ T σ₀.length (σ₀.length + 1) 0 l h ∧ True)
  (fun i l h S => or_turn hT hL hts hl4 (Nat.le_refl _) (by exact Nat.le_add_right _ _) (by exact Nat.ne_of_lt (Nat.lt_succ_self _)) S)
  (fun l h S => ⟨h, by
   obtain ⟨v, L, os, a4, a5, a6, a7, a8, a9, rfl, hk, hH, hO, Tn, hb, hb2⟩ := S.ex
   obtain ⟨rfl, _⟩ := Tn.done
   have hH' : h[σ₀.length]? = some (.list []) := hH
   simp only [pTruth, pVar, zS, zZ, zB, aTruth, hH', List.length_nil, Nat.zero_le, if_true, List.isEmpty_nil, Bool.not_true, zM], S, trivial⟩)
  (nodes ts 4 []) FUEL _ _ (by unfold FUEL; exact zF hb (by decide)) S0
 obtain ⟨v, L, os, a4, a5, a6, a7, a8, a9, rfl, hk, hH, hO, Tn, hb', hb2⟩ := i'.ex
 obtain ⟨rfl, rfl⟩ := Tn.done
 refine ⟨σ₀.length + 1, h', ?_, hk, by exact Nat.le_add_right _ _, hO⟩
 unfold P_ulor bodyF
 rw [F_or_eq]
 have hsw : sSwap [2, 3] (pTup [pList [], pList []]) [.undef, .ref T, .undef, .undef, .undef, .undef, .undef, .undef, .undef, .undef] σ₀ = some (.nxt, [.undef, .ref T, .ref σ₀.length, .ref (σ₀.length + 1), .undef, .undef, .undef, .undef, .undef, .undef], σ₁) := by
  have hget : σ₁[(σ₀ ++ [AObj.list []] ++ [AObj.list []]).length]? = some (.tup [.ref σ₀.length, .ref (σ₀.length + 1)]) := by rw [← hσ, hlen]; exact get_new _ _
  rw [hlen] at hσ
  simp only [sSwap, pTup, pArgs, pList, zB, hlen, hσ, hget, List.length_cons, List.length_nil, if_true, List.reverse_cons, List.reverse_nil, List.nil_append, List.cons_append, sets, zU, zV, hlen]
 have hpu : pCall P_heappush [pVar 2, pConst (.str [])] [.undef, .ref T, .ref σ₀.length, .ref (σ₀.length + 1), .undef, .undef, .undef, .undef, .undef, .undef] σ₁ = some (.none, σ₁.set σ₀.length (.list (aSs [[]]))) := by
  simp only [pCall, pArgs, pVar, pConst, zS, zZ, zB, hp]
 simp only [List.length_cons, List.length_nil, if_true, List.replicate, List.cons_append, List.nil_append]
 rw [seq_nxt hsw, seq_expr hpu]
 rw [seq_nxt (f := sWhile _ _) e1]
 rw [seq_ret (v := .ref (σ₀.length + 1)) (h' := h') rfl]
 rfl
end QG
noncomputable section QH
open PySem
set_option maxHeartbeats 1000000
noncomputable def szI (c : Int) : Int := c.fmod 2 + (c.fdiv 2).fmod 2 + (c.fdiv 4).fmod 2 + (c.fdiv 8).fmod 2
theorem szI_le (c : Int) : 0 ≤ szI c ∧ szI c ≤ 4 := by
 unfold szI
 rw [Int.fmod_eq_emod_of_nonneg _ (by decide), Int.fmod_eq_emod_of_nonneg _ (by decide), Int.fmod_eq_emod_of_nonneg _ (by decide), Int.fmod_eq_emod_of_nonneg _ (by decide)]
 lia
theorem size_spec (c : Int) (σ : AH) : P_ulsz [.int c] σ = some (.int (szI c), σ) := by
 have h2 : ((2 : Int) ≠ 0 ∧ small 2 = true) := by decide
 have h4 : ((4 : Int) ≠ 0 ∧ small 4 = true) := by decide
 have h8 : ((8 : Int) ≠ 0 ∧ small 8 = true) := by decide
 have h2' : (2 : Int) ≠ 0 := by decide
 unfold P_ulsz bodyF F_ulsz
 simp only [List.length_cons, List.length_nil, if_true, List.replicate, List.cons_append, List.nil_append, sSeq, sRet, pBin, pVar, pConst, zS, zZ, zB, oAdd_i, oAdd_s, oMod_i, oFdiv_i, if_pos h2, if_pos h4, if_pos h8, if_pos h2', zM, szI]
noncomputable def prI (ch : Int) (cs : List Int) : Int := cs.foldl (fun p c => p * szI (Builtin.bitAnd c ch)) (1 - (szI ch).fmod 2 * 2)
noncomputable def amI (cs : List Int) (n : Nat) : Int := ((List.range n).map fun ch => prI (Int.ofNat ch) cs).sum
theorem abs_mul4 {a b : Int} {n : Nat} (h : a.natAbs ≤ 4 ^ n) (h1 : 0 ≤ b) (h2 : b ≤ 4) : (a * b).natAbs ≤ 4 ^ (n + 1) := by
 rw [Int.natAbs_mul, Nat.pow_succ]
 exact Nat.mul_le_mul h (by lia)
theorem fold_le (ch : Int) : ∀ (cs : List Int) (p : Int) (n : Nat), p.natAbs ≤ 4 ^ n → (cs.foldl (fun p c => p * szI (Builtin.bitAnd c ch)) p).natAbs ≤ 4 ^ (n + cs.length)
 | [], p, n, h => h
 | c :: cs, p, n, h => by
  have := szI_le (Builtin.bitAnd c ch)
  have := fold_le ch cs _ (n + 1) (abs_mul4 h this.1 this.2)
  rw [List.foldl_cons, List.length_cons, show n + (cs.length + 1) = n + 1 + cs.length by exact Eq.symm (o8 rfl)]
  exact this
theorem prI_start (ch : Int) : (1 - (szI ch).fmod 2 * 2).natAbs ≤ 4 ^ 0 := by
 rw [Int.fmod_eq_emod_of_nonneg _ (by decide)]
 omega
noncomputable def amB : PS := (sSeq (sAug 4 oMul (pCall (P_ulsz) [(pBin oAnd (pVar 5) (pVar 3))])) (sNil))
noncomputable def amT : PS := (sSeq (sAsg 4 (pBin oSub (pConst (.int 1)) (pBin oMul (pBin oMod (pCall (P_ulsz) [pVar 3]) (pConst (.int 2))) (pConst (.int 2))))) (sSeq (sFor (iOf (pVar 1)) (.nm 5) amB) (sSeq (sAug 2 oAdd (pVar 4)) (sNil))))
theorem F_am_eq : F_ulam = (sSeq (sAsg 2 (pConst (.int 0))) (sSeq (sFor (iRange [(pConst (.int 16))]) (.nm 3) amT) (sSeq (sRet (pVar 2)) (sNil)))) := rfl
theorem am_inner {C : Nat} {cs : List Int} {σ : AH} {a2 : AV} {ch : Int} (hC : σ[C]? = some (.list (cs.map .int))) (hl : cs.length ≤ 4) (a5 : AV) :
  ∃ a5', sFor (iOf (pVar 1)) (.nm 5) amB [.undef, .ref C, a2, .int ch, .int (1 - (szI ch).fmod 2 * 2), a5] σ = some (.nxt, [.undef, .ref C, a2, .int ch, .int (prI ch cs), a5'], σ) := by
 obtain ⟨l', h', e1, a5', e2, e3⟩ := fLoop_inv (tg := .nm 5) (b := amB) (fun j => .one (.list C j)) (fun j l h => ∃ a5, l = [.undef, .ref C, a2, .int ch, .int ((cs.take j).foldl (fun p c => p * szI (Builtin.bitAnd c ch)) (1 - (szI ch).fmod 2 * 2)), a5] ∧ h = σ) cs.length (fun _ => rfl)
  (fun j hj l h ⟨a5, e1, e2⟩ => by
   subst e1 e2
   have hx : (cs.map AV.int)[j]? = some (.int cs[j]) := by rw [List.getElem?_map, zH hj]; rfl
   have htk : cs.take (j + 1) = cs.take j ++ [cs[j]] := by rw [List.take_add_one, zH hj]; rfl
   generalize cs[j] = c at hx htk
   have hb := fold_le ch (cs.take j) _ 0 (prI_start ch)
   have hb2 : 4 ^ (0 + (cs.take j).length) ≤ 4 ^ 4 := Nat.pow_le_pow_right (by decide) (by rw [List.length_take]; omega)
   have hs : small ((cs.take j).foldl (fun p c => p * szI (Builtin.bitAnd c ch)) (1 - (szI ch).fmod 2 * 2)) = true := by
    unfold small; exact decide_eq_true (by exact zF hb (zF hb2 (by decide)))
   refine ⟨.int c, h, [.undef, .ref C, a2, .int ch, .int ((cs.take j).foldl (fun p c => p * szI (Builtin.bitAnd c ch)) (1 - (szI ch).fmod 2 * 2)), .int c], .nxt, _, h, next_list hC j hx, rfl, ?_, .inl rfl, .int c, rfl, rfl⟩
   rw [htk, List.foldl_append]
   unfold amB
   simp only [sSeq, sAug, pCall, pArgs, pVar, pBin, zS, zZ, zB, oAnd_i, size_spec, oMul_i, hs, if_true, zM, zU, zV, sNil, List.foldl_cons, List.foldl_nil])
  (fun l h ⟨a5, e1, e2⟩ => ⟨_, by subst e2; have := next_list_end hC; rw [List.length_map] at this; exact this⟩)
  cs.length 0 FUEL [.undef, .ref C, a2, .int ch, .int (1 - (szI ch).fmod 2 * 2), a5] σ (by exact Nat.zero_add _) (by unfold FUEL; exact zF hl (by decide)) ⟨a5, rfl, rfl⟩
 subst e2 e3
 refine ⟨a5', ?_⟩
 have hi : iOf (pVar 1) [.undef, .ref C, a2, .int ch, .int (1 - (szI ch).fmod 2 * 2), a5] h' = some (.one (.list C 0), h') := by
  simp only [iOf, pVar, zS, zZ, zB, aIter, hC, zM]
 unfold sFor
 rw [hi]
 rw [List.take_length] at e1
 exact e1
theorem next_range (σ : AH) (i n : Nat) (h : i < n) : aNext (.range i (n - i : Nat) 1) σ = some (some (.int i), .range (i + 1 : Nat) (n - (i + 1) : Nat) 1, σ) := by
 have h0 : (0 : Int) < ((n - i : Nat) : Int) := by exact o44 (Nat.sub_pos_of_lt h)
 have e1 : ((n - i : Nat) : Int) - 1 = ((n - (i + 1) : Nat) : Int) := by exact o23 (Nat.sub_pos_of_lt h)
 have e2 : ((i : Nat) : Int) + 1 = ((i + 1 : Nat) : Int) := by exact rfl
 simp only [aNext, h0, if_true, e1, e2]
theorem next_range_end (σ : AH) (n : Nat) : aNext (.range n (n - n : Nat) 1) σ = some (none, .range n (n - n : Nat) 1, σ) := by
 have h0 : ¬ (0 : Int) < ((n - n : Nat) : Int) := by lia
 simp only [aNext, h0, if_false]
theorem amount_spec {C : Nat} {cs : List Int} {σ : AH} (hC : σ[C]? = some (.list (cs.map .int))) (hl : cs.length ≤ 4) : P_ulam [.ref C] σ = some (.int (amI cs 16), σ) := by
 obtain ⟨l', h', e1, a3, a4, a5, e2, e3⟩ := fLoop_inv (tg := .nm 3) (b := amT) (fun j => .range j (16 - j : Nat) 1) (fun j l h => ∃ a3 a4 a5, l = [.undef, .ref C, .int (amI cs j), a3, a4, a5] ∧ h = σ) 16 (fun _ => rfl)
  (fun j hj l h ⟨a3, a4, a5, e1, e2⟩ => by
   subst e1 e2
   obtain ⟨a5', e⟩ := am_inner (a2 := .int (amI cs j)) (ch := (j : Int)) hC hl a5
   refine ⟨.int j, h, _, .nxt, [.undef, .ref C, .int (amI cs (j + 1)), .int j, .int (prI j cs), a5'], h, next_range h j 16 hj, rfl, ?_, .inl rfl, .int j, .int (prI j cs), a5', rfl, rfl⟩
   have hs2 : small ((szI j).fmod 2) = true := by
    unfold small; refine decide_eq_true ?_
    rw [Int.fmod_eq_emod_of_nonneg _ (by decide)]; lia
   have h2' : (2 : Int) ≠ 0 := by decide
   unfold amT
   simp only [zU, zV]
   have s1 : pBin oSub (pConst (.int 1)) (pBin oMul (pBin oMod (pCall P_ulsz [pVar 3]) (pConst (.int 2))) (pConst (.int 2))) [.undef, .ref C, .int (amI cs j), .int j, a4, a5] h = some (.int (1 - (szI j).fmod 2 * 2), h) := by
    simp only [pBin, pConst, pCall, pArgs, pVar, zS, zZ, zB, size_spec, oMod_i, if_pos h2', oMul_i, hs2, if_true, oSub_i]
   rw [seq_asg s1]
   simp only [zU, zV]
   rw [seq_nxt e]
   have hsum : amI cs j + prI j cs = amI cs (j + 1) := by
    unfold amI
    rw [List.range_succ, List.map_append, List.sum_append]
    simp
   simp only [sSeq, sAug, pVar, zS, zZ, zB, oAdd_i, oAdd_s, zM, zU, zV, sNil, hsum])
  (fun l h ⟨a3, a4, a5, e1, e2⟩ => ⟨_, next_range_end h 16⟩)
  16 0 FUEL [.undef, .ref C, .int 0, .undef, .undef, .undef] σ (by decide) (by unfold FUEL; exact (by decide)) ⟨_, _, _, rfl, rfl⟩
 subst e2 e3
 unfold P_ulam bodyF
 rw [F_am_eq]
 simp only [List.length_cons, List.length_nil, if_true, List.replicate, List.cons_append, List.nil_append]
 rw [seq_asg (v := .int 0) (h' := h') rfl]
 simp only [zU, zV]
 have hi : iRange [pConst (.int 16)] [.undef, .ref C, .int 0, .undef, .undef, .undef] h' = some (.range (0 : Nat) (16 - 0 : Nat) 1, h') := by
  simp only [iRange, pArgs, pConst, zB, rng1]
  rfl
 rw [seq_nxt (l' := [.undef, .ref C, .int (amI cs 16), a3, a4, a5]) (h' := h') (by unfold sFor; rw [hi]; exact e1)]
 rw [seq_ret (v := .int (amI cs 16)) (h' := h') rfl]
 rfl
end QH
noncomputable section QI
open PySem
set_option maxHeartbeats 1000000
noncomputable def sm {α : Type} (l : List α) (f : α → Int) : Int := (l.map f).sum
theorem sm_nil {α : Type} (f : α → Int) : sm [] f = 0 := rfl
theorem sm_cons {α : Type} (a : α) (l : List α) (f : α → Int) : sm (a :: l) f = f a + sm l f := by simp [sm]
theorem sm_congr {α : Type} {l : List α} {f g : α → Int} (h : ∀ a ∈ l, f a = g a) : sm l f = sm l g := by
 unfold sm; rw [List.map_congr_left h]
theorem sm_zero {α : Type} : ∀ l : List α, sm l (fun _ => 0) = 0
 | [] => rfl
 | a :: l => by rw [sm_cons, sm_zero l]; rfl
theorem sm_add {α : Type} (f g : α → Int) : ∀ l : List α, sm l (fun a => f a + g a) = sm l f + sm l g
 | [] => rfl
 | a :: l => by rw [sm_cons, sm_cons, sm_cons, sm_add f g l]; lia
theorem sm_mul {α : Type} (k : Int) (f : α → Int) : ∀ l : List α, k * sm l f = sm l fun a => k * f a
 | [] => by simp [sm]
 | a :: l => by rw [sm_cons, sm_cons, Int.mul_add, sm_mul k f l]
theorem sm_mulr {α : Type} (k : Int) (f : α → Int) : ∀ l : List α, sm l f * k = sm l fun a => f a * k
 | [] => by simp [sm]
 | a :: l => by rw [sm_cons, sm_cons, Int.add_mul, sm_mulr k f l]
theorem sm_comm {α β : Type} (f : α → β → Int) : ∀ (l : List α) (m : List β), sm l (fun a => sm m (f a)) = sm m fun b => sm l fun a => f a b
 | [], m => by simp only [sm_nil, sm_zero]
 | a :: l, m => by
  rw [sm_cons, sm_comm f l m, ← sm_add]
  exact sm_congr fun b _ => (sm_cons a l (fun a => f a b)).symm
theorem sm_filter {α : Type} (p : α → Bool) (f : α → Int) : ∀ l : List α, sm (l.filter p) f = sm l fun a => if p a then f a else 0
 | [] => rfl
 | a :: l => by
  rw [sm_cons, List.filter_cons]
  cases p a with
  | true => simp only [if_true]; rw [sm_cons, sm_filter p f l]
  | false => simp only [Bool.false_eq_true, if_false]; rw [sm_filter p f l]; lia
theorem if_sm {α : Type} (p : Bool) (l : List α) (f : α → Int) : (if p then sm l f else 0) = sm l fun a => if p then f a else 0 := by
 cases p with
 | true => rfl
 | false => exact (sm_zero l).symm
theorem len_flatMap {α β : Type} (f : α → List β) : ∀ l : List α, ((l.flatMap f).length : Int) = sm l fun a => ((f a).length : Int)
 | [] => rfl
 | a :: l => by rw [sm_cons, List.flatMap_cons, List.length_append, ← len_flatMap f l]; exact rfl
noncomputable def fitD (c : Nat) : List Nat := (List.range 4).filter fun d => decide (c / 2 ^ d % 2 ≠ 0)
theorem fitD_lt {c d : Nat} (h : d ∈ fitD c) : d < 4 := by
 have := (List.mem_filter.mp h).1
 simpa using this
noncomputable def uU (ch : Nat) (c : Nat) : Int := szI (Builtin.bitAnd (c : Int) (ch : Int))
theorem uU_fit : ∀ ch, ch < 16 → ∀ c, c < 16 → uU ch c = sm (fitD c) fun d => uU ch (2 ^ d) := by decide +kernel
noncomputable def sg (ch : Nat) : Int := 1 - (szI ch).fmod 2 * 2
theorem prI_eq (ch : Nat) (a b c d : Nat) : prI (ch : Int) [(a : Int), (b : Int), (c : Int), (d : Int)] = sg ch * uU ch a * uU ch b * uU ch c * uU ch d := rfl
theorem unit4 : ∀ a, a < 4 → ∀ b, b < 4 → ∀ c, c < 4 → ∀ d, d < 4 → sm (List.range 16) (fun ch => sg ch * uU ch (2 ^ a) * uU ch (2 ^ b) * uU ch (2 ^ c) * uU ch (2 ^ d)) =
  if !decide (a ∈ ([] : List Nat)) then (if !decide (b ∈ [a]) then (if !decide (c ∈ [a, b]) then (if !decide (d ∈ [a, b, c]) then 1 else 0) else 0) else 0) else 0 := by decide +kernel
theorem amI_eq {a b c d : Nat} (ha : a < 16) (hb : b < 16) (hc : c < 16) (hd : d < 16) : amI [(a : Int), (b : Int), (c : Int), (d : Int)] 16 =
  sm (fitD a) fun a => sm (fitD b) fun b => sm (fitD c) fun c => sm (fitD d) fun d => sm (List.range 16) fun ch => sg ch * uU ch (2 ^ a) * uU ch (2 ^ b) * uU ch (2 ^ c) * uU ch (2 ^ d) := by
 have h1 : amI [(a : Int), (b : Int), (c : Int), (d : Int)] 16 = sm (List.range 16) fun ch => sm (fitD a) fun a => sm (fitD b) fun b => sm (fitD c) fun c => sm (fitD d) fun d => sg ch * uU ch (2 ^ a) * uU ch (2 ^ b) * uU ch (2 ^ c) * uU ch (2 ^ d) := by
  show sm (List.range 16) (fun ch => prI (Int.ofNat ch) [(a : Int), (b : Int), (c : Int), (d : Int)]) = _
  refine sm_congr fun ch hch => ?_
  have hch : ch < 16 := by simpa using hch
  show prI (ch : Int) _ = _
  rw [prI_eq, uU_fit ch hch a ha, uU_fit ch hch b hb, uU_fit ch hch c hc, uU_fit ch hch d hd]
  rw [sm_mul (sg ch), sm_mulr, sm_mulr, sm_mulr]
  refine sm_congr fun a _ => ?_
  rw [sm_mul (sg ch * _), sm_mulr, sm_mulr]
  refine sm_congr fun b _ => ?_
  rw [sm_mul (sg ch * _ * _), sm_mulr]
  refine sm_congr fun c _ => ?_
  rw [sm_mul]
 rw [h1, sm_comm]
 refine sm_congr fun a _ => ?_
 rw [sm_comm]
 refine sm_congr fun b _ => ?_
 rw [sm_comm]
 refine sm_congr fun c _ => ?_
 rw [sm_comm]
theorem ext_len (t0 t1 t2 t3 : List Nat) : ((ext [t0, t1, t2, t3] 4 []).length : Int) = sm t0 fun a => sm t1 fun b => sm t2 fun c => sm t3 fun d =>
  if !decide (a ∈ ([] : List Nat)) then (if !decide (b ∈ [a]) then (if !decide (c ∈ [a, b]) then (if !decide (d ∈ [a, b, c]) then 1 else 0) else 0) else 0) else 0 := by
 show (((left [t0, t1, t2, t3] []).flatMap fun a => (left [t0, t1, t2, t3] [a]).flatMap fun b => (left [t0, t1, t2, t3] [a, b]).flatMap fun c => (left [t0, t1, t2, t3] [a, b, c]).flatMap fun d => [[a, b, c, d]]).length : Int) = _
 rw [len_flatMap]
 show sm (t0.filter _) _ = _
 rw [sm_filter]
 refine sm_congr fun a _ => ?_
 rw [len_flatMap]
 show (if _ then sm (t1.filter _) _ else 0) = _
 rw [sm_filter, if_sm]
 refine sm_congr fun b _ => ?_
 rw [len_flatMap]
 show (if _ then (if _ then sm (t2.filter _) _ else 0) else 0) = _
 rw [sm_filter, if_sm, if_sm]
 refine sm_congr fun c _ => ?_
 rw [len_flatMap]
 show (if _ then (if _ then (if _ then sm (t3.filter _) _ else 0) else 0) else 0) = _
 rw [sm_filter, if_sm, if_sm, if_sm]
 rfl
theorem ryser {a b c d : Nat} (ha : a < 16) (hb : b < 16) (hc : c < 16) (hd : d < 16) : ((ext [fitD a, fitD b, fitD c, fitD d] 4 []).length : Int) = amI [(a : Int), (b : Int), (c : Int), (d : Int)] 16 := by
 rw [ext_len, amI_eq ha hb hc hd]
 refine sm_congr fun a ha => sm_congr fun b hb => sm_congr fun c hc => sm_congr fun d hd => ?_
 rw [unit4 a (fitD_lt ha) b (fitD_lt hb) c (fitD_lt hc) d (fitD_lt hd)]
theorem ext_shift (s : Nat) (ts : List (List Nat)) : ∀ (k : Nat) (w : Wo), ext (ts.map fun t => t.map (s + ·)) k (w.map (s + ·)) = (ext ts k w).map fun x => x.map (s + ·)
 | 0, w => rfl
 | k + 1, w => by
  have hl : left (ts.map fun t => t.map (s + ·)) (w.map (s + ·)) = (left ts w).map (s + ·) := by
   unfold left
   rw [List.length_map, zJ, zJ, List.getElem?_map]
   cases ts[w.length]? with
   | none => rfl
   | some t =>
    simp only [zM, Option.getD_some, List.filter_map]
    congr 1
    apply List.filter_congr
    intro c _
    simp
  simp only [ext, hl, List.flatMap_map, List.map_flatMap]
  congr 1
  funext c
  have := ext_shift s ts k (w ++ [c])
  rw [List.map_append] at this
  exact this
theorem ext_mem {ts : List (List Nat)} : ∀ (k : Nat) (w x : Wo), x ∈ ext ts k w → w.Nodup → (∀ i c, w[i]? = some c → c ∈ ts.getD i []) → x.length = w.length + k ∧ x.Nodup ∧ (∀ i c, x[i]? = some c → c ∈ ts.getD i []) ∧ ∃ r, x = w ++ r
 | 0, w, x, hx, h1, h2 => by
  rw [zL hx]
  exact ⟨rfl, h1, h2, [], by simp⟩
 | k + 1, w, x, hx, h1, h2 => by
  refine xEA (List.mem_flatMap.mp hx) fun c hc hx => ?_
  obtain ⟨c1, c2⟩ := List.mem_filter.mp hc
  have c2 : c ∉ w := by simpa using c2
  obtain ⟨e1, e2, e3, r, e4⟩ := ext_mem k (w ++ [c]) x hx (by
   rw [List.nodup_append]
   exact ⟨h1, by simp, fun a ha b hb e => by rw [zL hb] at e; exact c2 (e ▸ ha)⟩) (fun i d e => by
   by_cases hi : i < w.length
   ·rw [List.getElem?_append_left hi] at e; exact h2 i d e
   ·have hl := (zC e).1
    have : i = w.length := by simp at hl; exact o12 hi hl
    subst this
    rw [List.getElem?_append_right (Nat.le_refl _)] at e
    simp at e
    subst e; exact c1)
  refine ⟨by rw [e1]; simp; exact o8 rfl, e2, e3, [c] ++ r, by rw [e4, List.append_assoc]⟩
theorem ext_rise {ts : List (List Nat)} (hts : ∀ t ∈ ts, t.Pairwise (· < ·)) : ∀ (k : Nat) (w : Wo), w.Nodup → (∀ i c, w[i]? = some c → c ∈ ts.getD i []) → (ext ts k w).Pairwise ltA
 | 0, w, _, _ => by simp [ext]
 | k + 1, w, h1, h2 => by
  have hs : (left ts w).Pairwise (· < ·) := by
   unfold left
   refine List.Pairwise.filter _ ?_
   rw [zJ]
   cases q : ts[w.length]? with
   | none => simp
   | some t => exact hts t (zI q)
  have good : ∀ c ∈ left ts w, (w ++ [c]).Nodup ∧ (∀ i d, (w ++ [c])[i]? = some d → d ∈ ts.getD i []) := fun c hc => by
   obtain ⟨c1, c2⟩ := List.mem_filter.mp hc
   have c2 : c ∉ w := by simpa using c2
   refine ⟨?_, fun i d e => ?_⟩
   ·rw [List.nodup_append]
    exact ⟨h1, by simp, fun a ha b hb e => by rw [zL hb] at e; exact c2 (e ▸ ha)⟩
   ·by_cases hi : i < w.length
    ·rw [List.getElem?_append_left hi] at e; exact h2 i d e
    ·have hl := (zC e).1
     have : i = w.length := by simp at hl; exact o12 hi hl
     subst this
     rw [List.getElem?_append_right (Nat.le_refl _)] at e
     simp at e
     subst e; exact c1
  unfold ext
  rw [List.flatMap_def, List.pairwise_flatten]
  refine ⟨fun l hl => ?_, ?_⟩
  ·refine xEA (List.mem_map.mp hl) fun c hc hrf => ?_; subst hrf
   exact ext_rise hts k _ (good c hc).1 (good c hc).2
  ·rw [List.pairwise_map]
   refine List.Pairwise.imp_of_mem (fun {a b} ha hb hab x hx y hy => ?_) hs
   obtain ⟨_, _, _, r, rfl⟩ := ext_mem k _ x hx (good a ha).1 (good a ha).2
   obtain ⟨_, _, _, r', rfl⟩ := ext_mem k _ y hy (good b hb).1 (good b hb).2
   exact ltA_app_l _ (ltA_app_r _ (ltA_same w hab))
end QI
noncomputable section QJ
open PySem
set_option maxHeartbeats 1000000
theorem aItem_str {t : List Nat} {i c : Nat} (σ : AH) (h : t[i]? = some c) (hi : i < 1000000000) : aItem (.str t) (.int (i : Int)) σ = some (.str [c], σ) := by
 have hl := (zC h).1
 simp only [aItem, small_nat hi, if_true, seqIdx_nat hl, zB, h, zM]
theorem at_drop {t s : List Nat} {p : Nat} (h : t.drop p = s) (i : Nat) : t[p + i]? = s[i]? := by rw [← h, List.getElem?_drop]
theorem drop_more {t s : List Nat} {p : Nat} (h : t.drop p = s) (n : Nat) : t.drop (p + n) = s.drop n := by rw [← h, List.drop_drop]
theorem drop_lt {t s : List Nat} {p : Nat} (h : t.drop p = s) (hs : s ≠ []) : p < t.length := by
 by_cases q : p < t.length
 ·exact q
 ·rw [List.drop_eq_nil_of_le (by exact Nat.ge_of_not_lt q)] at h
  exact absurd h.symm hs
theorem seq_nxt' {f g : PS} {l l' : List AV} {h h' : AH} {v : AV} (e : f l h = some (.ret v, l', h')) : sSeq f g l h = some (.ret v, l', h') := by simp only [sSeq, e, zB]
noncomputable def sgn : List Nat → Option (Nat × Nat)
 | [] => none
 | a :: r => if a = 92 then r.head?.map fun b => (b, 2) else some (a, 1)
theorem sgn_app {s : List Nat} {c n : Nat} (post : List Nat) (h : sgn s = some (c, n)) : sgn (s ++ post) = some (c, n) ∧ n ≤ s.length ∧ 0 < n := by
 match s, h with
 | [a], h =>
  simp only [sgn] at h
  split at h
  ·cases h
  ·rename_i ha
   cases h
   exact ⟨by simp [sgn, ha], by simp, by simp⟩
 | a :: b :: r, h =>
  simp only [sgn] at h
  split at h
  ·rename_i ha
   cases h
   exact ⟨by simp [sgn, ha], by simp, by simp⟩
  ·rename_i ha
   cases h
   exact ⟨by simp [sgn, ha], by simp, by simp⟩
theorem sign_spec {t : List Nat} {p c n : Nat} (σ : AH) (hp : p < 100000) (h : sgn (t.drop p) = some (c, n)) : P_ulsg [.str t, .int (p : Int)] σ = some (.ref σ.length, σ ++ [AObj.tup [.str [c], .int ((p + n : Nat) : Int)]]) := by
 generalize hs : t.drop p = s at h
 have e1 : ((p : Nat) : Int) + 1 = ((p + 1 : Nat) : Int) := by exact rfl
 have e2 : ((p : Nat) : Int) + 2 = ((p + 2 : Nat) : Int) := by exact rfl
 match s, h with
 | a :: r, h =>
  have i0 := aItem_str σ (by have := at_drop hs 0; rw [Nat.add_zero] at this; rw [this]; rfl : t[p]? = some a) (by exact zK hp (by decide))
  simp only [sgn] at h
  unfold P_ulsg bodyF F_ulsg
  simp only [List.length_cons, List.length_nil, if_true, List.replicate, List.cons_append, List.nil_append]
  by_cases ha : a = 92
  ·rw [if_pos ha] at h
   refine mapQ h fun b hb h => ?_
   cases h
   have i1 := aItem_str σ (by rw [at_drop hs 1]; cases r with | nil => cases hb | cons x r => exact hb : t[p + 1]? = some c) (by exact Nat.lt_succ_of_le (zK hp (by decide)))
   subst ha
   rw [seq_ift (h' := σ) (by simp only [pCmpB, pBin, pVar, pConst, zS, zZ, zB, i0, cEq_i, cEq_s, zM]; rfl)]
   rw [seq_nxt' (by rw [seq_ret (v := .ref σ.length) (h' := σ ++ [AObj.tup [.str [c], .int ((p + 2 : Nat) : Int)]]) (by simp only [pTup, pArgs, pBin, pVar, pConst, zS, zZ, zB, oAdd_i, oAdd_s, e1, e2, i1])])]
   rfl
  ·rw [if_neg ha] at h
   cases h
   rw [seq_iff (h' := σ) (by simp only [pCmpB, pBin, pVar, pConst, zS, zZ, zB, i0, cEq_i, cEq_s, zM]; simp [ha])]
   rw [seq_nil, seq_ret (v := .ref σ.length) (h' := σ ++ [AObj.tup [.str [c], .int ((p + 1 : Nat) : Int)]]) (by simp only [pTup, pArgs, pBin, pVar, pConst, zS, zZ, zB, oAdd_i, oAdd_s, e1, i0])]
   rfl
end QJ
noncomputable section QK
open PySem
set_option maxHeartbeats 1000000
noncomputable def rdPairs : Nat → List (Nat × Nat) → List Nat → Option (List (Nat × Nat) × List Nat)
 | 0, _, _ => none
 | f + 1, ps, s => if (!ps.isEmpty && (s.head? == some 93)) = true then some (ps, s.tail) else
  (sgn s).bind fun cn => match s.drop cn.2 with
   | [] => none
   | x :: r => if x = 45 then (sgn r).bind fun dn => rdPairs f (ps ++ [(cn.1, dn.1)]) (r.drop dn.2) else rdPairs f (ps ++ [(cn.1, cn.1)]) (x :: r)
theorem rdPairs_app (post : List Nat) : ∀ (f : Nat) (ps : List (Nat × Nat)) (s : List Nat) (qs : List (Nat × Nat)) (rest : List Nat), rdPairs f ps s = some (qs, rest) → rdPairs f ps (s ++ post) = some (qs, rest ++ post)
 | 0, _, _, _, _, h => by cases h
 | f + 1, ps, s, qs, rest, h => by
  unfold rdPairs at h ⊢
  have hne : s ≠ [] := by
   intro e
   subst e
   simp [sgn] at h
  have hh : (s ++ post).head? = s.head? := by cases s with | nil => exact absurd rfl hne | cons _ _ => rfl
  rw [hh]
  split at h
  ·rename_i hc
   rw [if_pos hc]
   cases h
   cases s with
   | nil => exact absurd rfl hne
   | cons a r => rfl
  ·rename_i hc
   rw [if_neg hc]
   refine bindP h fun c n e1 e2 => ?_
   obtain ⟨g1, g2, g3⟩ := sgn_app post e1
   rw [g1]
   simp only [zB] at e2 ⊢
   rw [List.drop_append_of_le_length g2]
   cases hd : s.drop n with
   | nil => rw [hd] at e2; cases e2
   | cons x r =>
    rw [hd] at e2
    simp only [List.cons_append] at e2 ⊢
    split at e2
    ·rename_i hx
     rw [if_pos hx]
     refine bindP e2 fun d m e3 e4 => ?_
     obtain ⟨k1, k2, k3⟩ := sgn_app post e3
     rw [k1]
     simp only [zB] at e4 ⊢
     rw [List.drop_append_of_le_length k2]
     exact rdPairs_app post f _ _ _ _ e4
    ·rename_i hx
     rw [if_neg hx]
     exact rdPairs_app post f _ (x :: r) _ _ e2
noncomputable def PairsAt (h : AH) (q : Nat) (ps : List (Nat × Nat)) : Prop := ∃ refs, h[q]? = some (.list refs) ∧ All2 (fun p v => ∃ n, v = .ref n ∧ h[n]? = some (.tup [.str [p.1], .str [p.2]])) ps refs
theorem PairsAt.mono {h h' : AH} (k : Kp h h') {q : Nat} {ps : List (Nat × Nat)} (x : PairsAt h q ps) : PairsAt h' q ps :=
 let ⟨refs, e, a⟩ := x; ⟨refs, k _ _ e, a.imp fun _ _ ⟨n, b, c⟩ => ⟨n, b, k _ _ c⟩⟩
theorem PairsAt.add {h : AH} {q : Nat} {ps : List (Nat × Nat)} (x : PairsAt h q ps) (lo hi : Nat) (hl : ps.length ≤ 1000000) : ∃ h', mAppend (.ref q) [.ref h.length] (h ++ [AObj.tup [.str [lo], .str [hi]]]) = some (.none, h') ∧ PairsAt h' q (ps ++ [(lo, hi)]) ∧ (∀ i o, i ≠ q → h[i]? = some o → h'[i]? = some o) := by
 refine xEA x fun refs e a => ?_
 have k := Kp.app h [AObj.tup [.str [lo], .str [hi]]]
 have hq := (zC e).1
 have st : ∀ i o, i ≠ q → (h ++ [AObj.tup [.str [lo], .str [hi]]])[i]? = some o → ((h ++ [AObj.tup [.str [lo], .str [hi]]]).set q (.list (refs ++ [.ref h.length])))[i]? = some o := fun i o n e => by rw [set_ne _ n]; exact e
 refine ⟨_, mAppend_ok _ (k _ _ e) (by rw [a.len]; exact hl), ⟨_, set_get (k _ _ e), ?_⟩, fun i o n e => st i o n (k _ _ e)⟩
 refine All2.snoc (x := (lo, hi)) (y := .ref h.length) (R := fun p v => ∃ n, v = .ref n ∧ ((h ++ [AObj.tup [.str [lo], .str [hi]]]).set q (.list (refs ++ [.ref h.length])))[n]? = some (.tup [.str [p.1], .str [p.2]])) ⟨_, rfl, st _ _ (by exact Nat.ne_of_gt hq) (get_new _ _)⟩ (a.imp fun p v ⟨n, b, c⟩ => ⟨n, b, st _ _ (fun en => ?_) (k _ _ c)⟩)
 rw [en, e] at c; cases c
noncomputable def clT : PB := (pOrB (pNot (pTruth (pVar 4))) (pCmpB cNe (pBin aItem (pVar 1) (pVar 2)) (pConst (.str [93]))))
noncomputable def clB : PS := (sSeq (sUnp [5, 2] (pCall (P_ulsg) [pVar 1, pVar 2])) (sSeq (sAsg 6 (pVar 5)) (sSeq (sIf (pCmpB cEq (pBin aItem (pVar 1) (pVar 2)) (pConst (.str [45]))) (sSeq (sUnp [6, 2] (pCall (P_ulsg) [pVar 1, (pBin oAdd (pVar 2) (pConst (.int 1)))])) (sNil)) (sNil)) (sSeq (sExpr (pMeth .list mAppend (pVar 4) [(pTup [pVar 5, pVar 6])])) (sNil)))))
theorem F_cl_eq : F_ulcl = (sSeq (sAsg 3 (pCmp cEq (pBin aItem (pVar 1) (pBin oAdd (pVar 2) (pConst (.int 1)))) (pConst (.str [94])))) (sSeq (sAug 2 oAdd (pIte (pTruth (pVar 3)) (pConst (.int 2)) (pConst (.int 1)))) (sSeq (sAsg 4 (pList [])) (sSeq (sWhile clT clB) (sSeq (sRet (pTup [(pTup [pVar 3, pVar 4]), (pBin oAdd (pVar 2) (pConst (.int 1)))])) (sNil)))))) := rfl
theorem unp_sign {t : List Nat} {p c n : Nat} {l l' : List AV} {σ : AH} {f : List PE} {is : List Nat} (hp : p < 100000) (h : sgn (t.drop p) = some (c, n)) (ha : pArgs f l σ = some ([.str t, .int (p : Int)], σ)) (hl : is.length = 2) (hs : sets l is [.str [c], .int ((p + n : Nat) : Int)] = l') (g : PS) :
  sSeq (sUnp is (pCall P_ulsg f)) g l σ = g l' (σ ++ [AObj.tup [.str [c], .int ((p + n : Nat) : Int)]]) := by
 apply seq_nxt
 have hg := get_new σ (AObj.tup [.str [c], .int ((p + n : Nat) : Int)])
 simp only [sUnp, pCall, ha, zB, sign_spec σ hp h, hg, hl, List.length_cons, List.length_nil, if_true, hs]
theorem class_turn {t : List Nat} {p q : Nat} {b : AV} {a5 a6 : AV} {h : AH} {s : List Nat} {c n x : Nat} {r : List Nat} {ps : List (Nat × Nat)} (hs : t.drop p = s) (ht : t.length < 90000) (hc : sgn s = some (c, n)) (hx : s.drop n = x :: r) (hP : PairsAt h q ps) (hpl : ps.length ≤ 1000) {hi m : Nat} {s' : List Nat} {p' : Nat}
  (hcase : (x = 45 ∧ sgn r = some (hi, m) ∧ s' = r.drop m ∧ p' = p + n + 1 + m) ∨ (x ≠ 45 ∧ hi = c ∧ s' = x :: r ∧ p' = p + n)) :
  ∃ h', clB [.undef, .str t, .int (p : Int), b, .ref q, a5, a6] h = some (.nxt, [.undef, .str t, .int (p' : Int), b, .ref q, .str [c], .str [hi]], h') ∧ t.drop p' = s' ∧ PairsAt h' q (ps ++ [(c, hi)]) ∧ (∀ i o, i ≠ q → h[i]? = some o → h'[i]? = some o) := by
 have hp := drop_lt hs (by intro e; subst e; cases hc)
 have hd1 : t.drop (p + n) = x :: r := by rw [drop_more hs n]; exact hx
 have hp1 := drop_lt hd1 (by simp)
 have i1 := aItem_str (t := t) (i := p + n) (c := x) (h ++ [AObj.tup [.str [c], .int ((p + n : Nat) : Int)]]) (by have := at_drop hd1 0; rw [Nat.add_zero] at this; rw [this]; rfl) (by exact Nat.lt_trans hp1 (zK ht (by decide)))
 have k1 := Kp.app h [AObj.tup [.str [c], .int ((p + n : Nat) : Int)]]
 have e1 : ((p + n : Nat) : Int) + 1 = ((p + n + 1 : Nat) : Int) := by exact rfl
 have hit : ∀ (v5 v6 : AV), pCmpB cEq (pBin aItem (pVar 1) (pVar 2)) (pConst (.str [45])) [.undef, .str t, .int ((p + n : Nat) : Int), b, .ref q, v5, v6] (h ++ [AObj.tup [.str [c], .int ((p + n : Nat) : Int)]]) = some ([x] == [45], h ++ [AObj.tup [.str [c], .int ((p + n : Nat) : Int)]]) := fun v5 v6 => by
  simp only [pCmpB, pBin, pVar, pConst, zS, zZ, zB, i1, cEq_i, cEq_s, zM]
 have hend : ∀ (pp : Int) (lo hi : Nat) (h2 : AH), PairsAt h2 q ps → ∃ h', sSeq (sExpr (pMeth .list mAppend (pVar 4) [pTup [pVar 5, pVar 6]])) sNil [.undef, .str t, .int pp, b, .ref q, .str [lo], .str [hi]] h2 = some (.nxt, [.undef, .str t, .int pp, b, .ref q, .str [lo], .str [hi]], h') ∧
   PairsAt h' q (ps ++ [(lo, hi)]) ∧ (∀ i o, i ≠ q → h2[i]? = some o → h'[i]? = some o) := fun pp lo hi h2 hP2 => by
  refine xEAA (hP2.add lo hi (by exact zG hpl (by decide))) fun h' f1 f2 f3 => ?_
  refine xEA hP2 fun refs e _ => ?_
  refine ⟨h', ?_, f2, f3⟩
  rw [seq_expr (h' := h') (by simp only [pMeth, pVar, pArgs, pTup, SKind.ok, zS, zZ, zB, e, if_true, f1])]
  rfl
 unfold clB
 rw [unp_sign (l' := [.undef, .str t, .int ((p + n : Nat) : Int), b, .ref q, .str [c], a6]) (by exact Nat.lt_trans hp (zK ht (by decide))) (by rw [hs]; exact hc) (by simp only [pArgs, pVar, zS, zZ, zB]) rfl rfl]
 rw [seq_asg (v := .str [c]) (h' := h ++ [AObj.tup [.str [c], .int ((p + n : Nat) : Int)]]) (by simp only [pVar, zS, zZ])]
 simp only [zU, zV]
 rcases hcase with ⟨rfl, c1, rfl, rfl⟩ | ⟨c0, rfl, rfl, rfl⟩
 ·have hd2 : t.drop (p + n + 1) = r := by rw [drop_more hd1 1]; rfl
  rw [seq_ift (h' := h ++ [AObj.tup [.str [c], .int ((p + n : Nat) : Int)]]) (by rw [hit]; rfl)]
  rw [seq_seq (l' := [.undef, .str t, .int ((p + n + 1 + m : Nat) : Int), b, .ref q, .str [c], .str [hi]]) (h' := h ++ [AObj.tup [.str [c], .int ((p + n : Nat) : Int)]] ++ [AObj.tup [.str [hi], .int ((p + n + 1 + m : Nat) : Int)]]) (o := .nxt) (by
   rw [unp_sign (p := p + n + 1) (l' := [.undef, .str t, .int ((p + n + 1 + m : Nat) : Int), b, .ref q, .str [c], .str [hi]]) (by lia) (by rw [hd2]; exact c1) (by simp only [pArgs, pBin, pVar, pConst, zS, zZ, zB, oAdd_i, oAdd_s, e1]) rfl rfl]
   rfl)]
  have k2 := Kp.app (h ++ [AObj.tup [.str [c], .int ((p + n : Nat) : Int)]]) [AObj.tup [.str [hi], .int ((p + n + 1 + m : Nat) : Int)]]
  refine xEAA (hend ((p + n + 1 + m : Nat) : Int) c hi _ ((hP.mono k1).mono k2)) fun h' f1 f2 f3 => ?_
  exact ⟨h', f1, by rw [drop_more hd2 m], f2, fun i o n e => f3 i o n (k2 _ _ (k1 _ _ e))⟩
 ·rw [seq_iff (h' := h ++ [AObj.tup [.str [hi], .int ((p + n : Nat) : Int)]]) (by rw [hit]; simp [c0])]
  rw [seq_nil]
  refine xEAA (hend ((p + n : Nat) : Int) hi hi _ (hP.mono k1)) fun h' f1 f2 f3 => ?_
  exact ⟨h', f1, hd1, f2, fun i o n e => f3 i o n (k1 _ _ e)⟩
end QK
noncomputable section QL
open PySem
set_option maxHeartbeats 1000000
theorem clT_eval {t : List Nat} {p q : Nat} {b a5 a6 : AV} {h : AH} {s : List Nat} {ps : List (Nat × Nat)} (hs : t.drop p = s) (ht : t.length < 90000) (hne : s ≠ []) (hP : PairsAt h q ps) (hpl : ps.length ≤ 1000) :
  clT [.undef, .str t, .int (p : Int), b, .ref q, a5, a6] h = some (!(!ps.isEmpty && (s.head? == some 93)), h) := by
 refine xEA hP fun refs e a => ?_
 have hl : refs.length ≤ 1000000 := by rw [a.len]; exact zG hpl (by decide)
 have hp := drop_lt hs hne
 obtain ⟨x, s', rfl⟩ : ∃ x s', s = x :: s' := by cases s with | nil => exact absurd rfl hne | cons x s' => exact ⟨x, s', rfl⟩
 have i1 := aItem_str (t := t) (i := p) (c := x) h (by have := at_drop hs 0; rw [Nat.add_zero] at this; rw [this]; rfl) (by exact Nat.lt_trans hp (zK ht (by decide)))
 have hie : refs.isEmpty = ps.isEmpty := by
  have := a.len
  cases refs <;> cases ps <;> simp_all
 unfold clT
 simp only [pOrB, pNot, pTruth, pVar, zS, zZ, zB, aTruth, e, hl, if_true, zM, hie, pCmpB, pBin, pConst, i1, cNe_s, cNe_r]
 cases hpe : ps.isEmpty with
 | true => simp
 | false =>
  simp only [Bool.not_false, Bool.true_and, Bool.not_true, Bool.false_eq_true, if_false, List.head?_cons]
  congr 2
  rw [Bool.eq_iff_iff]
  simp [bne]
theorem class_loop {t : List Nat} {q : Nat} {b : AV} (ht : t.length < 90000) : ∀ (f F : Nat) (ps : List (Nat × Nat)) (s : List Nat) (qs : List (Nat × Nat)) (rest : List Nat) (p : Nat) (h : AH) (a5 a6 : AV), rdPairs f ps s = some (qs, rest) → t.drop p = s → f ≤ F → PairsAt h q ps → ps.length + f ≤ 1000 →
  ∃ (p' : Nat) (a5' a6' : AV) (h' : AH), wLoop clT clB F [.undef, .str t, .int (p : Int), b, .ref q, a5, a6] h = some (.nxt, [.undef, .str t, .int (p' : Int), b, .ref q, a5', a6'], h') ∧ t.drop (p' + 1) = rest ∧ PairsAt h' q qs ∧ (∀ i o, i ≠ q → h[i]? = some o → h'[i]? = some o)
 | 0, _, _, _, _, _, _, _, _, _, h, _, _, _, _ => by cases h
 | f + 1, F, ps, s, qs, rest, p, h, a5, a6, hr, hs, hF, hP, hpl => by
  obtain ⟨F, rfl⟩ : ∃ F', F = F' + 1 := ⟨F - 1, by exact o65 (o20 (Nat.sub_add_cancel hF))⟩
  have hne : s ≠ [] := by
   intro e
   subst e
   simp [rdPairs, sgn] at hr
  have hT := clT_eval (b := b) (a5 := a5) (a6 := a6) hs ht hne hP (by exact o56 hpl)
  unfold rdPairs at hr
  unfold wLoop
  rw [hT]
  split at hr
  ·rename_i hc
   cases hr
   refine ⟨p, a5, a6, h, ?_, ?_, hP, fun _ _ _ e => e⟩
   ·rw [hc]; simp
   ·rw [drop_more hs 1]; simp
  ·rename_i hc
   have hc' : (!(!ps.isEmpty && (s.head? == some 93))) = true := by rw [eq_false_of_ne_true hc]; rfl
   refine bindP hr fun c n e1 e2 => ?_
   simp only at e2
   rw [hc']
   simp only [zB, if_true]
   cases hd : s.drop n with
   | nil => rw [hd] at e2; cases e2
   | cons x r =>
    rw [hd] at e2
    simp only at e2
    split at e2
    ·rename_i hx
     refine bindP e2 fun d m e3 e4 => ?_
     obtain ⟨h', g1, g2, g3, g4⟩ := class_turn (b := b) (a5 := a5) (a6 := a6) hs ht e1 hd hP (by exact o56 hpl) (.inl ⟨hx, e3, rfl, rfl⟩)
     rw [g1]
     simp only [zB]
     obtain ⟨p', a5', a6', h2, k1, k2, k3, k4⟩ := class_loop ht f F _ _ qs rest _ h' (.str [c]) (.str [d]) e4 g2 (by exact Nat.le_of_lt_succ hF) g3 (by simp; exact o11 hpl)
     exact ⟨p', a5', a6', h2, k1, k2, k3, fun i o n e => k4 i o n (g4 i o n e)⟩
    ·rename_i hx
     obtain ⟨h', g1, g2, g3, g4⟩ := class_turn (b := b) (a5 := a5) (a6 := a6) (m := 0) hs ht e1 hd hP (by exact o56 hpl) (.inr ⟨hx, rfl, rfl, rfl⟩)
     rw [g1]
     simp only [zB]
     obtain ⟨p', a5', a6', h2, k1, k2, k3, k4⟩ := class_loop ht f F _ _ qs rest _ h' (.str [c]) (.str [c]) e2 g2 (by exact Nat.le_of_lt_succ hF) g3 (by simp; exact o11 hpl)
     exact ⟨p', a5', a6', h2, k1, k2, k3, fun i o n e => k4 i o n (g4 i o n e)⟩
noncomputable def clsRd (s : List Nat) : Option ((Bool × List (Nat × Nat)) × List Nat) := match s with
 | _ :: a :: r => (rdPairs 100 [] (if a = 94 then r else a :: r)).map fun p => ((decide (a = 94), p.1), p.2)
 | _ => none
theorem clsRd_app {s rest : List Nat} {j : Bool × List (Nat × Nat)} (post : List Nat) (h : clsRd s = some (j, rest)) : clsRd (s ++ post) = some (j, rest ++ post) := by
 match s, h with
 | x :: a :: r, h =>
  refine mapP h fun ps rs e1 e2 => ?_
  cases e2
  simp only [List.cons_append, clsRd]
  have := rdPairs_app post _ _ _ _ _ e1
  by_cases ha : a = 94
  ·rw [if_pos ha] at this ⊢
   rw [this]; rfl
  ·rw [if_neg ha] at this ⊢
   rw [List.cons_append] at this
   rw [this]; rfl
noncomputable def JudgeAt (z : Nat) (h : AH) (j : Nat) (J : Bool × List (Nat × Nat)) : Prop := ∃ q, z < q ∧ h[j]? = some (.tup [.bool J.1, .ref q]) ∧ PairsAt h q J.2
theorem JudgeAt.mono {z : Nat} {h h' : AH} (k : Kp h h') {j : Nat} {J : Bool × List (Nat × Nat)} (x : JudgeAt z h j J) : JudgeAt z h' j J := let ⟨q, z, a, b⟩ := x; ⟨q, z, k _ _ a, b.mono k⟩
theorem class_spec {t rest : List Nat} {p z : Nat} {J : Bool × List (Nat × Nat)} {h : AH} (hz : z < h.length) (ht : t.length < 90000) (hr : clsRd (t.drop p) = some (J, rest)) :
  ∃ (r j p' : Nat) (h' : AH), P_ulcl [.str t, .int (p : Int)] h = some (.ref r, h') ∧ h'[r]? = some (.tup [.ref j, .int (p' : Nat)]) ∧ JudgeAt z h' j J ∧ Kp h h' ∧ t.drop p' = rest := by
 generalize hs : t.drop p = s at hr
 match s, hr with
 | x :: a :: r, hr =>
  refine mapP hr fun ps rs e1 e2 => ?_
  cases e2
  have hp := drop_lt hs (by simp)
  have eI : ((p : Nat) : Int) + 1 = ((p + 1 : Nat) : Int) := by exact rfl
  have i1 := aItem_str (t := t) (i := p + 1) (c := a) h (by rw [at_drop hs 1]; rfl) (by lia)
  generalize hp2 : (if a = 94 then p + 2 else p + 1) = p2
  have hd2 : t.drop p2 = if a = 94 then r else a :: r := by
   rw [← hp2]
   split
   ·rw [drop_more hs 2]; rfl
   ·rw [drop_more hs 1]; rfl
  have kA := Kp.app h [AObj.list []]
  obtain ⟨p', a5', a6', h', g1, g2, g3, g4⟩ := class_loop (b := .bool (decide (a = 94))) (q := h.length) ht 100 FUEL [] _ ps rs p2 (h ++ [AObj.list []]) .undef .undef e1 hd2 (by unfold FUEL; exact (by decide)) ⟨[], get_new _ _, trivial⟩ (by simp)
  have kB : Kp h h' := fun i o e => g4 i o (by have := (zC e).1; exact o26 this) (kA _ _ e)
  have k1 := Kp.app h' [AObj.tup [.bool (decide (a = 94)), .ref h.length]]
  have k2 := Kp.app (h' ++ [AObj.tup [.bool (decide (a = 94)), .ref h.length]]) [AObj.tup [.ref h'.length, .int ((p' + 1 : Nat) : Int)]]
  have e3 : ((p' : Nat) : Int) + 1 = ((p' + 1 : Nat) : Int) := by exact rfl
  refine ⟨(h' ++ [AObj.tup [.bool (decide (a = 94)), .ref h.length]]).length, h'.length, p' + 1, _, ?_, get_new _ _, ⟨h.length, hz, k2 _ _ (get_new _ _), (g3.mono k1).mono k2⟩, kB.trans (k1.trans k2), g2⟩
  unfold P_ulcl bodyF
  rw [F_cl_eq]
  simp only [List.length_cons, List.length_nil, if_true, List.replicate, List.cons_append, List.nil_append]
  rw [seq_asg (v := .bool (decide (a = 94))) (h' := h) (by
   simp only [pCmp, pBin, pVar, pConst, aB, zS, zZ, zB, oAdd_i, oAdd_s, eI, i1, cEq_i, cEq_s, zM]
   by_cases ha : a = 94 <;> simp [ha])]
  simp only [zU, zV]
  rw [seq_nxt (l' := [.undef, .str t, .int (p2 : Nat), .bool (decide (a = 94)), .undef, .undef, .undef]) (h' := h) (by
   have e4 : ((p : Nat) : Int) + 2 = ((p + 2 : Nat) : Int) := by exact rfl
   simp only [sAug, pVar, pIte, pTruth, aTruth, pConst, zS, zZ, zB, zM]
   rw [← hp2]
   by_cases ha : a = 94
   ·simp only [ha, decide_true, if_true, zB, oAdd_i, oAdd_s, zM, zU, zV, e4]
   ·simp only [ha, decide_false, Bool.false_eq_true, if_false, zB, oAdd_i, oAdd_s, zM, zU, zV, eI])]
  rw [seq_asg (v := .ref h.length) (h' := h ++ [AObj.list []]) rfl]
  simp only [zU, zV]
  rw [seq_nxt (f := sWhile _ _) g1]
  rw [seq_ret (v := .ref (h' ++ [AObj.tup [.bool (decide (a = 94)), .ref h.length]]).length) (h' := h' ++ [AObj.tup [.bool (decide (a = 94)), .ref h.length]] ++ [AObj.tup [.ref h'.length, .int ((p' + 1 : Nat) : Int)]]) (by
   simp only [pTup, pArgs, pVar, pBin, pConst, zS, zZ, zB, oAdd_i, oAdd_s, e3])]
  rfl
end QL
noncomputable section QM
open PySem
set_option maxHeartbeats 1000000
noncomputable def inPair (c : Nat) (p : Nat × Nat) : Bool := !decide (c < p.1) && !decide (p.2 < c)
noncomputable def wth (J : Bool × List (Nat × Nat)) (c : Nat) : Bool := J.1 != !(J.2.filter (inPair c)).isEmpty
theorem one_lt (a b : Nat) : (decide ([a] < [b])) = decide (a < b) := by
 rw [Bool.eq_iff_iff]
 simp [List.cons_lt_cons_iff]
theorem within_spec {z : Nat} {h : AH} {j : Nat} {J : Bool × List (Nat × Nat)} {c : Nat} (hJ : JudgeAt z h j J) (ho : ∀ p ∈ J.2, p.1 < 128) (hl : J.2.length < 1000) : ∃ h', P_ulwi [.ref j, .str [c]] h = some (.bool (wth J c), h') ∧ Kp h h' := by
 obtain ⟨q, _, e1, refs, e2, ha⟩ := hJ
 obtain ⟨h1, ys, c1, c2, c3, c4⟩ := pComp_gen (k := 3) (g := iOf (pVar 4)) (tg := .tup [1, 2]) (t := pCmp2B cLe cLe (pVar 1) (pVar 5) (pVar 2)) (elt := pVar 1) (l := [.undef, .ref j, .str [c], .bool J.1, .ref q]) (σ₀ := h) (σ := h) (fun i => .one (.list q i)) J.2
  (fun p => [.undef, .str [p.1], .str [p.2]]) (inPair c) (fun p v _ => v = .str [p.1]) (by decide)
  (by simp only [iOf, pVar, zS, zZ, zB, aIter, e2, zM])
  (fun _ => rfl) (fun _ => ⟨rfl, rfl⟩)
  (fun σ' k i p hp => by
   obtain ⟨v, hv, n, rfl, hn⟩ := ha.get hp
   refine ⟨.ref n, σ', next_list (k _ _ e2) i hv, .refl _, fun qq hq => ?_⟩
   obtain ⟨q1, q2⟩ := hq
   obtain ⟨x, y, z, rfl⟩ := len3 q1; cases Option.some.inj q2
   simp only [aBind, k _ _ hn, List.length_cons, List.length_nil, if_true, sets, List.cons_append, List.nil_append, zU, zV])
  (fun σ' k => ⟨_, by have := next_list_end (k _ _ e2); rw [ha.len] at this; exact this⟩)
  (fun p hp σ' k => ⟨σ', .refl _, by
   simp only [List.cons_append, List.nil_append, pCmp2B, pVar, zS, zZ, zB, cLe_i, cLe_s, one_lt, inPair]
   by_cases x : c < p.1 <;> simp [x]⟩)
  (fun p hp _ σ' k _ => ⟨.str [p.1], σ', .refl _, rfl, rfl⟩)
  (fun _ _ _ _ e _ => e) (by exact zK hl (by decide))
 have hys : ys = aSs ((J.2.filter (inPair c)).map fun p => [p.1]) := by
  rw [All2.eq_map c4]; simp [aSs, Function.comp_def]
 rw [hys] at c3
 have k1 := Kp.app h1 [AObj.list []]
 have hn := cNe_nil (h := h1 ++ [AObj.list []]) (a := h.length) (b := h1.length) (k1 _ _ c3) (get_new _ _) (fun w hw => by
  refine xEA (List.mem_map.mp hw) fun p hp hrf => ?_; subst hrf
  intro d hd
  rw [zL hd]
  exact ho p (List.mem_filter.mp hp).1)
 refine ⟨h1 ++ [AObj.list []], ?_, c2.trans k1⟩
 unfold P_ulwi bodyF F_ulwi
 simp only [List.length_cons, List.length_nil, if_true, List.replicate, List.cons_append, List.nil_append]
 rw [seq_nxt (l' := [.undef, .ref j, .str [c], .bool J.1, .ref q]) (h' := h) (by
  simp only [sUnp, pVar, zS, zZ, zB, e1, List.length_cons, List.length_nil, if_true, sets, zU, zV])]
 rw [seq_ret (v := .bool (wth J c)) (h' := h1 ++ [AObj.list []]) (by
  have cb : ∀ a b h, cNe (.bool a) (.bool b) h = some (a != b) := fun _ _ _ => rfl
  simp only [pCmp, pBin, aB, pVar, zS, zZ, zB, c1, pList, pArgs, hn, zM, cb, List.isEmpty_map]
  rfl)]
 rfl
noncomputable def Judges (z : Nat) (h : AH) (refs : List AV) (js : List (Bool × List (Nat × Nat))) : Prop := All2 (fun J v => ∃ n, v = .ref n ∧ JudgeAt z h n J) js refs
theorem Judges.mono {z : Nat} {h h' : AH} (k : Kp h h') {refs : List AV} {js : List (Bool × List (Nat × Nat))} (x : Judges z h refs js) : Judges z h' refs js := x.imp fun _ _ ⟨n, a, b⟩ => ⟨n, a, b.mono k⟩
noncomputable def csT : PB := (pAndB (pCmpB cEq (pBin oAdd (pSlice (pVar 1) none (some (pConst (.int 4)))) (pSlice (pVar 1) (some (pNeg (pConst (.int 3)))) none)) (pConst (.str [40, 63, 115, 58, 41, 92, 90]))) (pCmpB cEq (pBin aItem (pVar 1) (pVar 3)) (pConst (.str [91]))))
noncomputable def csB : PS := (sSeq (sUnp [4, 3] (pCall (P_ulcl) [pVar 1, pVar 3])) (sSeq (sExpr (pMeth .list mAppend (pVar 2) [pVar 4])) (sNil)))
theorem F_cs_eq : F_ulcs = (sSeq (sSwap [2, 3] (pTup [(pList []), (pConst (.int 4))])) (sSeq (sWhile csT csB) (sSeq (sRet (pIte (pCmpB cEq (pVar 3) (pBin oSub (pCall fLen [pVar 1]) (pConst (.int 3)))) (pVar 2) (pList []))) (sNil)))) := rfl
noncomputable def wrapT (mid : List Nat) : List Nat := [40, 63, 115, 58] ++ mid ++ [41, 92, 90]
theorem csT_eval {mid : List Nat} {p x : Nat} {r : List Nat} {a2 a4 : AV} (h : AH) (hm : mid.length < 80000) (hs : (wrapT mid).drop p = x :: r) : csT [.undef, .str (wrapT mid), a2, .int (p : Int), a4] h = some ([x] == [91], h) := by
 have hlen : (wrapT mid).length = mid.length + 7 := by simp [wrapT]
 have hp := drop_lt hs (by simp)
 have hle : (wrapT mid).length ≤ 1000000 := by exact o37 hm hlen
 have i1 := aItem_str (t := wrapT mid) (i := p) (c := x) h (by have := at_drop hs 0; rw [Nat.add_zero] at this; rw [this]; rfl) (by lia)
 have s1 : aSl (wrapT mid) none (some 4) = [40, 63, 115, 58] := by
  have : clipN 4 (wrapT mid).length = 4 := clip_of (k := 4) (by rw [hlen]; exact Nat.le_add_left 4 (mid.length + 3))
  simp only [aSl, Option.elim, this, List.drop_zero]
  unfold wrapT
  simp
 have s2 : aSl (wrapT mid) (some (-3)) none = [41, 92, 90] := by
  have : clipN (-3) (wrapT mid).length = mid.length + 4 := by unfold clipN; rw [hlen]; lia
  simp only [aSl, Option.elim, this, List.take_length]
  unfold wrapT
  rw [show mid.length + 4 = ([40, 63, 115, 58] ++ mid).length by simp]
  simp
 have hle2 : [40, 63, 115, 58].length + [41, 92, 90].length ≤ 1000000 := by decide
 have cs : ∀ a b h, cEq (.str a) (.str b) h = some (a == b) := fun _ _ _ => rfl
 have e7 : ([40, 63, 115, 58] ++ [41, 92, 90] == [40, 63, 115, 58, 41, 92, 90]) = true := by decide
 unfold csT
 simp only [pAndB, pCmpB, pBin, pSlice, pPart, pVar, pConst, pNeg, zS, zZ, zB, aSlice, hle, if_true, s1, s2, oAdd_i, oAdd_s, hle2, cs, zM, e7, i1]
theorem classes_loop {mid : List Nat} {σ₀ : AH} {q : Nat} (hm : mid.length < 80000) (hq : σ₀.length ≤ q) : ∀ (cs : List (List Nat)) (js : List (Bool × List (Nat × Nat))) (F p : Nat) (h : AH) (refs : List AV) (js₀ : List (Bool × List (Nat × Nat))) (a4 : AV), All2 (fun s J => clsRd s = some (J, []) ∧ s.head? = some 91) cs js → cs.length < F →
  (wrapT mid).drop p = cs.flatten ++ [41, 92, 90] → Kp σ₀ h → h[q]? = some (.list refs) → Judges q h refs js₀ → js₀.length + cs.length < 1000 →
  ∃ (a4' : AV) (refs' : List AV) (h' : AH), wLoop csT csB F [.undef, .str (wrapT mid), .ref q, .int (p : Int), a4] h = some (.nxt, [.undef, .str (wrapT mid), .ref q, .int ((mid.length + 4 : Nat) : Int), a4'], h') ∧ Kp σ₀ h' ∧ h'[q]? = some (.list refs') ∧ Judges q h' refs' (js₀ ++ js)
 | [], [], F, p, h, refs, js₀, a4, _, hF, hs, hk, hl, hJ, _ => by
  obtain ⟨F, rfl⟩ : ∃ F', F = F' + 1 := ⟨F - 1, by simp at hF; exact o65 hF⟩
  have hs : (wrapT mid).drop p = [41, 92, 90] := hs
  have hT := csT_eval (a2 := .ref q) (a4 := a4) h hm hs
  have hp : p = mid.length + 4 := by
   have h1 : ((wrapT mid).drop p).length = 3 := by rw [hs]; rfl
   rw [List.length_drop] at h1
   simp [wrapT] at h1
   omega
  subst hp
  refine ⟨a4, refs, h, ?_, hk, hl, by rwa [List.append_nil]⟩
  unfold wLoop
  rw [hT]
  rfl
 | s :: cs, J :: js, F, p, h, refs, js₀, a4, ⟨⟨h1, h2⟩, h3⟩, hF, hs, hk, hl, hJ, hn => by
  obtain ⟨F, rfl⟩ : ∃ F', F = F' + 1 := ⟨F - 1, by simp at hF; exact o65 hF⟩
  rw [List.flatten_cons, List.append_assoc] at hs
  obtain ⟨x, r, hxr⟩ : ∃ x r, s = x :: r := by cases s with | nil => cases h2 | cons x r => exact ⟨x, r, rfl⟩
  have hx : x = 91 := by rw [hxr] at h2; simpa using h2
  have hT := csT_eval (a2 := .ref q) (a4 := a4) h hm (by rw [hs, hxr]; rfl)
  have hlen : (wrapT mid).length = mid.length + 7 := by simp [wrapT]
  obtain ⟨rr, j, p', h', g1, g2, g3, g4, g5⟩ := class_spec (z := q) (t := wrapT mid) (p := p) (h := h) (zC hl).1 (by lia) (by rw [hs]; exact clsRd_app (cs.flatten ++ [41, 92, 90]) h1)
  have hl' := g4 _ _ hl
  have hrl : refs.length ≤ 1000000 := by rw [All2.len hJ]; simp at hn; exact o56 (Nat.le_of_lt (zK hn (by decide)))
  have hst : ∀ i o, i ≠ q → h'[i]? = some o → (h'.set q (AObj.list (refs ++ [AV.ref j])))[i]? = some o := fun i o n e => by rw [set_ne _ n]; exact e
  have htq : ∀ i xs, h'[i]? = some (AObj.tup xs) → (h'.set q (AObj.list (refs ++ [AV.ref j])))[i]? = some (AObj.tup xs) := fun i xs e => hst i _ (fun en => by rw [en, hl'] at e; cases e) e
  have hJst : ∀ n J, JudgeAt q h' n J → JudgeAt q (h'.set q (AObj.list (refs ++ [AV.ref j]))) n J := fun n J hj => by
   obtain ⟨k, hz, e1, refs2, e2, e3⟩ := hj
   exact ⟨k, hz, htq _ _ e1, refs2, hst _ _ (by exact Nat.ne_of_gt hz) e2, e3.imp fun p v ⟨m, a, b⟩ => ⟨m, a, htq _ _ b⟩⟩
  have hB : csB [.undef, .str (wrapT mid), .ref q, .int (p : Int), a4] h = some (.nxt, [.undef, .str (wrapT mid), .ref q, .int ((p' : Nat) : Int), .ref j], h'.set q (AObj.list (refs ++ [AV.ref j]))) := by
   unfold csB
   rw [seq_nxt (l' := [.undef, .str (wrapT mid), .ref q, .int ((p' : Nat) : Int), .ref j]) (h' := h') (by
    simp only [sUnp, pCall, pArgs, pVar, zS, zZ, zB, g1, g2, List.length_cons, List.length_nil, if_true, sets, zU, zV])]
   rw [seq_expr (h' := h'.set q (AObj.list (refs ++ [AV.ref j]))) (by
    simp only [pMeth, pVar, pArgs, SKind.ok, zS, zZ, zB, hl', if_true, mAppend_ok _ hl' hrl])]
   rfl
  have hJ' : Judges q (h'.set q (AObj.list (refs ++ [AV.ref j]))) (refs ++ [.ref j]) (js₀ ++ [J]) :=
   All2.snoc (x := J) (y := .ref j) (R := fun (J : Bool × List (Nat × Nat)) (v : AV) => ∃ n, v = .ref n ∧ JudgeAt q (h'.set q (AObj.list (refs ++ [AV.ref j]))) n J) ⟨j, rfl, hJst _ _ g3⟩ (hJ.imp fun J v ⟨n, a, b⟩ => ⟨n, a, hJst _ _ (b.mono g4)⟩)
  obtain ⟨a4', refs', h2, k1, k2, k3, k4⟩ := classes_loop hm hq cs js F p' _ _ _ (.ref j) h3 (by simp at hF; omega) g5 ((hk.trans g4).set hq _) (set_get hl') hJ' (by simp at hn ⊢; lia)
  refine ⟨a4', refs', h2, ?_, k2, k3, by rwa [List.append_assoc] at k4⟩
  unfold wLoop
  rw [hT, hx]
  simp only [zB, show ([91] == [91]) = true from rfl, if_true, hB]
  exact k1
theorem classes_spec {mid : List Nat} {h : AH} {cs : List (List Nat)} {js : List (Bool × List (Nat × Nat))} (hm : mid.length < 80000) (hc : All2 (fun s J => clsRd s = some (J, []) ∧ s.head? = some 91) cs js) (hcl : cs.length < 900) (he : mid = cs.flatten) :
  ∃ (o : Nat) (refs : List AV) (h' : AH), P_ulcs [.str (wrapT mid)] h = some (.ref o, h') ∧ Kp h h' ∧ h.length ≤ o ∧ h'[o]? = some (.list refs) ∧ Judges o h' refs js := by
 have kA := Kp.app h [AObj.list []]
 have kB := Kp.app (h ++ [AObj.list []]) [AObj.tup [.ref h.length, .int 4]]
 have hd : (wrapT mid).drop 4 = cs.flatten ++ [41, 92, 90] := by rw [← he]; rfl
 obtain ⟨a4', refs', h2, k1, k2, k3, k4⟩ := classes_loop (σ₀ := h) (q := h.length) hm (Nat.le_refl _) cs js FUEL 4 (h ++ [AObj.list []] ++ [AObj.tup [.ref h.length, .int 4]]) [] [] .undef hc (by unfold FUEL; exact zK hcl (by decide)) hd (kA.trans kB) (kB _ _ (get_new _ _)) trivial (by simpa using by exact zK hcl (by decide))
 change wLoop csT csB FUEL [.undef, .str (wrapT mid), .ref h.length, .int 4, .undef] _ = _ at k1
 have hlen : (wrapT mid).length = mid.length + 7 := by simp [wrapT]
 have hle : (wrapT mid).length ≤ 1000000 := by exact o37 hm hlen
 refine ⟨h.length, refs', h2, ?_, k2, Nat.le_refl _, k3, k4⟩
 unfold P_ulcs bodyF
 rw [F_cs_eq]
 simp only [List.length_cons, List.length_nil, if_true, List.replicate, List.cons_append, List.nil_append]
 rw [seq_nxt (l' := [.undef, .str (wrapT mid), .ref h.length, .int 4, .undef]) (h' := h ++ [AObj.list []] ++ [AObj.tup [.ref h.length, .int 4]]) (by
  simp only [sSwap, pTup, pArgs, pList, pConst, zB, get_new, List.length_cons, List.length_nil, if_true, List.reverse_cons, List.reverse_nil, List.nil_append, List.cons_append, sets, zU, zV])]
 rw [seq_nxt (f := sWhile _ _) k1]
 have e3 : (((mid.length + 4 : Nat) : Int) == (((mid.length + 7 : Nat) : Int) - 3)) = true := by
  rw [beq_iff_eq]; lia
 rw [seq_ret (v := .ref h.length) (h' := h2) (by
  have hle' : mid.length + 7 ≤ 1000000 := by lia
  have ci : ∀ a b h, cEq (.int a) (.int b) h = some (a == b) := fun _ _ _ => rfl
  simp only [pIte, pCmpB, pVar, pBin, pConst, pCall, pArgs, fLen, hle', if_true, hlen, zS, zZ, zB, oSub_i, ci, e3, zM])]
 rfl
end QM
noncomputable section QN
open PySem
set_option maxHeartbeats 1000000
noncomputable def runK (ps : List Nat) : Nat → Nat → Nat
 | 0, k => k
 | f + 1, k => if (decide (k < ps.length) && (ps.getD k 0 == ps.getD 0 0 + k)) = true then runK ps f (k + 1) else k
noncomputable def wr : Nat → List Nat → List Nat → List Nat
 | 0, t, _ => t
 | _ + 1, t, [] => t
 | f + 1, t, p :: ps => wr f (t ++ (if runK (p :: ps) (p :: ps).length 1 = 1 then [p] else [p] ++ [45] ++ [(p :: ps).getD (runK (p :: ps) (p :: ps).length 1 - 1) 0])) ((p :: ps).drop (runK (p :: ps) (p :: ps).length 1))
noncomputable def plainS (cs : List Nat) : List Nat := cs.filter fun c => !decide (c ∈ [45, 93])
noncomputable def written (cs : List Nat) : List Nat := wr (plainS cs).length (if 93 ∈ cs then [93] else []) (plainS cs) ++ (if 45 ∈ cs then [45] else [])
theorem item_ones {σ : AH} {m i : Nat} {ps : List Nat} (h : σ[m]? = some (.list (aSs (ones ps)))) (hi : i < ps.length) (hs : ps.length < 100000) : aItem (.ref m) (.int (i : Int)) σ = some (.str [ps.getD i 0], σ) := by
 refine aItem_nat h ?_ (by simp) (by exact Nat.lt_trans hi (zK hs (by decide)))
 rw [aSs_get, ones, List.getElem?_map, zH hi, zJ, zH hi]; rfl
theorem runK_le (ps : List Nat) : ∀ (f k : Nat), k ≤ runK ps f k ∧ (k ≤ ps.length → runK ps f k ≤ ps.length)
 | 0, k => ⟨Nat.le_refl _, id⟩
 | f + 1, k => by
  unfold runK
  split
  ·rename_i h
   have := runK_le ps f (k + 1)
   have hk : k < ps.length := by simp at h; exact h.1
   exact ⟨by lia, fun _ => this.2 hk⟩
  ·exact ⟨Nat.le_refl _, id⟩
noncomputable def wiT : PB := (pAndB (pCmpB cLt (pVar 4) (pCall fLen [pVar 3])) (pCmpB cEq (pCall fOrd [(pBin aItem (pVar 3) (pVar 4))]) (pBin oAdd (pCall fOrd [(pBin aItem (pVar 3) (pConst (.int 0)))]) (pVar 4))))
noncomputable def wiB : PS := (sSeq (sAug 4 oAdd (pConst (.int 1))) (sNil))
noncomputable def woB : PS := (sSeq (sAsg 4 (pConst (.int 1))) (sSeq (sWhile wiT wiB) (sSeq (sAug 2 oAdd (pIte (pCmpB cEq (pVar 4) (pConst (.int 1))) (pBin aItem (pVar 3) (pConst (.int 0))) (pBin oAdd (pBin oAdd (pBin aItem (pVar 3) (pConst (.int 0))) (pConst (.str [45]))) (pBin aItem (pVar 3) (pBin oSub (pVar 4) (pConst (.int 1))))))) (sSeq (sAsg 3 (pSlice (pVar 3) (some (pVar 4)) none)) (sNil)))))
theorem F_wr_eq : F_ulwr = (sSeq (sAsg 2 (pIte (pCmpB cIn (pConst (.str [93])) (pVar 1)) (pConst (.str [93])) (pConst (.str [])))) (sSeq (sAsg 3 (pComp 2 (iOf (pVar 1)) (.nm 1) (pCmpB cNotIn (pVar 1) (pConst (.str [45, 93]))) (pVar 1))) (sSeq (sWhile (pTruth (pVar 3)) woB) (sSeq (sRet (pBin oAdd (pVar 2) (pIte (pCmpB cIn (pConst (.str [45])) (pVar 1)) (pConst (.str [45])) (pConst (.str []))))) (sNil))))) := rfl
theorem wiT_eval {σ : AH} {m k : Nat} {ps : List Nat} {a1 a2 : AV} (h : σ[m]? = some (.list (aSs (ones ps)))) (hp : 0 < ps.length) (hs : ps.length < 100000) :
  wiT [.undef, a1, a2, .ref m, .int (k : Int)] σ = some (decide (k < ps.length) && (ps.getD k 0 == ps.getD 0 0 + k), σ) := by
 have hl : (aSs (ones ps)).length = ps.length := by rw [aSs_length, ones, List.length_map]
 have hle : ps.length ≤ 1000000 := by exact Nat.le_of_lt (zK hs (by decide))
 have i0 : aItem (.ref m) (.int 0) σ = some (.str [ps.getD 0 0], σ) := item_ones (i := 0) h hp hs
 have cl : ∀ (a b : Int) (h : AH), cLt (.int a) (.int b) h = some (decide (a < b)) := fun _ _ _ => rfl
 have ce : ∀ (a b : Int) (h : AH), cEq (.int a) (.int b) h = some (a == b) := fun _ _ _ => rfl
 unfold wiT
 simp only [pAndB, pCmpB, pCall, pArgs, pVar, pBin, pConst, zS, zZ, zB, fLen, h, hl, hle, if_true, cl, zM]
 by_cases hk : k < ps.length
 ·have hkI : (k : Int) < (ps.length : Int) := by exact o44 hk
  simp only [hkI, decide_true, if_true, item_ones h hk hs, i0, fOrd, zB, oAdd_i, oAdd_s, ce, zM, hk, Bool.true_and]
  congr 2
  rw [Bool.eq_iff_iff]
  simp only [beq_iff_eq]
  lia
 ·have hkI : ¬ (k : Int) < (ps.length : Int) := by lia
  simp only [hkI, hk, decide_false, Bool.false_eq_true, if_false, Bool.false_and]
theorem wi_loop {σ : AH} {m : Nat} {ps : List Nat} {a1 a2 : AV} (h : σ[m]? = some (.list (aSs (ones ps)))) (hp : 0 < ps.length) (hs : ps.length < 100000) : ∀ (f F k : Nat), ps.length ≤ f + k → f < F → 
  wLoop wiT wiB F [.undef, a1, a2, .ref m, .int (k : Int)] σ = some (.nxt, [.undef, a1, a2, .ref m, .int (runK ps f k : Nat)], σ)
 | 0, F, k, h1, h2 => by
  obtain ⟨F, rfl⟩ : ∃ F', F = F' + 1 := ⟨F - 1, by exact o65 h2⟩
  have hk : ¬ k < ps.length := by exact Nat.not_lt_of_ge (o53 h1 (Nat.zero_add _))
  unfold wLoop
  rw [wiT_eval h hp hs]
  simp only [hk, decide_false, Bool.false_and, zB, Bool.false_eq_true, if_false, runK]
 | f + 1, F, k, h1, h2 => by
  obtain ⟨F, rfl⟩ : ∃ F', F = F' + 1 := ⟨F - 1, by exact o65 h2⟩
  unfold wLoop runK
  rw [wiT_eval h hp hs]
  simp only [zB]
  split
  ·have e : ((k : Nat) : Int) + 1 = ((k + 1 : Nat) : Int) := by exact rfl
   simp only [wiB, sSeq, sAug, pVar, pConst, zS, zZ, zB, oAdd_i, oAdd_s, zM, zU, zV, sNil, e]
   exact wi_loop h hp hs f F (k + 1) (by exact o53 h1 (o8 rfl)) (by exact Nat.lt_of_succ_lt_succ h2)
  ·rfl
theorem wo_turn {σ : AH} {m : Nat} {p : Nat} {ps : List Nat} {a1 a4 : AV} {t : List Nat} (h : σ[m]? = some (.list (aSs (ones (p :: ps))))) (hs : ps.length < 1000) (ht : t.length < 10000) :
  woB [.undef, a1, .str t, .ref m, a4] σ = some (.nxt, [.undef, a1, .str (t ++ (if runK (p :: ps) (p :: ps).length 1 = 1 then [p] else [p] ++ [45] ++ [(p :: ps).getD (runK (p :: ps) (p :: ps).length 1 - 1) 0])), .ref σ.length, .int (runK (p :: ps) (p :: ps).length 1 : Nat)],
   σ ++ [AObj.list (aSs (ones ((p :: ps).drop (runK (p :: ps) (p :: ps).length 1))))]) := by
 have hp : 0 < (p :: ps).length := by simp
 have hs2 : (p :: ps).length < 100000 := by simp; exact Nat.lt_succ_of_le (zK hs (by decide))
 have hw := wi_loop (a1 := a1) (a2 := .str t) h hp hs2 (p :: ps).length FUEL 1 (by exact Nat.le_add_right _ _) (by unfold FUEL; exact zK hs2 (by decide))
 change wLoop wiT wiB FUEL [.undef, a1, .str t, .ref m, .int 1] σ = _ at hw
 have hk := runK_le (p :: ps) (p :: ps).length 1
 have hk2 := hk.2 (by simp)
 generalize hK : runK (p :: ps) (p :: ps).length 1 = K at hw hk hk2
 have i0 : aItem (.ref m) (.int 0) σ = some (.str [p], σ) := item_ones (i := 0) h hp hs2
 have hl : (aSs (ones (p :: ps))).length = (p :: ps).length := by rw [aSs_length, ones, List.length_map]
 have hsl : aSl (aSs (ones (p :: ps))) (some (K : Int)) none = aSs (ones ((p :: ps).drop K)) := by
  have : clipN (K : Int) (p :: ps).length = K := clip_of hk2
  simp only [aSl, Option.elim, hl, this]
  rw [← hl, List.take_length]
  simp [aSs, ones]
 have ce : ∀ (a b : Int) (h : AH), cEq (.int a) (.int b) h = some (a == b) := fun _ _ _ => rfl
 have hle : (aSs (ones (p :: ps))).length ≤ 1000000 := by rw [hl]; exact Nat.le_of_lt (zK hs2 (by decide))
 unfold woB
 rw [seq_asg (v := .int 1) (h' := σ) rfl]
 simp only [zU, zV]
 rw [seq_nxt (f := sWhile wiT wiB) hw]
 have hadd : sAug 2 oAdd (pIte (pCmpB cEq (pVar 4) (pConst (.int 1))) (pBin aItem (pVar 3) (pConst (.int 0))) (pBin oAdd (pBin oAdd (pBin aItem (pVar 3) (pConst (.int 0))) (pConst (.str [45]))) (pBin aItem (pVar 3) (pBin oSub (pVar 4) (pConst (.int 1)))))) [.undef, a1, .str t, .ref m, .int (K : Nat)] σ =
   some (.nxt, [.undef, a1, .str (t ++ (if K = 1 then [p] else [p] ++ [45] ++ [(p :: ps).getD (K - 1) 0])), .ref m, .int (K : Nat)], σ) := by
  have l1 : [p].length + [45].length ≤ 1000000 := by simp
  have l2 : ∀ x : Nat, ([p] ++ [45]).length + [x].length ≤ 1000000 := fun x => by simp
  have l3 : t.length + [p].length ≤ 1000000 := by simp; exact Nat.le_of_lt (zK ht (by decide))
  have l4 : ∀ x : Nat, t.length + ([p] ++ [45] ++ [x]).length ≤ 1000000 := fun x => by simp; exact Nat.le_of_lt (zK ht (by decide))
  simp only [sAug, pVar, pIte, pCmpB, pConst, zS, zZ, zB, ce, zM]
  by_cases h1 : K = 1
  ·have : ((K : Int) == 1) = true := by rw [beq_iff_eq]; lia
   rw [if_pos h1]
   simp only [this, if_true, pBin, pVar, pConst, zS, zZ, zB, i0, oAdd_i, oAdd_s, l3, zM, zU, zV]
  ·have : ((K : Int) == 1) = false := by rw [beq_eq_false_iff_ne]; lia
   have iK := item_ones (i := K - 1) h (by omega) hs2
   have eK : ((K : Nat) : Int) - 1 = ((K - 1 : Nat) : Int) := by omega
   rw [if_neg h1]
   simp only [this, Bool.false_eq_true, if_false, pBin, pVar, pConst, zS, zZ, zB, i0, oAdd_i, oAdd_s, l1, if_true, oSub_i, eK, iK, l2, l4, zM, zU, zV]
 rw [seq_nxt hadd]
 rw [seq_asg (v := .ref σ.length) (h' := σ ++ [AObj.list (aSs (ones ((p :: ps).drop K)))]) (by
  simp only [pSlice, pPart, pVar, zS, zZ, zB, aSlice, h, hle, if_true, hsl])]
 rfl
theorem wr_len : ∀ (f : Nat) (t ps : List Nat), (wr f t ps).length ≤ t.length + 3 * f
 | 0, t, _ => by simp [wr]
 | f + 1, t, [] => by simp [wr]
 | f + 1, t, p :: ps => by
  unfold wr
  refine zG (wr_len f _ _) ?_
  rw [List.length_append]
  split <;> simp <;> lia
theorem wo_loop {a1 : AV} : ∀ (f F m : Nat) (t ps : List Nat) (a4 : AV) (σ : AH), ps.length ≤ f → f < F → σ[m]? = some (.list (aSs (ones ps))) → ps.length < 500 → t.length + 3 * f < 5000 →
  ∃ (m' : Nat) (a4' : AV) (σ' : AH), wLoop (pTruth (pVar 3)) woB F [.undef, a1, .str t, .ref m, a4] σ = some (.nxt, [.undef, a1, .str (wr f t ps), .ref m', a4'], σ') ∧ Kp σ σ'
 | f, F, m, t, [], a4, σ, h1, h2, h3, _, _ => by
  obtain ⟨F, rfl⟩ : ∃ F', F = F' + 1 := ⟨F - 1, by lia⟩
  have h3' : σ[m]? = some (.list []) := h3
  have hw : wr f t [] = t := by cases f <;> rfl
  refine ⟨m, a4, σ, ?_, .refl _⟩
  unfold wLoop
  simp only [pTruth, pVar, zS, zZ, zB, aTruth, h3', List.length_nil, Nat.zero_le, if_true, List.isEmpty_nil, Bool.not_true, zM, Bool.false_eq_true, if_false, hw]
 | 0, _, _, _, _ :: _, _, _, h1, _, _, _, _ => by simp at h1
 | f + 1, F, m, t, p :: ps, a4, σ, h1, h2, h3, h4, h5 => by
  obtain ⟨F, rfl⟩ : ∃ F', F = F' + 1 := ⟨F - 1, by exact o65 h2⟩
  simp only [List.length_cons] at h1 h4
  have hle : (aSs (ones (p :: ps))).length ≤ 1000000 := by rw [aSs_length, ones, List.length_map]; simp; exact o56 (Nat.le_of_lt (zK h4 (by decide)))
  have hne : (aSs (ones (p :: ps))).isEmpty = false := rfl
  have hT : pTruth (pVar 3) [.undef, a1, .str t, .ref m, a4] σ = some (true, σ) := by
   simp only [pTruth, pVar, zS, zZ, zB, aTruth, h3, hle, if_true, hne, Bool.not_false, zM]
  have hst := wo_turn (a1 := a1) (a4 := a4) (t := t) h3 (by exact o9 (zK h4 (by decide))) (by exact o9 (zK h5 (by decide)))
  unfold wLoop wr
  rw [hT]
  simp only [zB, if_true, hst]
  have hk := runK_le (p :: ps) (p :: ps).length 1
  obtain ⟨m', a4', σ', e1, e2⟩ := wo_loop f F σ.length (t ++ (if runK (p :: ps) (p :: ps).length 1 = 1 then [p] else [p] ++ [45] ++ [(p :: ps).getD (runK (p :: ps) (p :: ps).length 1 - 1) 0])) ((p :: ps).drop (runK (p :: ps) (p :: ps).length 1)) (.int (runK (p :: ps) (p :: ps).length 1 : Nat)) (σ ++ [AObj.list (aSs (ones ((p :: ps).drop (runK (p :: ps) (p :: ps).length 1))))])
   (by rw [List.length_drop]; simp at hk ⊢; lia) (by exact Nat.lt_of_succ_lt_succ h2) (get_new _ _) (by rw [List.length_drop]; simp; exact o63 h4) (by rw [List.length_append]; split <;> simp <;> lia)
  exact ⟨m', a4', σ', e1, (Kp.app _ _).trans e2⟩
theorem in_ones {σ : AH} {n c : Nat} {cs : List Nat} (e : σ[n]? = some (.list (aSs (ones cs)))) : cIn (.str [c]) (.ref n) σ = some (decide (c ∈ cs)) := by
 rw [in_list _ e]
 congr 1
 rw [Bool.eq_iff_iff, List.any_eq_true]
 simp only [beq_iff_eq, decide_eq_true_eq]
 constructor
 ·rintro ⟨x, hx, rfl⟩
  exact mem_ones.mp hx
 ·intro h
  exact ⟨[c], mem_ones.mpr h, rfl⟩
theorem written_spec {σ : AH} {n : Nat} {cs : List Nat} (h : σ[n]? = some (.list (aSs (ones cs)))) (hl : cs.length < 400) : ∃ σ', P_ulwr [.ref n] σ = some (.str (written cs), σ') ∧ Kp σ σ' := by
 obtain ⟨σ₁, c1, c2, c3⟩ := comp_list (g := iOf (pVar 1)) (t := pCmpB cNotIn (pVar 1) (pConst (.str [45, 93]))) (l := [.undef, .ref n, .str (if 93 ∈ cs then [93] else []), .undef, .undef]) (σ₀ := σ) (σ := σ) (n := n) (ws := ones cs) (fun w => !decide (w ∈ ones [45, 93]))
  h (by simp only [iOf, pVar, zS, zZ, zB, aIter, h, zM])
  (fun w hw σ' k => ⟨σ', .refl _, by
   refine xEA (List.mem_map.mp hw) fun c hc hrf => ?_; subst hrf
   simp only [pCmpB, pVar, pConst, zS, zZ, zB, oOne, notIn_str, zM]
   congr 3
   have := mem_ones (t := [45, 93]) (c := c)
   unfold oOne at this
   simp only [this]⟩) (by rw [ones, List.length_map]; exact zK hl (by decide))
 have hpf : (ones cs).filter (fun w => !decide (w ∈ ones [45, 93])) = ones (plainS cs) := by
  rw [ones_filter]
  unfold plainS
  congr 1
  apply List.filter_congr
  intro c _
  simp only [mem_ones]
 rw [hpf] at c3
 have hpl : (plainS cs).length ≤ cs.length := List.length_filter_le ..
 obtain ⟨m', a4', σ₂, e1, e2⟩ := wo_loop (a1 := .ref n) (plainS cs).length FUEL σ.length (if 93 ∈ cs then [93] else []) (plainS cs) .undef σ₁ (Nat.le_refl _) (by unfold FUEL; exact zF hpl (zK hl (by decide))) c3 (by exact zF hpl (zK hl (by decide))) (by split <;> simp <;> lia)
 have k := c2.trans e2
 refine ⟨σ₂, ?_, k⟩
 have hlen : (wr (plainS cs).length (if 93 ∈ cs then [93] else []) (plainS cs)).length ≤ 3000 := by
  refine zG (wr_len _ _ _) ?_
  split <;> simp <;> lia
 unfold P_ulwr bodyF
 rw [F_wr_eq]
 simp only [List.length_cons, List.length_nil, if_true, List.replicate, List.cons_append, List.nil_append]
 rw [seq_asg (v := .str (if 93 ∈ cs then [93] else [])) (h' := σ) (by
  simp only [pIte, pCmpB, pVar, pConst, zS, zZ, zB, in_ones h, zM]
  by_cases hc : 93 ∈ cs <;> simp [hc])]
 simp only [zU, zV]
 rw [seq_asg c1]
 simp only [zU, zV]
 rw [seq_nxt (f := sWhile _ _) e1]
 have l1 : ∀ x : List Nat, x.length ≤ 1 → (wr (plainS cs).length (if 93 ∈ cs then [93] else []) (plainS cs)).length + x.length ≤ 1000000 := fun x hx => by lia
 rw [seq_ret (v := .str (written cs)) (h' := σ₂) (by
  simp only [pBin, pIte, pCmpB, pVar, pConst, zS, zZ, zB, in_ones (k _ _ h), zM]
  unfold written
  by_cases hc : 45 ∈ cs
  ·simp only [hc, decide_true, if_true, zB, oAdd_i, oAdd_s, l1 [45] (by simp)]
  ·simp only [hc, decide_false, Bool.false_eq_true, if_false, zB, oAdd_i, oAdd_s, l1 [] (by simp), if_true])]
 rfl
end QN
noncomputable section QO
open PySem
set_option maxHeartbeats 1000000
noncomputable def bodyOf (cs ws : List Nat) (b : Bool) : List Nat := if b then 33 :: written (ws.filter fun c => !decide (c ∈ cs)) else written cs
noncomputable def bracketOf (cs ws : List Nat) (b : Bool) : List Nat := [91] ++ bodyOf cs ws b ++ [93]
theorem plainS_len (cs : List Nat) : (plainS cs).length ≤ cs.length := List.length_filter_le ..
theorem written_len (cs : List Nat) : (written cs).length ≤ 3 * cs.length + 2 := by
 unfold written
 have h := wr_len (plainS cs).length (if 93 ∈ cs then [93] else []) (plainS cs)
 have h2 := plainS_len cs
 have h3 : (if 93 ∈ cs then [93] else [] : List Nat).length ≤ 1 := by split <;> simp
 have h4 : (if 45 ∈ cs then [45] else [] : List Nat).length ≤ 1 := by split <;> simp
 rw [List.length_append]
 lia
theorem bracket_spec {σ : AH} {n m : Nat} {cs ws : List Nat} {b : Int} (hn : σ[n]? = some (.list (aSs (ones cs)))) (hm : σ[m]? = some (.list (aSs (ones ws)))) (h1 : cs.length < 200) (h2 : ws.length < 200) :
  ∃ σ', P_ulbr [.ref n, .ref m, .int b] σ = some (.str (bracketOf cs ws (b != 0)), σ') ∧ Kp σ σ' := by
 unfold P_ulbr bodyF F_ulbr
 simp only [List.length_cons, List.length_nil, if_true, Nat.sub_self, List.replicate, List.cons_append, List.nil_append, List.append_nil]
 by_cases hb : b = 0
 ·subst hb
  refine xEA (written_spec hn (by exact zK h1 (by decide))) fun σ' e1 e2 => ?_
  have hwl := written_len cs
  have l1 : [91].length + (written cs).length ≤ 1000000 := by simp; lia
  have l2 : ([91] ++ written cs).length + [93].length ≤ 1000000 := by simp; lia
  refine ⟨σ', ?_, e2⟩
  rw [seq_iff (h' := σ) (by simp only [pTruth, pVar, zS, zZ, zB, aTruth, zM]; rfl)]
  rw [seq_nil, seq_ret (v := .str (bracketOf cs ws ((0 : Int) != 0))) (h' := σ') (by
   simp only [pBin, pCall, pArgs, pVar, pConst, zS, zZ, zB, e1, oAdd_i, oAdd_s, l1, if_true, l2]
   rfl)]
  rfl
 ·have hbb : (b != 0) = true := by simpa using hb
  obtain ⟨σ₁, c1, c2, c3⟩ := comp_list (g := iOf (pVar 2)) (t := pCmpB cNotIn (pVar 1) (pVar 3)) (l := [.undef, .ref n, .ref m, .int b]) (σ₀ := σ) (σ := σ) (n := m) (ws := ones ws) (fun w => !decide (w ∈ ones cs))
   hm (by simp only [iOf, pVar, zS, zZ, zB, aIter, hm, zM])
   (fun w hw σ' k => ⟨σ', .refl _, by
    simp only [pCmpB, pVar, zS, zZ, zB, notIn_list w (k _ _ hn), zM]⟩) (by rw [ones, List.length_map]; exact zK h2 (by decide))
  have hpf : (ones ws).filter (fun w => !decide (w ∈ ones cs)) = ones (ws.filter fun c => !decide (c ∈ cs)) := by
   rw [ones_filter]
   congr 1
   apply List.filter_congr
   intro c _
   simp only [mem_ones]
  rw [hpf] at c3
  have hfl : (ws.filter fun c => !decide (c ∈ cs)).length ≤ ws.length := List.length_filter_le ..
  refine xEA (written_spec c3 (by exact zF hfl (zK h2 (by decide)))) fun σ' e1 e2 => ?_
  have hwl := written_len (ws.filter fun c => !decide (c ∈ cs))
  have hbr : bracketOf cs ws (b != 0) = [91, 33] ++ written (ws.filter fun c => !decide (c ∈ cs)) ++ [93] := by rw [hbb]; rfl
  generalize ws.filter (fun c => !decide (c ∈ cs)) = xs at e1 hwl hfl hbr
  have l1 : [91, 33].length + (written xs).length ≤ 1000000 := by simp; lia
  have l2 : ([91, 33] ++ written xs).length + [93].length ≤ 1000000 := by simp; lia
  refine ⟨σ', ?_, c2.trans e2⟩
  rw [seq_ift (h' := σ) (by simp only [pTruth, pVar, zS, zZ, zB, aTruth, zM, hbb])]
  rw [seq_nxt' (v := .str (bracketOf cs ws (b != 0))) (by
   rw [seq_ret (v := .str (bracketOf cs ws (b != 0))) (h' := σ') (by
    rw [hbr]
    simp only [pBin, pCall, pArgs, pVar, pConst, zS, zZ, zB, c1, e1, oAdd_i, oAdd_s, l1, if_true, l2])])]
  rfl
end QO
noncomputable section QP
open PySem
set_option maxHeartbeats 1000000
noncomputable def scJ1 (bd : List Nat) : Nat := if bd.head? == some 33 then 1 else 0
noncomputable def scJ2 (bd : List Nat) : Nat := if (bd.drop (scJ1 bd)).head? == some 93 then scJ1 bd + 1 else scJ1 bd
noncomputable def scanOK (bd : List Nat) : Bool := decide (scJ1 bd < bd.length) && (bd.drop (scJ2 bd)).all fun c => c != 93
noncomputable def fnd (bd : List Nat) (k : Nat) : Option Nat := ((bd.drop k).findIdx? (· == 45)).map (k + ·)
noncomputable def chLoop (bd : List Nat) : Nat → Nat → Nat → List Wo → Option (List Wo × Nat)
 | 0, _, _, _ => none
 | f + 1, i, k, cs => match fnd bd k with
  | none => some (cs, i)
  | some k' => chLoop bd f (k' + 1) (k' + 3) (cs ++ [(bd.take k').drop i])
noncomputable def chunksOf (bd : List Nat) : Option (List Wo) := (chLoop bd 100 0 (if bd.head? == some 33 then 2 else 1) []).bind fun p => if bd.drop p.2 ≠ [] then some (p.1 ++ [bd.drop p.2]) else match p.1.getLast? with
 | none => none
 | some l => some (p.1.dropLast ++ [l ++ [45]])
noncomputable def adj (a b : Wo) : Bool := match a.getLast?, b.head? with
 | some x, some y => !decide (y < x)
 | _, _ => false
noncomputable def okAdj : List Wo → Bool
 | a :: b :: r => adj a b && okAdj (b :: r)
 | _ => true
noncomputable def esc2 (t : List Nat) : List Nat := repl 45 [92, 45] (repl 92 [92, 92] t)
noncomputable def stuff0 (bd : List Nat) : Option (List Nat) := if 45 ∈ bd then (chunksOf bd).bind fun cs => if okAdj cs = true ∧ cs.length ≤ 100 then some (joinL [45] (cs.map esc2)) else none else some (repl 92 [92, 92] bd)
noncomputable def fin (st : List Nat) : Option (List Nat) := match st with
 | [] => none
 | x :: r => if x = 33 then (if r = [] then none else some (94 :: r)) else if x = 94 ∨ x = 91 then some (92 :: x :: r) else some (x :: r)
noncomputable def trG (bd : List Nat) : Option (List Nat) := if scanOK bd = true ∧ bd.length ≤ 100 then (stuff0 bd).bind fun st => if st.length ≤ 1000 then (fin (subM st)).map fun o => [91] ++ o ++ [93] else none else none
noncomputable def winD (w : Nat) : List Nat := (List.range 4).map (34 + w + ·)
noncomputable def fitW (w c : Nat) : List Nat := (fitD c).map (34 + w + ·)
noncomputable def chkJ (w c : Nat) (J : Bool × List (Nat × Nat)) : Bool := ((winD w).filter (wth J) == fitW w c) && J.2.all (fun p => decide (p.1 < 128)) && decide (J.2.length < 100)
noncomputable def chk (w c : Nat) (b : Bool) : Bool := match trG (bodyOf (fitW w c) (winD w) b) with
 | some out => decide (out.length < 100) && match clsRd out with
  | some (J, []) => out.head? == some 91 && chkJ w c J
  | _ => false
 | none => false
noncomputable def chkAll (w : Nat) : Bool := (List.range 14).all fun c => chk w (c + 1) false && chk w (c + 1) true
theorem chk_0 : ∀ i, i < 10 → chkAll (0 + i) = true := by decide +kernel
theorem chk_1 : ∀ i, i < 10 → chkAll (10 + i) = true := by decide +kernel
theorem chk_2 : ∀ i, i < 10 → chkAll (20 + i) = true := by decide +kernel
theorem chk_3 : ∀ i, i < 10 → chkAll (30 + i) = true := by decide +kernel
theorem chk_4 : ∀ i, i < 10 → chkAll (40 + i) = true := by decide +kernel
theorem chk_5 : ∀ i, i < 10 → chkAll (50 + i) = true := by decide +kernel
theorem chk_6 : ∀ i, i < 10 → chkAll (60 + i) = true := by decide +kernel
theorem chk_7 : ∀ i, i < 10 → chkAll (70 + i) = true := by decide +kernel
theorem chk_8 : ∀ i, i < 10 → chkAll (80 + i) = true := by decide +kernel
theorem chk_all (w : Nat) (hw : w < 90) : chkAll w = true := by
 have h : ∀ q, q < 9 → ∀ i, i < 10 → chkAll (10 * q + i) = true := by
  intro q hq
  cases q with
  | zero => exact chk_0
  | succ q => cases q with
   | zero => exact chk_1
   | succ q => cases q with
    | zero => exact chk_2
    | succ q => cases q with
     | zero => exact chk_3
     | succ q => cases q with
      | zero => exact chk_4
      | succ q => cases q with
       | zero => exact chk_5
       | succ q => cases q with
        | zero => exact chk_6
        | succ q => cases q with
         | zero => exact chk_7
         | succ q => cases q with
          | zero => exact chk_8
          | succ q => exact absurd hq (Nat.not_lt.mpr (Nat.le_add_left 9 q))
 rw [← Nat.div_add_mod w 10]
 exact h (w / 10) (Nat.div_lt_of_lt_mul hw) _ (Nat.mod_lt _ (by decide))
theorem chk_of {w c : Nat} (hw : w < 90) (h1 : 1 ≤ c) (h2 : c ≤ 14) (b : Bool) : chk w c b = true := by
 have h := List.all_eq_true.mp (chk_all w hw) (c - 1) (by simp; omega)
 rw [show c - 1 + 1 = c by exact Nat.sub_add_cancel h1, Bool.and_eq_true] at h
 cases b
 ·exact h.1
 ·exact h.2
end QP
noncomputable section QQ
open PySem
set_option maxHeartbeats 1000000
noncomputable def trFin : PS := (sSeq (sIf (pCmpB cEq (pBin aItem (pVar 10) (pConst (.int 0))) (pConst (.str [33]))) (sSeq (sAsg 10 (pBin oAdd (pConst (.str [94])) (pSlice (pVar 10) (some (pConst (.int 1))) none))) (sNil)) (sSeq (sIf (pCmpB cIn (pBin aItem (pVar 10) (pConst (.int 0))) (pTup [(pConst (.str [94])), (pConst (.str [91]))])) (sSeq (sAsg 10 (pBin oAdd (pConst (.str [92])) (pVar 10))) (sNil)) (sNil)) (sNil))) (sSeq (sExpr (pCallM 5 [(pJoin3 (pConst (.str [91])) (pFmt (pVar 10)) (pConst (.str [93])))])) (sNil)))
noncomputable def trCW : PS := (sSeq (sAsg 12 (pMeth .str mFind (pVar 1) [(pConst (.str [45])), pVar 12, pVar 9])) (sSeq (sIf (pCmpB cLt (pVar 12) (pConst (.int 0))) (sSeq (sBrk) (sNil)) (sNil)) (sSeq (sExpr (pMeth .list mAppend (pVar 11) [(pSlice (pVar 1) (some (pVar 6)) (some (pVar 12)))])) (sSeq (sAsg 6 (pBin oAdd (pVar 12) (pConst (.int 1)))) (sSeq (sAsg 12 (pBin oAdd (pVar 12) (pConst (.int 3)))) (sNil))))))
noncomputable def trMg : PS := (sSeq (sIf (pCmpB cGt (pBin aItem (pBin aItem (pVar 11) (pBin oSub (pVar 12) (pConst (.int 1)))) (pNeg (pConst (.int 1)))) (pBin aItem (pBin aItem (pVar 11) (pVar 12)) (pConst (.int 0)))) (fun _ _ => none) (sNil)) (sNil))
noncomputable def trCh (P : Addr) : PS := (sSeq (sAsg 11 (pList [])) (sSeq (sAsg 12 (pIte (pCmpB cEq (pBin aItem (pVar 1) (pVar 6)) (pConst (.str [33]))) (pBin oAdd (pVar 6) (pConst (.int 2))) (pBin oAdd (pVar 6) (pConst (.int 1))))) (sSeq (sWhile (pTruth (pConst (.bool true))) (trCW)) (sSeq (sAsg 13 (pSlice (pVar 1) (some (pVar 6)) (some (pVar 9)))) (sSeq (sIf (pTruth (pVar 13)) (sSeq (sExpr (pMeth .list mAppend (pVar 11) [pVar 13])) (sNil)) (sSeq (sAugIt (pVar 11) (pNeg (pConst (.int 1))) oAdd (pConst (.str [45]))) (sNil))) (sSeq (sFor (iRange [(pBin oSub (pCall fLen [pVar 11]) (pConst (.int 1))), (pConst (.int 0)), (pNeg (pConst (.int 1)))]) (.nm 12) (trMg)) (sSeq (sAsg 10 (pJoinG P ⟨72, 37, 72, 98⟩ 11 [45] (fun t => Mine.repl 45 [92, 45] (Mine.repl 92 [92, 92] t)))) (sNil))))))))
noncomputable def trTail (P : Addr) : PS := (sSeq (sAsg 10 (pSubL P ⟨73, 39, 73, 76⟩ 10)) (sSeq (sAsg 6 (pBin oAdd (pVar 9) (pConst (.int 1)))) (sSeq (sIf (pNot (pTruth (pVar 10))) (fun _ _ => none) (sSeq (sIf (pCmpB cEq (pVar 10) (pConst (.str [33]))) (fun _ _ => none) (trFin)) (sNil))) (sNil))))
noncomputable def trRest (P : Addr) : PS := (sSeq (sAsg 10 (pSlice (pVar 1) (some (pVar 6)) (some (pVar 9)))) (sSeq (sIf (pCmpB cNotIn (pConst (.str [45])) (pVar 10)) (sSeq (sAsg 10 (pRepl 92 [92, 92] (pVar 10))) (sNil)) (trCh P)) (trTail P)))
noncomputable def trJT : PB := (pAndB (pCmpB cLt (pVar 9) (pVar 7)) (pCmpB cNe (pBin aItem (pVar 1) (pVar 9)) (pConst (.str [93]))))
noncomputable def trJB : PS := (sSeq (sAsg 9 (pBin oAdd (pVar 9) (pConst (.int 1)))) (sNil))
noncomputable def trBr (P : Addr) : PS := (sSeq (sAsg 9 (pVar 6)) (sSeq (sIf (pAndB (pCmpB cLt (pVar 9) (pVar 7)) (pCmpB cEq (pBin aItem (pVar 1) (pVar 9)) (pConst (.str [33])))) (trJB) (sNil)) (sSeq (sIf (pAndB (pCmpB cLt (pVar 9) (pVar 7)) (pCmpB cEq (pBin aItem (pVar 1) (pVar 9)) (pConst (.str [93])))) (trJB) (sNil)) (sSeq (sWhile (trJT) (trJB)) (sSeq (sIf (pCmpB cGe (pVar 9) (pVar 7)) (fun _ _ => none) (trRest P)) (sNil))))))
noncomputable def trB (P : Addr) : PS := (sSeq (sAsg 8 (pBin aItem (pVar 1) (pVar 6))) (sSeq (sAsg 6 (pBin oAdd (pVar 6) (pConst (.int 1)))) (sSeq (sIf (pCmpB cEq (pVar 8) (pConst (.str [42]))) (fun _ _ => none) (sSeq (sIf (pCmpB cEq (pVar 8) (pConst (.str [63]))) (fun _ _ => none) (sSeq (sIf (pCmpB cEq (pVar 8) (pConst (.str [91]))) (trBr P) (fun _ _ => none)) (sNil))) (sNil))) (sNil))))
theorem F_tr_eq (P : Addr) : F_utr P = (sSeq (sAsg 4 (pList [])) (sSeq (sAsg 5 (pAttrApp (pVar 4))) (sSeq (sSwap [6, 7] (pTup [(pConst (.int 0)), (pCall fLen [pVar 1])])) (sSeq (sWhile (pCmpB cLt (pVar 6) (pVar 7)) (trB P)) (sSeq (sAssert (pCmpB cEq (pVar 6) (pVar 7))) (sSeq (sRet (pVar 4)) (sNil))))))) := rfl
theorem sub_take {pat bd rest : List Nat} {o : Nat} (h : pat.drop o = bd ++ rest) {j : Nat} (hj : j ≤ bd.length) (i : Nat) : (pat.take (o + j)).drop (o + i) = (bd.take j).drop i := by
 rw [← List.drop_drop, List.drop_take, Nat.add_sub_cancel_left, h, List.take_append_of_le_length hj]
theorem sub_sl {pat bd rest : List Nat} {o : Nat} (h : pat.drop o = bd ++ rest) (ho : o ≤ pat.length) {i j : Nat} (hj : j ≤ bd.length) (hi : i ≤ bd.length) : aSl pat (some ((o + i : Nat) : Int)) (some ((o + j : Nat) : Int)) = (bd.take j).drop i := by
 have hl : pat.length = o + (bd.length + rest.length) := by
  have := congrArg List.length h
  rw [List.length_drop, List.length_append] at this
  omega
 have c1 : clipN ((o + i : Nat) : Int) pat.length = o + i := clip_of (by rw [hl]; exact Nat.add_le_add_left (zG hi (Nat.le_add_right _ _)) o)
 have c2 : clipN ((o + j : Nat) : Int) pat.length = o + j := clip_of (by rw [hl]; exact Nat.add_le_add_left (zG hj (Nat.le_add_right _ _)) o)
 simp only [aSl, Option.elim, c1, c2]
 exact sub_take h hj i
theorem sub_find {pat bd rest : List Nat} {o : Nat} (h : pat.drop o = bd ++ rest) (k : Nat) : findIn 45 pat (o + k) (o + bd.length) = match fnd bd k with | some k' => ((o + k' : Nat) : Int) | none => -1 := by
 unfold findIn fnd
 rw [sub_take h (Nat.le_refl _) k, List.take_length]
 cases (bd.drop k).findIdx? (· == 45) with
 | none => rfl
 | some j =>
  show ((o + k + j : Nat) : Int) = ((o + (k + j) : Nat) : Int)
  rw [Nat.add_assoc]
theorem fnd_lt {bd : List Nat} {k k' : Nat} (h : fnd bd k = some k') : k ≤ k' ∧ k' < bd.length := by
 unfold fnd at h
 refine mapQ h fun j e1 e2 => ?_
 obtain ⟨hj, _⟩ := List.findIdx?_eq_some_iff_getElem.mp e1
 rw [List.length_drop] at hj
 omega
section
variable {pat bd rest : List Nat} {o : Nat} {a0 v2 v3 v4 v5 v8 v10 v13 : AV} {n : Int}
theorem chw_loop (hp : pat.drop o = bd ++ rest) (ho : o ≤ pat.length) (hpl : pat.length < 90000) {q : Nat} : ∀ (f F i k : Nat) (cs cs' : List Wo) (i' : Nat) (h : AH), chLoop bd f i k cs = some (cs', i') → f ≤ F → i ≤ bd.length → h[q]? = some (.list (aSs cs)) → cs.length + f ≤ 1000 →
  ∃ (k' : AV) (h' : AH), wLoop (pTruth (pConst (.bool true))) trCW F [a0, .str pat, v2, v3, v4, v5, .int ((o + i : Nat) : Int), .int n, v8, .int ((o + bd.length : Nat) : Int), v10, .ref q, .int ((o + k : Nat) : Int), v13] h =
   some (.nxt, [a0, .str pat, v2, v3, v4, v5, .int ((o + i' : Nat) : Int), .int n, v8, .int ((o + bd.length : Nat) : Int), v10, .ref q, k', v13], h') ∧ h'[q]? = some (.list (aSs cs')) ∧ (∀ j x, j ≠ q → h[j]? = some x → h'[j]? = some x) ∧ i' ≤ bd.length ∧ cs'.length ≤ 1000
 | 0, _, _, _, _, _, _, _, e, _, _, _, _ => by cases e
 | f + 1, F, i, k, cs, cs', i', h, e, hF, hi, hq, hc => by
  obtain ⟨F, rfl⟩ : ∃ F', F = F' + 1 := ⟨F - 1, by exact o65 (o20 (Nat.sub_add_cancel hF))⟩
  have hT : pTruth (pConst (.bool true)) [a0, .str pat, v2, v3, v4, v5, .int ((o + i : Nat) : Int), .int n, v8, .int ((o + bd.length : Nat) : Int), v10, .ref q, .int ((o + k : Nat) : Int), v13] h = some (true, h) := rfl
  have h0 : (0 : Int) ≤ ((o + k : Nat) : Int) ∧ (0 : Int) ≤ ((o + bd.length : Nat) : Int) := by exact And.intro o67 o67
  have cl : ∀ (a b : Int) (h : AH), cLt (.int a) (.int b) h = some (decide (a < b)) := fun _ _ _ => rfl
  have s1 : ∀ v12' : Int, (match fnd bd k with | some k' => ((o + k' : Nat) : Int) | none => -1) = v12' → pMeth .str mFind (pVar 1) [(pConst (.str [45])), pVar 12, pVar 9] [a0, .str pat, v2, v3, v4, v5, .int ((o + i : Nat) : Int), .int n, v8, .int ((o + bd.length : Nat) : Int), v10, .ref q, .int ((o + k : Nat) : Int), v13] h = some (.int v12', h) := fun v12' hv => by
   simp only [pMeth, pVar, pConst, pArgs, SKind.ok, zS, zZ, zB, if_true, mFind_eq, if_pos h0, Int.toNat_natCast, sub_find hp, hv]
  unfold chLoop at e
  unfold wLoop
  rw [hT]
  simp only [zB, if_true]
  cases hf : fnd bd k with
  | none =>
   rw [hf] at e
   simp only [Option.some.injEq, Prod.mk.injEq] at e
   obtain ⟨rfl, rfl⟩ := e
   have : trCW [a0, .str pat, v2, v3, v4, v5, .int ((o + i : Nat) : Int), .int n, v8, .int ((o + bd.length : Nat) : Int), v10, .ref q, .int ((o + k : Nat) : Int), v13] h = some (.brk, [a0, .str pat, v2, v3, v4, v5, .int ((o + i : Nat) : Int), .int n, v8, .int ((o + bd.length : Nat) : Int), v10, .ref q, .int (-1), v13], h) := by
    unfold trCW
    rw [seq_asg (s1 (-1) (by rw [hf]))]
    simp only [zU, zV]
    rw [seq_ift (h' := h) (by simp only [pCmpB, pVar, pConst, zS, zZ, zB, cl, zM]; rfl)]
    rfl
   rw [this]
   exact ⟨.int (-1), h, rfl, hq, fun _ _ _ e => e, hi, by exact o56 hc⟩
  | some k' =>
   rw [hf] at e
   simp only at e
   obtain ⟨hk1, hk2⟩ := fnd_lt hf
   have hle : pat.length ≤ 1000000 := by exact Nat.le_of_lt (zK hpl (by decide))
   have hsl := sub_sl hp ho (i := i) (j := k') (by exact Nat.le_of_lt hk2) hi
   have hcl : (aSs cs).length ≤ 1000000 := by rw [aSs_length]; exact o56 (zG hc (by decide))
   have happ : aSs cs ++ [AV.str ((bd.take k').drop i)] = aSs (cs ++ [(bd.take k').drop i]) := by rw [aSs_append]; rfl
   have e1 : ((o + k' : Nat) : Int) + 1 = ((o + (k' + 1) : Nat) : Int) := by exact rfl
   have e3 : ((o + k' : Nat) : Int) + 3 = ((o + (k' + 3) : Nat) : Int) := by exact rfl
   have hneg : ¬ ((o + k' : Nat) : Int) < 0 := by lia
   have : trCW [a0, .str pat, v2, v3, v4, v5, .int ((o + i : Nat) : Int), .int n, v8, .int ((o + bd.length : Nat) : Int), v10, .ref q, .int ((o + k : Nat) : Int), v13] h = some (.nxt, [a0, .str pat, v2, v3, v4, v5, .int ((o + (k' + 1) : Nat) : Int), .int n, v8, .int ((o + bd.length : Nat) : Int), v10, .ref q, .int ((o + (k' + 3) : Nat) : Int), v13], h.set q (.list (aSs (cs ++ [(bd.take k').drop i])))) := by
    unfold trCW
    rw [seq_asg (s1 ((o + k' : Nat) : Int) (by rw [hf]))]
    simp only [zU, zV]
    rw [seq_iff (h' := h) (by simp only [pCmpB, pVar, pConst, zS, zZ, zB, cl, zM, hneg, decide_false]), seq_nil]
    rw [seq_expr (h' := h.set q (.list (aSs (cs ++ [(bd.take k').drop i])))) (by
     simp only [pMeth, pVar, pArgs, SKind.ok, pSlice, pPart, zS, zZ, zB, hq, if_true, aSlice, hle, hsl, mAppend, hcl, happ])]
    rw [seq_asg (v := .int ((o + (k' + 1) : Nat) : Int)) (h' := h.set q (.list (aSs (cs ++ [(bd.take k').drop i])))) (by
     simp only [pBin, pVar, pConst, zS, zZ, zB, oAdd_i, oAdd_s, e1])]
    simp only [zU, zV]
    rw [seq_asg (v := .int ((o + (k' + 3) : Nat) : Int)) (h' := h.set q (.list (aSs (cs ++ [(bd.take k').drop i])))) (by
     simp only [pBin, pVar, pConst, zS, zZ, zB, oAdd_i, oAdd_s, e3])]
    rfl
   rw [this]
   obtain ⟨kv, h', g1, g2, g3, g4, g5⟩ := chw_loop hp ho hpl f F (k' + 1) (k' + 3) (cs ++ [(bd.take k').drop i]) cs' i' (h.set q (.list (aSs (cs ++ [(bd.take k').drop i])))) e (by exact Nat.le_of_lt_succ hF) hk2 (set_get hq) (by simp; exact o11 hc)
   exact ⟨kv, h', g1, g2, fun j x hj ex => g3 j x hj (by rw [set_ne _ hj]; exact ex), g4, g5⟩
end
end QQ
noncomputable section QR
open PySem
set_option maxHeartbeats 1000000
theorem seqIdx_neg1 {n : Nat} (h : 0 < n) : seqIndex? (-1) n = some (n - 1) := by
 unfold seqIndex?
 have h1 : ((-1 : Int) < 0) := by decide
 simp only [h1, if_true]
 rw [if_pos (by simp; lia)]
 congr 1
 lia
theorem last_str {t : List Nat} {x : Nat} (σ : AH) (h : t.getLast? = some x) : aItem (.str t) (.int (-1)) σ = some (.str [x], σ) := by
 have hs : small (-1) = true := by decide
 have hl : 0 < t.length := by cases t with | nil => cases h | cons _ _ => simp
 rw [List.getLast?_eq_getElem?] at h
 simp only [aItem, hs, if_true, seqIdx_neg1 hl, zB, h, zM]
theorem last_list {σ : AH} {q : Nat} {cs : List Wo} {x : Wo} (hq : σ[q]? = some (.list (aSs cs))) (h : cs.getLast? = some x) : aItem (.ref q) (.int (-1)) σ = some (.str x, σ) := by
 have hs : small (-1) = true := by decide
 have hl : 0 < cs.length := by cases cs with | nil => cases h | cons _ _ => simp
 rw [List.getLast?_eq_getElem?] at h
 simp only [aItem, hs, if_true, hq, aSs_length, seqIdx_neg1 hl, zB, aSs_get, h, zM]
theorem set_last {σ : AH} {q : Nat} {cs : List Wo} {x y : Wo} (hq : σ[q]? = some (.list (aSs cs))) (h : cs.getLast? = some x) : aSet (.ref q) (.int (-1)) (.str y) σ = some (σ.set q (.list (aSs (cs.dropLast ++ [y])))) := by
 have hs : small (-1) = true := by decide
 have hl : 0 < (aSs cs).length := by rw [aSs_length]; cases cs with | nil => cases h | cons _ _ => simp
 have hl2 : 0 < cs.length := by rwa [aSs_length] at hl
 have e : (aSs cs).set ((aSs cs).length - 1) (.str y) = aSs (cs.dropLast ++ [y]) := by
  rw [aSs_length, aSs_set]
  congr 1
  obtain ⟨ys, z, rfl⟩ : ∃ ys z, cs = ys ++ [z] := ⟨cs.dropLast, cs.getLast (by intro e; subst e; cases h), (List.dropLast_concat_getLast _).symm⟩
  simp
 simp only [aSet, hs, if_true, hq, seqIdx_neg1 hl, zM, e]
theorem okAdj_at : ∀ {cs : List Wo} {k : Nat}, okAdj cs = true → k + 1 < cs.length → adj (cs.getD k []) (cs.getD (k + 1) []) = true
 | [], _, _, h => by simp at h
 | [a], _, _, h => by simp at h
 | a :: b :: r, 0, h, _ => by
  simp only [okAdj, Bool.and_eq_true] at h
  exact h.1
 | a :: b :: r, k + 1, h, hl => by
  simp only [okAdj, Bool.and_eq_true] at h
  have := okAdj_at (cs := b :: r) (k := k) h.2 (by simpa using hl)
  simpa using this
section
variable {pat : List Nat} {a0 v2 v3 v4 v5 v6 v7 v8 v9 v10 v13 : AV}
theorem mg_turn {σ : AH} {q k : Nat} {cs : List Wo} {a1 : AV} (hq : σ[q]? = some (.list (aSs cs))) (hok : okAdj cs = true) (hk : k + 1 < cs.length) (hl : cs.length ≤ 1000) :
  trMg [a0, a1, v2, v3, v4, v5, v6, v7, v8, v9, v10, .ref q, .int ((k + 1 : Nat) : Int), v13] σ = some (.nxt, [a0, a1, v2, v3, v4, v5, v6, v7, v8, v9, v10, .ref q, .int ((k + 1 : Nat) : Int), v13], σ) := by
 have ha := okAdj_at hok hk
 have i1 := item_str hq (i := k) (by exact o9 hk) (by exact zF hl (by decide))
 have i2 := item_str hq (i := k + 1) hk (by exact zF hl (by decide))
 generalize cs.getD k [] = a at ha i1
 generalize cs.getD (k + 1) [] = b at ha i2
 unfold adj at ha
 cases hx : a.getLast? with
 | none => rw [hx] at ha; simp at ha
 | some x =>
  cases hy : b.head? with
  | none => rw [hx, hy] at ha; simp at ha
  | some y =>
   rw [hx, hy] at ha
   have hlt : ¬ y < x := by simpa using ha
   have j1 := last_str σ hx
   have j2 : aItem (.str b) (.int 0) σ = some (.str [y], σ) := aItem_str (i := 0) σ (by rw [List.head?_eq_getElem?] at hy; exact hy) (by decide)
   have e1 : ((k + 1 : Nat) : Int) - 1 = ((k : Nat) : Int) := by exact o42
   have cg : ∀ (a b : Wo) (h : AH), cGt (.str a) (.str b) h = some (decide (b < a)) := fun _ _ _ => rfl
   unfold trMg
   rw [seq_iff (h' := σ) (by
    simp only [pCmpB, pBin, pVar, pConst, pNeg, zS, zZ, zB, oSub_i, e1, i1, i2, j1, j2, cg, one_lt, hlt, decide_false, zM])]
   rfl
theorem range_down_size (n : Nat) : Builtin.Range.rangeSize (n : Int) 0 (-1) = (n : Int) := by
 unfold Builtin.Range.rangeSize
 rw [if_neg (by decide)]
 by_cases hz : (n : Int) > 0
 ·rw [if_pos hz, show (-(-1) : Int) = 1 from rfl, Int.ediv_one]; lia
 ·rw [if_neg hz]; lia
theorem range_down_small {n : Nat} (hn : n ≤ 1000) : Builtin.Range.small (n : Int) 0 (-1) = true := by
 have hf : ∀ i : Int, -1000 ≤ i → i ≤ 1000 → Builtin.Range.rangeFitsLong i = true := fun i h1 h2 => by
  unfold Builtin.Range.rangeFitsLong
  rw [show (2 : Int) ^ 63 = 9223372036854775808 from rfl]
  simp only [Bool.and_eq_true, decide_eq_true_eq]
  lia
 unfold Builtin.Range.small
 rw [range_down_size, hf n o67 (by exact o50 hn), hf 0 (by decide) (by decide), hf (-1) (by decide) (by decide), if_neg (by decide), hf (0 + (-1 + 1)) (by decide) (by decide)]
 simp
theorem iRange3 {σ : AH} {a b c : Int} {fs : List PE} {l : List AV} (hg : pArgs fs l σ = some ([.int a, .int b, .int c], σ)) (hc : (Builtin.Range.small a b c = true ∧ c ≠ 0 ∧ small c = true)) : iRange fs l σ = some (AIt.range a (Builtin.Range.rangeSize a b c) c, σ) := by
 unfold iRange
 rw [hg]
 exact if_pos hc
theorem mg_args {σ : AH} {q : Nat} {cs : List Wo} {a1 v12 : AV} {n : Nat} (hq : σ[q]? = some (.list (aSs cs))) (hlen : cs.length = n + 1) (hl : cs.length ≤ 1000) :
  pArgs [pBin oSub (pCall fLen [pVar 11]) (pConst (.int 1)), pConst (.int 0), pNeg (pConst (.int 1))] [a0, a1, v2, v3, v4, v5, v6, v7, v8, v9, v10, .ref q, v12, v13] σ = some ([.int (n : Int), .int 0, .int (-1)], σ) := by
 have hle : (aSs cs).length ≤ 1000000 := by rw [aSs_length]; exact zG hl (by decide)
 have eL : ((aSs cs).length : Int) - 1 = (n : Int) := by rw [aSs_length, hlen]; exact o42
 simp only [pArgs, pBin, pCall, pVar, pConst, pNeg, zS, zZ, zB, fLen, hq, hle, if_true, oSub_i, eL]
theorem mg_range {σ : AH} {q : Nat} {cs : List Wo} {a1 v12 : AV} {n : Nat} (hq : σ[q]? = some (.list (aSs cs))) (hlen : cs.length = n + 1) (hl : cs.length ≤ 1000) :
  iRange [pBin oSub (pCall fLen [pVar 11]) (pConst (.int 1)), pConst (.int 0), pNeg (pConst (.int 1))] [a0, a1, v2, v3, v4, v5, v6, v7, v8, v9, v10, .ref q, v12, v13] σ = some (.range ((n : Int) - ((0 : Nat) : Int)) ((n : Int) - ((0 : Nat) : Int)) (-1), σ) := by
 have e0 : (n : Int) - ((0 : Nat) : Int) = n := by exact rfl
 rw [iRange3 (mg_args hq hlen hl) ⟨range_down_small (by exact o56 (o74 hl (Eq.symm hlen))), by decide, by decide⟩, range_down_size, e0]
theorem mg_fl {σ : AH} {q : Nat} {cs : List Wo} {a1 v12 : AV} {n : Nat} (hq : σ[q]? = some (.list (aSs cs))) (hok : okAdj cs = true) (hl : cs.length ≤ 1000) (hlen : cs.length = n + 1) :
  ∃ v12', fLoop (.nm 12) trMg FUEL (.range ((n : Int) - ((0 : Nat) : Int)) ((n : Int) - ((0 : Nat) : Int)) (-1)) [a0, a1, v2, v3, v4, v5, v6, v7, v8, v9, v10, .ref q, v12, v13] σ =
   some (.nxt, [a0, a1, v2, v3, v4, v5, v6, v7, v8, v9, v10, .ref q, v12', v13], σ) := by
 obtain ⟨l', h', e1, v12', e2, e3⟩ := fLoop_inv (tg := .nm 12) (b := trMg) (fun j => .range ((n : Int) - j) ((n : Int) - j) (-1)) (fun j l h => ∃ v12', l = [a0, a1, v2, v3, v4, v5, v6, v7, v8, v9, v10, .ref q, v12', v13] ∧ h = σ) n (fun _ => rfl)
  (fun j hj l h ⟨w, e1, e2⟩ => by
   subst e1 e2
   have h0 : (0 : Int) < (n : Int) - j := by omega
   have e3 : (n : Int) - j = ((n - j - 1 + 1 : Nat) : Int) := by omega
   have e4 : (n : Int) - j + -1 = (n : Int) - ((j + 1 : Nat) : Int) := by lia
   have e5 : (n : Int) - j - 1 = (n : Int) - ((j + 1 : Nat) : Int) := by lia
   refine ⟨.int ((n : Int) - j), h, [a0, a1, v2, v3, v4, v5, v6, v7, v8, v9, v10, .ref q, .int ((n : Int) - j), v13], .nxt, _, h, ?_, rfl, ?_, .inl rfl, .int ((n : Int) - j), rfl, rfl⟩
   ·simp only [aNext, h0, if_true, e4, e5]
   ·rw [e3]
    exact mg_turn hq hok (by omega) hl)
  (fun l h ⟨w, e1, e2⟩ => ⟨.range ((n : Int) - (n : Nat)) ((n : Int) - (n : Nat)) (-1), by
   have h0 : ¬ (0 : Int) < (n : Int) - (n : Int) := by lia
   simp only [aNext, h0, if_false]⟩)
  n 0 FUEL [a0, a1, v2, v3, v4, v5, v6, v7, v8, v9, v10, .ref q, v12, v13] σ (by exact Nat.zero_add _) (by unfold FUEL; exact zK (o71 hlen) (zG hl (by decide))) ⟨v12, rfl, rfl⟩
 subst e2 e3
 exact ⟨v12', e1⟩
theorem mg_loop {σ : AH} {q : Nat} {cs : List Wo} {a1 v12 : AV} (hq : σ[q]? = some (.list (aSs cs))) (hok : okAdj cs = true) (hl : cs.length ≤ 1000) (hne : cs ≠ []) :
  ∃ v12', sFor (iRange [pBin oSub (pCall fLen [pVar 11]) (pConst (.int 1)), pConst (.int 0), pNeg (pConst (.int 1))]) (.nm 12) trMg [a0, a1, v2, v3, v4, v5, v6, v7, v8, v9, v10, .ref q, v12, v13] σ =
   some (.nxt, [a0, a1, v2, v3, v4, v5, v6, v7, v8, v9, v10, .ref q, v12', v13], σ) := by
 have hlen : cs.length = (cs.length - 1) + 1 := by
  have : 0 < cs.length := by cases cs with | nil => exact absurd rfl hne | cons _ _ => simp
  lia
 obtain ⟨v12', e⟩ := mg_fl (a0 := a0) (a1 := a1) (v2 := v2) (v3 := v3) (v4 := v4) (v5 := v5) (v6 := v6) (v7 := v7) (v8 := v8) (v9 := v9) (v10 := v10) (v12 := v12) (v13 := v13) hq hok hl hlen
 refine ⟨v12', ?_⟩
 unfold sFor
 rw [mg_range hq hlen hl]
 exact e
end
end QR
noncomputable section QS
open PySem
set_option maxHeartbeats 1000000
noncomputable abbrev lamP : Pos := ⟨73, 39, 73, 76⟩
theorem join_len (sep : List Nat) : ∀ ys : List (List Nat), (joinL sep ys).length ≤ (ys.map (·.length)).sum + ys.length * sep.length
 | [] => by simp [joinL]
 | [x] => by simp [joinL]
 | x :: y :: r => by
  have := join_len sep (y :: r)
  simp only [joinL, List.length_append, List.map_cons, List.sum_cons, List.length_cons, Nat.add_mul, Nat.one_mul] at this ⊢
  lia
theorem sum_le' : ∀ (ys : List (List Nat)) (b : Nat), (∀ y ∈ ys, y.length ≤ b) → (ys.map (·.length)).sum ≤ ys.length * b := fun ys b h => sum_le h
theorem repl_len (c : Nat) (z : List Nat) (hz : z.length ≤ 2) : ∀ t : List Nat, (repl c z t).length ≤ 2 * t.length
 | [] => by simp [repl]
 | d :: t => by
  have ih := repl_len c z hz t
  unfold repl at ih ⊢
  rw [List.flatMap_cons, List.length_append, List.length_cons]
  have : (if d = c then z else [d]).length ≤ 2 := by
   split
   ·exact hz
   ·simp
  exact o18 ih this
theorem chLoop_len {bd : List Nat} : ∀ (f i k : Nat) (cs cs' : List Wo) (i' : Nat), chLoop bd f i k cs = some (cs', i') → (∀ c ∈ cs, c.length ≤ bd.length) → ∀ c ∈ cs', c.length ≤ bd.length
 | 0, _, _, _, _, _, e, _ => by cases e
 | f + 1, i, k, cs, cs', i', e, h => by
  unfold chLoop at e
  split at e
  ·cases e; exact h
  ·rename_i k' hk
   refine chLoop_len f _ _ _ _ _ e fun c hc => ?_
   rcases List.mem_append.mp hc with hc | hc
   ·exact h c hc
   ·rw [zL hc, List.length_drop, List.length_take]; exact o16
theorem chunks_len {bd : List Nat} {cs : List Wo} (e : chunksOf bd = some cs) : ∀ c ∈ cs, c.length ≤ bd.length + 1 := by
 unfold chunksOf at e
 refine bindP e fun cs₀ i e1 e2 => ?_
 have h0 := chLoop_len _ _ _ _ _ _ e1 (fun c hc => by cases hc)
 simp only at e2
 split at e2
 ·cases e2
  intro c hc
  rcases List.mem_append.mp hc with hc | hc
  ·exact Nat.le_succ_of_le (h0 c hc)
  ·rw [zL hc, List.length_drop]; exact o64 (Nat.le_add_right _ _)
 ·split at e2
  ·cases e2
  ·rename_i l hl
   cases e2
   intro c hc
   rcases List.mem_append.mp hc with hc | hc
   ·exact Nat.le_succ_of_le (h0 c ((List.dropLast_sublist cs₀).subset hc))
   ·rw [zL hc, List.length_append]
    have := h0 l (List.mem_of_getLast? hl)
    simp; omega
section
variable {pat bd rest : List Nat} {o : Nat} {a0 v2 v3 v4 v5 v8 v10 v11 v12 v13 : AV} {n : Int}
theorem ch_spec {P : Addr} {lam : Option Nat} {h : AH} {cs : List Wo} (hp : pat.drop o = bd ++ rest) (hpl : pat.length < 90000) (hb : bd ≠ []) (hbl : bd.length ≤ 100) (hch : chunksOf bd = some cs) (hok : okAdj cs = true) (hcl : cs.length ≤ 100) (h0 : h[0]? = some (.tab P lamP lam)) :
  ∃ (a6 a11 a12 a13 : AV) (h' : AH), trCh P [a0, .str pat, v2, v3, v4, v5, .int (o : Nat), .int n, v8, .int ((o + bd.length : Nat) : Int), v10, v11, v12, v13] h =
   some (.nxt, [a0, .str pat, v2, v3, v4, v5, a6, .int n, v8, .int ((o + bd.length : Nat) : Int), .str (joinL [45] (cs.map esc2)), a11, a12, a13], h') ∧ Kp h h' := by
 obtain ⟨x, bd', hbd⟩ : ∃ x bd', bd = x :: bd' := by cases bd with | nil => exact absurd rfl hb | cons x r => exact ⟨x, r, rfl⟩
 have ho : o ≤ pat.length := Nat.le_of_lt (drop_lt hp (by rw [hbd]; simp))
 have hlenall := chunks_len hch
 unfold chunksOf at hch
 refine bindP hch fun cs₀ i' e1 e2 => ?_
 simp only at e2
 generalize hk0 : (if bd.head? == some 33 then 2 else 1 : Nat) = k0 at e1
 have kA := Kp.app h [AObj.list []]
 obtain ⟨k', h1, g1, g2, g3, g4, g5⟩ := chw_loop (a0 := a0) (v2 := v2) (v3 := v3) (v4 := v4) (v5 := v5) (v8 := v8) (v10 := v10) (v13 := v13) (n := n) hp ho hpl (q := h.length) 100 FUEL 0 k0 [] cs₀ i' (h ++ [AObj.list []]) e1 (by unfold FUEL; exact (by decide)) (by exact Nat.zero_le _) (get_new _ _) (by simp)
 have kB : Kp h h1 := fun i y e => g3 i y (by have := (zC e).1; exact o26 this) (kA _ _ e)
 have hle : pat.length ≤ 1000000 := by exact Nat.le_of_lt (zK hpl (by decide))
 have hsl := sub_sl hp ho (i := i') (j := bd.length) (Nat.le_refl _) g4
 rw [List.take_length] at hsl
 have it0 : aItem (.str pat) (.int (o : Nat)) (h ++ [AObj.list []]) = some (.str [x], h ++ [AObj.list []]) := aItem_str _ (by have := at_drop hp 0; rw [Nat.add_zero] at this; rw [this, hbd]; rfl) (by exact zF ho (zK hpl (by decide)))
 have ce : ∀ (a b : Wo) (h : AH), cEq (.str a) (.str b) h = some (a == b) := fun _ _ _ => rfl
 have s12 : pIte (pCmpB cEq (pBin aItem (pVar 1) (pVar 6)) (pConst (.str [33]))) (pBin oAdd (pVar 6) (pConst (.int 2))) (pBin oAdd (pVar 6) (pConst (.int 1))) [a0, .str pat, v2, v3, v4, v5, .int (o : Nat), .int n, v8, .int ((o + bd.length : Nat) : Int), v10, .ref h.length, v12, v13] (h ++ [AObj.list []]) = some (.int ((o + k0 : Nat) : Int), h ++ [AObj.list []]) := by
  have x2 : ((o : Nat) : Int) + 2 = ((o + 2 : Nat) : Int) := by exact rfl
  have x1 : ((o : Nat) : Int) + 1 = ((o + 1 : Nat) : Int) := by exact rfl
  simp only [pIte, pCmpB, pBin, pVar, pConst, zS, zZ, zB, it0, ce, zM, oAdd_i, oAdd_s]
  rw [← hk0, hbd]
  by_cases hx : x = 33
  ·subst hx
   simp only [show (([33] : Wo) == [33]) = true from rfl, if_true, List.head?_cons, show (some 33 == some 33) = true from rfl, x2]
  ·have h1 : (([x] : Wo) == [33]) = false := by simp [hx]
   have h2 : (some x == some 33) = false := by simp [hx]
   simp only [h1, h2, List.head?_cons, Bool.false_eq_true, if_false, x1]
 change wLoop (pTruth (pConst (.bool true))) trCW FUEL [a0, .str pat, v2, v3, v4, v5, .int (o : Nat), .int n, v8, .int ((o + bd.length : Nat) : Int), v10, .ref h.length, .int ((o + k0 : Nat) : Int), v13] _ = _ at g1
 have s13 : pSlice (pVar 1) (some (pVar 6)) (some (pVar 9)) [a0, .str pat, v2, v3, v4, v5, .int ((o + i' : Nat) : Int), .int n, v8, .int ((o + bd.length : Nat) : Int), v10, .ref h.length, k', v13] h1 = some (.str (bd.drop i'), h1) := by
  simp only [pSlice, pPart, pVar, zS, zZ, zB, aSlice, hle, if_true, hsl]
 have mid : ∃ h2, sSeq (sIf (pTruth (pVar 13)) (sSeq (sExpr (pMeth .list mAppend (pVar 11) [pVar 13])) sNil) (sSeq (sAugIt (pVar 11) (pNeg (pConst (.int 1))) oAdd (pConst (.str [45]))) sNil)) sNil
   [a0, .str pat, v2, v3, v4, v5, .int ((o + i' : Nat) : Int), .int n, v8, .int ((o + bd.length : Nat) : Int), v10, .ref h.length, k', .str (bd.drop i')] h1 = some (.nxt, [a0, .str pat, v2, v3, v4, v5, .int ((o + i' : Nat) : Int), .int n, v8, .int ((o + bd.length : Nat) : Int), v10, .ref h.length, k', .str (bd.drop i')], h2) ∧
   h2[h.length]? = some (.list (aSs cs)) ∧ Kp h h2 := by
  have hdl : (bd.drop i').length ≤ 1000000 := by rw [List.length_drop]; exact o64 (zG hbl (by decide))
  have hcl' : (aSs cs₀).length ≤ 1000000 := by rw [aSs_length]; exact zG g5 (by decide)
  have hT : ∀ b, (!(bd.drop i').isEmpty) = b → pTruth (pVar 13) [a0, .str pat, v2, v3, v4, v5, .int ((o + i' : Nat) : Int), .int n, v8, .int ((o + bd.length : Nat) : Int), v10, .ref h.length, k', .str (bd.drop i')] h1 = some (b, h1) := fun b hb => by
   simp only [pTruth, pVar, zS, zZ, zB, aTruth, hdl, if_true, zM, hb]
  by_cases hd : bd.drop i' = []
  ·rw [if_neg (by simp [hd])] at e2
   split at e2
   ·cases e2
   ·rename_i l hl
    cases e2
    have hll : l.length + [45].length ≤ 1000000 := by
     have := chLoop_len _ _ _ _ _ _ e1 (fun c hc => by cases hc) l (List.mem_of_getLast? hl)
     simp; exact zG this (zG hbl (by decide))
    refine ⟨h1.set h.length (.list (aSs (cs₀.dropLast ++ [l ++ [45]]))), ?_, set_get g2, kB.set (Nat.le_refl _) _⟩
    rw [seq_iff (hT false (by rw [hd]; rfl))]
    rw [seq_seq (o := .nxt) (l' := [a0, .str pat, v2, v3, v4, v5, .int ((o + i' : Nat) : Int), .int n, v8, .int ((o + bd.length : Nat) : Int), v10, .ref h.length, k', .str (bd.drop i')]) (h' := h1.set h.length (.list (aSs (cs₀.dropLast ++ [l ++ [45]])))) (by
     simp only [sSeq, sAugIt, pVar, pNeg, pConst, zS, zZ, zB, last_list g2 hl, oAdd_i, oAdd_s, hll, if_true, set_last g2 hl, zM, sNil])]
    rfl
  ·rw [if_pos hd] at e2
   cases e2
   have happ : aSs cs₀ ++ [AV.str (bd.drop i')] = aSs (cs₀ ++ [bd.drop i']) := by rw [aSs_append]; rfl
   refine ⟨h1.set h.length (.list (aSs (cs₀ ++ [bd.drop i']))), ?_, set_get g2, kB.set (Nat.le_refl _) _⟩
   rw [seq_ift (hT true (by cases q : bd.drop i' with | nil => exact absurd q hd | cons _ _ => rfl))]
   rw [seq_seq (o := .nxt) (l' := [a0, .str pat, v2, v3, v4, v5, .int ((o + i' : Nat) : Int), .int n, v8, .int ((o + bd.length : Nat) : Int), v10, .ref h.length, k', .str (bd.drop i')]) (h' := h1.set h.length (.list (aSs (cs₀ ++ [bd.drop i'])))) (by
    rw [seq_expr (h' := h1.set h.length (.list (aSs (cs₀ ++ [bd.drop i'])))) (by
     simp only [pMeth, pVar, pArgs, SKind.ok, zS, zZ, zB, g2, if_true, mAppend, hcl', happ])]
    rfl)]
   rfl
 refine xEAA mid fun h2 m1 m2 m3 => ?_
 have hcne : cs ≠ [] := by
  intro e
  subst e
  split at e2
  ·simp at e2
  ·split at e2 <;> simp at e2
 obtain ⟨v12', m4⟩ := mg_loop (a0 := a0) (a1 := .str pat) (v2 := v2) (v3 := v3) (v4 := v4) (v5 := v5) (v6 := .int ((o + i' : Nat) : Int)) (v7 := .int n) (v8 := v8) (v9 := .int ((o + bd.length : Nat) : Int)) (v10 := v10) (v12 := k') (v13 := .str (bd.drop i')) m2 hok (by exact zG hcl (by decide)) hcne
 have hj : pJoinG P ⟨72, 37, 72, 98⟩ 11 [45] (fun t => Mine.repl 45 [92, 45] (Mine.repl 92 [92, 92] t)) [a0, .str pat, v2, v3, v4, v5, .int ((o + i' : Nat) : Int), .int n, v8, .int ((o + bd.length : Nat) : Int), v10, .ref h.length, v12', .str (bd.drop i')] h2 = some (.str (joinL [45] (cs.map esc2)), h2) := by
  have hf : (fun t => Mine.repl 45 [92, 45] (Mine.repl 92 [92, 92] t)) = esc2 := rfl
  have hsum : ((cs.map esc2).map (·.length)).sum ≤ cs.length * 404 := by
   have := sum_le' (cs.map esc2) 404 (fun y hy => by
    refine xEA (List.mem_map.mp hy) fun c hc hrf => ?_; subst hrf
    have h1 := hlenall c hc
    have h2 := repl_len 92 [92, 92] (by decide) c
    have h3 := repl_len 45 [92, 45] (by decide) (repl 92 [92, 92] c)
    unfold esc2
    lia)
   rwa [List.length_map] at this
  have hc : True ∧ ((((72 : Nat) : Int) == ((73 : Nat) : Int) && ((37 : Nat) : Int) == ((39 : Nat) : Int)) = false) ∧ (∀ t ∈ cs, t.length ≤ 1000) ∧ cs.length ≤ 1000 ∧ ((cs.map esc2).map (·.length)).sum + cs.length * [45].length ≤ 1000000 :=
   ⟨trivial, rfl, fun t ht => by have := hlenall t ht; lia, by exact zG hcl (by decide), by simp only [List.length_cons, List.length_nil]; lia⟩
  unfold pJoinG
  simp only [zS, zZ, m2, m3 _ _ h0, allStr_aSs, zB, hf]
  exact if_pos hc
 refine ⟨.int ((o + i' : Nat) : Int), .ref h.length, v12', .str (bd.drop i'), h2, ?_, m3⟩
 unfold trCh
 rw [seq_asg (v := .ref h.length) (h' := h ++ [AObj.list []]) rfl]
 simp only [zU, zV]
 rw [seq_asg s12]
 simp only [zU, zV]
 rw [seq_nxt (f := sWhile _ _) g1]
 rw [seq_asg s13]
 simp only [zU, zV]
 rw [show ∀ (f g : PS) (l l' : List AV) (a b : AH) , sSeq f sNil l a = some (.nxt, l', b) → sSeq f g l a = g l' b from fun f g l l' a b e => by
  have : f l a = some (.nxt, l', b) := by
   simp only [sSeq] at e
   cases hf : f l a with
   | none => rw [hf] at e; cases e
   | some p =>
    rw [hf] at e
    obtain ⟨fl, l1, b1⟩ := p
    cases fl <;> simp [sNil] at e
    ·obtain ⟨rfl, rfl⟩ := e; rfl
  exact seq_nxt this]
 ·rw [seq_nxt m4, seq_asg hj]
  rfl
 ·exact m1
end
end QS
noncomputable section QT
open PySem
set_option maxHeartbeats 1000000
noncomputable def Tb (P : Addr) (h : AH) : Prop := ∃ lam, h[0]? = some (.tab P lamP lam) ∧ ∀ k, lam = some k → h[k]? = some .code
theorem Tb.mono {P : Addr} {h h' : AH} (k : Kp h h') (x : Tb P h) : Tb P h' := let ⟨lam, a, b⟩ := x; ⟨lam, k _ _ a, fun j e => k _ _ (b j e)⟩
noncomputable def K0 (h h' : AH) : Prop := ∀ (i : Nat) (x : AObj), i ≠ 0 → h[i]? = some x → h'[i]? = some x
theorem K0.refl (h : AH) : K0 h h := fun _ _ _ e => e
theorem K0.trans {a b c : AH} (x : K0 a b) (y : K0 b c) : K0 a c := fun i o n e => y i o n (x i o n e)
theorem Kp.k0 {h h' : AH} (k : Kp h h') : K0 h h' := fun i x _ e => k i x e
theorem sub_spec {P : Addr} {h : AH} {l : List AV} {t : List Nat} (hl : l[10]? = some (.str t)) (ht : t.length ≤ 10000) (T : Tb P h) : ∃ h', pSubL P lamP 10 l h = some (.str (subM t), h') ∧ Tb P h' ∧ K0 h h' := by
 refine xEA T fun lam e1 e2 => ?_
 have hc : P = P ∧ lamP = lamP := ⟨rfl, rfl⟩
 cases lam with
 | none =>
  refine ⟨h.set 0 (.tab P lamP (some h.length)) ++ [.code], ?_, ⟨some h.length, ?_, fun k e => ?_⟩, fun i x n e => ?_⟩
  ·unfold pSubL
   simp only [hl, ht, if_true, e1, if_pos hc]
   simp
  ·exact Kp.app _ _ _ _ (set_get e1)
  ·cases e
   have := get_new (h.set 0 (.tab P lamP (some h.length))) .code
   rwa [List.length_set] at this
  ·exact Kp.app _ _ _ _ (by rw [set_ne _ n]; exact e)
 | some k =>
  have e3 := e2 k rfl
  refine ⟨h, ?_, ⟨some k, e1, e2⟩, .refl _⟩
  unfold pSubL
  simp only [hl, ht, if_true, e1, e3, if_pos hc]
  simp
theorem subM_len : ∀ t : List Nat, (subM t).length ≤ 2 * t.length
 | [] => by simp [subM]
 | c :: t => by
  have ih := subM_len t
  unfold subM at ih ⊢
  rw [List.flatMap_cons, List.length_append, List.length_cons]
  have : (if isM c then [92, c] else [c]).length ≤ 2 := by split <;> simp
  exact o18 ih this
section
variable {pat : List Nat} {a0 v1 v2 v3 v4 v6 v7 v8 v9 v11 v12 v13 : AV}
theorem fin_spec {st out : List Nat} {h : AH} {m r : Nat} {outs : List Wo} (hf : fin st = some out) (hl : st.length ≤ 2000) (hm : h[m]? = some (.meth r)) (hr : h[r]? = some (.list (aSs outs))) (hol : outs.length ≤ 1000) :
  ∃ (v10 : AV) (h' : AH), trFin [a0, v1, v2, v3, v4, .ref m, v6, v7, v8, v9, .str st, v11, v12, v13] h = some (.nxt, [a0, v1, v2, v3, v4, .ref m, v6, v7, v8, v9, v10, v11, v12, v13], h') ∧ h'[r]? = some (.list (aSs (outs ++ [[91] ++ out ++ [93]]))) ∧ (∀ i x, i ≠ r → h[i]? = some x → h'[i]? = some x) := by
 have ce : ∀ (a b : Wo) (h : AH), cEq (.str a) (.str b) h = some (a == b) := fun _ _ _ => rfl
 have last : ∀ (w : List Nat) (h : AH), w.length ≤ 3000 → h[m]? = some (.meth r) → h[r]? = some (.list (aSs outs)) → sSeq (sExpr (pCallM 5 [pJoin3 (pConst (.str [91])) (pFmt (pVar 10)) (pConst (.str [93]))])) sNil [a0, v1, v2, v3, v4, .ref m, v6, v7, v8, v9, .str w, v11, v12, v13] h =
   some (.nxt, [a0, v1, v2, v3, v4, .ref m, v6, v7, v8, v9, .str w, v11, v12, v13], h.set r (.list (aSs (outs ++ [[91] ++ w ++ [93]])))) := fun w h hw hm hr => by
  have l1 : w.length ≤ 1000000 := by exact zG hw (by decide)
  have l2 : [91].length + w.length + [93].length ≤ 1000000 := by simp; lia
  have l3 : (aSs outs).length ≤ 1000000 := by rw [aSs_length]; exact zG hol (by decide)
  have happ : aSs outs ++ [AV.str ([91] ++ w ++ [93])] = aSs (outs ++ [[91] ++ w ++ [93]]) := by rw [aSs_append]; rfl
  rw [seq_expr (h' := h.set r (.list (aSs (outs ++ [[91] ++ w ++ [93]])))) (by
   simp only [pCallM, pCall, pArgs, pJoin3, pFmt, pConst, pVar, zS, zZ, zB, l1, if_true, l2, fMeth, hm, mAppend, hr, l3, happ])]
  rfl
 have keep : ∀ (h : AH) (w : List Nat), ∀ i x, i ≠ r → h[i]? = some x → (h.set r (.list (aSs (outs ++ [w]))))[i]? = some x := fun h w i x n e => by rw [set_ne _ n]; exact e
 match st, hf, hl with
 | x :: rr, hf, hl =>
  have it0 : ∀ h : AH, aItem (.str (x :: rr)) (.int 0) h = some (.str [x], h) := fun h => aItem_str (i := 0) h rfl (by decide)
  simp only [List.length_cons] at hl
  have test : ∀ h : AH, pCmpB cEq (pBin aItem (pVar 10) (pConst (.int 0))) (pConst (.str [33])) [a0, v1, v2, v3, v4, .ref m, v6, v7, v8, v9, .str (x :: rr), v11, v12, v13] h = some (([x] : Wo) == [33], h) := fun h => by
   simp only [pCmpB, pBin, pVar, pConst, zS, zZ, zB, it0, ce, zM]
  unfold fin at hf
  unfold trFin
  simp only at hf
  by_cases hx : x = 33
  ·rw [if_pos hx] at hf
   split at hf
   ·cases hf
   ·cases hf
    subst hx
    have hle : (33 :: rr : List Nat).length ≤ 1000000 := by simp; exact o56 (zG hl (by decide))
    have hsl : aSl (33 :: rr) (some 1) none = rr := by
     have : clipN 1 (33 :: rr : List Nat).length = 1 := clip_of (k := 1) (Nat.succ_le_succ (Nat.zero_le _))
     simp only [aSl, Option.elim, this, List.take_length]
     rfl
    have l1 : [94].length + rr.length ≤ 1000000 := by simp; lia
    rw [seq_ift (h' := h) (by rw [test]; rfl)]
    rw [seq_seq (o := .nxt) (l' := [a0, v1, v2, v3, v4, .ref m, v6, v7, v8, v9, .str (94 :: rr), v11, v12, v13]) (h' := h) (by
     rw [seq_asg (v := .str (94 :: rr)) (h' := h) (by
      simp only [pBin, pSlice, pPart, pVar, pConst, zS, zZ, zB, aSlice, hle, if_true, hsl, oAdd_i, oAdd_s, l1]
      rfl)]
     rfl)]
    exact ⟨_, _, last (94 :: rr) h (by simp; exact o56 (zG hl (by decide))) hm hr, set_get hr, keep h _⟩
  ·rw [if_neg hx] at hf
   have hxe : (([x] : Wo) == [33]) = false := by simp [hx]
   have kt := Kp.app h [AObj.tup [.str [94], .str [91]]]
   have test2 : pCmpB cIn (pBin aItem (pVar 10) (pConst (.int 0))) (pTup [pConst (.str [94]), pConst (.str [91])]) [a0, v1, v2, v3, v4, .ref m, v6, v7, v8, v9, .str (x :: rr), v11, v12, v13] h = some (decide (x = 94 ∨ x = 91), h ++ [AObj.tup [.str [94], .str [91]]]) := by
    have hin : cIn (.str [x]) (.ref h.length) (h ++ [AObj.tup [.str [94], .str [91]]]) = some (decide (x = 94 ∨ x = 91)) := by
     show inRef _ _ _ = _
     unfold inRef
     rw [get_new]
     show some (([94] : Wo) == [x] || (([91] : Wo) == [x] || false)) = _
     congr 1
     rw [Bool.eq_iff_iff]
     simp
     constructor <;> rintro (h | h) <;> simp [h]
    simp only [pCmpB, pBin, pVar, pConst, pTup, pArgs, zS, zZ, zB, it0, hin, zM]
   rw [seq_iff (h' := h) (by rw [test, hxe])]
   by_cases hx2 : x = 94 ∨ x = 91
   ·rw [if_pos hx2] at hf
    cases hf
    have l1 : [92].length + (x :: rr).length ≤ 1000000 := by simp; lia
    rw [seq_seq (o := .nxt) (l' := [a0, v1, v2, v3, v4, .ref m, v6, v7, v8, v9, .str (92 :: x :: rr), v11, v12, v13]) (h' := h ++ [AObj.tup [.str [94], .str [91]]]) (by
     rw [seq_ift (h' := h ++ [AObj.tup [.str [94], .str [91]]]) (by rw [test2, decide_eq_true hx2])]
     rw [seq_seq (o := .nxt) (l' := [a0, v1, v2, v3, v4, .ref m, v6, v7, v8, v9, .str (92 :: x :: rr), v11, v12, v13]) (h' := h ++ [AObj.tup [.str [94], .str [91]]]) (by
      rw [seq_asg (v := .str (92 :: x :: rr)) (h' := h ++ [AObj.tup [.str [94], .str [91]]]) (by
       simp only [pBin, pVar, pConst, zS, zZ, zB, oAdd_i, oAdd_s, l1, if_true]
       rfl)]
      rfl)]
     rfl)]
    exact ⟨_, _, last (92 :: x :: rr) _ (by simp; exact o56 (zG hl (by decide))) (kt _ _ hm) (kt _ _ hr), set_get (kt _ _ hr), fun i y n e => keep _ _ i y n (kt _ _ e)⟩
   ·rw [if_neg hx2] at hf
    cases hf
    rw [seq_seq (o := .nxt) (l' := [a0, v1, v2, v3, v4, .ref m, v6, v7, v8, v9, .str (x :: rr), v11, v12, v13]) (h' := h ++ [AObj.tup [.str [94], .str [91]]]) (by
     rw [seq_iff (h' := h ++ [AObj.tup [.str [94], .str [91]]]) (by rw [test2, decide_eq_false hx2])]
     rfl)]
    exact ⟨_, _, last (x :: rr) _ (by simp; exact o56 (zG hl (by decide))) (kt _ _ hm) (kt _ _ hr), set_get (kt _ _ hr), fun i y n e => keep _ _ i y n (kt _ _ e)⟩
end
end QT
noncomputable section QU
open PySem
set_option maxHeartbeats 1000000
section
variable {pat bd rest : List Nat} {o : Nat} {a0 v2 v3 v4 v6 v7 v8 v10 v11 v12 v13 : AV} {n : Int}
theorem tail_spec {P : Addr} {st out : List Nat} {h : AH} {m r : Nat} {outs : List Wo} {j : Nat} {v1 : AV} (hf : fin (subM st) = some out) (hl : st.length ≤ 1000) (T : Tb P h) (hm : h[m]? = some (.meth r)) (hr : h[r]? = some (.list (aSs outs))) (hol : outs.length ≤ 1000) (hm0 : m ≠ 0) (hr0 : r ≠ 0) :
  ∃ (v10' : AV) (h' : AH), trTail P [a0, v1, v2, v3, v4, .ref m, v6, v7, v8, .int (j : Nat), .str st, v11, v12, v13] h = some (.nxt, [a0, v1, v2, v3, v4, .ref m, .int ((j + 1 : Nat) : Int), v7, v8, .int (j : Nat), v10', v11, v12, v13], h') ∧ h'[r]? = some (.list (aSs (outs ++ [[91] ++ out ++ [93]]))) ∧ Tb P h' ∧
   (∀ i x, i ≠ 0 → i ≠ r → h[i]? = some x → h'[i]? = some x) := by
 refine xEAA (sub_spec (l := [a0, v1, v2, v3, v4, .ref m, v6, v7, v8, .int (j : Nat), .str st, v11, v12, v13]) (t := st) rfl (by exact zG hl (by decide)) T) fun h1 e1 e2 e3 => ?_
 have hs := subM_len st
 refine xEEAA (fin_spec (a0 := a0) (v1 := v1) (v2 := v2) (v3 := v3) (v4 := v4) (v6 := .int ((j + 1 : Nat) : Int)) (v7 := v7) (v8 := v8) (v9 := .int (j : Nat)) (v11 := v11) (v12 := v12) (v13 := v13) hf (by lia) (e3 _ _ hm0 hm) (e3 _ _ hr0 hr) hol) fun v10' h' f1 f2 f3 => ?_
 have hle : (subM st).length ≤ 1000000 := by lia
 have hne : (subM st).isEmpty = false := by
  cases q : subM st with
  | nil => rw [q] at hf; cases hf
  | cons _ _ => rfl
 have hn33 : ((subM st) == [33]) = false := by
  rw [beq_eq_false_iff_ne]
  intro q
  rw [q] at hf
  simp [fin] at hf
 have ce : ∀ (a b : Wo) (h : AH), cEq (.str a) (.str b) h = some (a == b) := fun _ _ _ => rfl
 have ej : ((j : Nat) : Int) + 1 = ((j + 1 : Nat) : Int) := by exact rfl
 refine ⟨v10', h', ?_, f2, ?_, fun i x n0 n e => f3 i x n (e3 i x n0 e)⟩
 ·unfold trTail
  rw [seq_asg e1]
  simp only [zU, zV]
  rw [seq_asg (v := .int ((j + 1 : Nat) : Int)) (h' := h1) (by simp only [pBin, pVar, pConst, zS, zZ, zB, oAdd_i, oAdd_s, ej])]
  simp only [zU, zV]
  rw [seq_iff (h' := h1) (by simp only [pNot, pTruth, pVar, zS, zZ, zB, aTruth, hle, if_true, hne, zM]; rfl)]
  rw [seq_seq (o := .nxt) (l' := [a0, v1, v2, v3, v4, .ref m, .int ((j + 1 : Nat) : Int), v7, v8, .int (j : Nat), v10', v11, v12, v13]) (h' := h') (by
   rw [seq_iff (h' := h1) (by simp only [pCmpB, pVar, pConst, zS, zZ, zB, ce, hn33, zM])]
   rw [seq_nxt f1]; rfl)]
  rfl
 ·refine xEA e2 fun lam t1 t2 => ?_
  have hr1 := e3 _ _ hr0 hr
  refine ⟨lam, f3 _ _ (Ne.symm hr0) t1, fun k ek => f3 _ _ (fun en => ?_) (t2 k ek)⟩
  have := t2 k ek
  rw [en, hr1] at this; cases this
theorem rest_spec {P : Addr} {out : List Nat} {h : AH} {m r : Nat} {outs : List Wo} (hp : pat.drop o = bd ++ rest) (hpl : pat.length < 90000) (hb : bd ≠ []) (hg : trG bd = some out) (T : Tb P h) (hm : h[m]? = some (.meth r)) (hr : h[r]? = some (.list (aSs outs))) (hol : outs.length ≤ 1000) (hm0 : m ≠ 0) (hr0 : r ≠ 0) :
  ∃ (b10 b11 b12 b13 : AV) (h' : AH), trRest P [a0, .str pat, v2, v3, v4, .ref m, .int (o : Nat), .int n, v8, .int ((o + bd.length : Nat) : Int), v10, v11, v12, v13] h =
   some (.nxt, [a0, .str pat, v2, v3, v4, .ref m, .int ((o + bd.length + 1 : Nat) : Int), .int n, v8, .int ((o + bd.length : Nat) : Int), b10, b11, b12, b13], h') ∧ h'[r]? = some (.list (aSs (outs ++ [out]))) ∧ Tb P h' ∧
   (∀ i x, i ≠ 0 → i ≠ r → h[i]? = some x → h'[i]? = some x) := by
 unfold trG at hg
 split at hg
 ·rename_i hc
  obtain ⟨hc1, hbl⟩ := hc
  refine bindQ hg fun st e1 e2 => ?_
  split at e2
  ·rename_i hsl
   refine mapQ e2 fun o' e3 e4 => ?_
   have hple : pat.length ≤ 1000000 := by exact Nat.le_of_lt (zK hpl (by decide))
   have ho : o ≤ pat.length := Nat.le_of_lt (drop_lt hp (by cases bd with | nil => exact absurd rfl hb | cons _ _ => simp))
   have hs0 := sub_sl hp ho (i := 0) (j := bd.length) (Nat.le_refl _) (Nat.zero_le _)
   rw [List.take_length, List.drop_zero, Nat.add_zero] at hs0
   have s10 : pSlice (pVar 1) (some (pVar 6)) (some (pVar 9)) [a0, .str pat, v2, v3, v4, .ref m, .int (o : Nat), .int n, v8, .int ((o + bd.length : Nat) : Int), v10, v11, v12, v13] h = some (.str bd, h) := by
    simp only [pSlice, pPart, pVar, zS, zZ, zB, aSlice, hple, if_true, hs0]
   have mid : ∃ (a6 a11 a12 a13 : AV) (h1 : AH), sIf (pCmpB cNotIn (pConst (.str [45])) (pVar 10)) (sSeq (sAsg 10 (pRepl 92 [92, 92] (pVar 10))) sNil) (trCh P) [a0, .str pat, v2, v3, v4, .ref m, .int (o : Nat), .int n, v8, .int ((o + bd.length : Nat) : Int), .str bd, v11, v12, v13] h =
     some (.nxt, [a0, .str pat, v2, v3, v4, .ref m, a6, .int n, v8, .int ((o + bd.length : Nat) : Int), .str st, a11, a12, a13], h1) ∧ Kp h h1 := by
    have ht : pCmpB cNotIn (pConst (.str [45])) (pVar 10) [a0, .str pat, v2, v3, v4, .ref m, .int (o : Nat), .int n, v8, .int ((o + bd.length : Nat) : Int), .str bd, v11, v12, v13] h = some (!decide (45 ∈ bd), h) := by
     simp only [pCmpB, pVar, pConst, zS, zZ, zB, notIn_str, zM]
    unfold stuff0 at e1
    by_cases h45 : 45 ∈ bd
    ·rw [if_pos h45] at e1
     refine bindQ e1 fun cs e5 e6 => ?_
     split at e6
     ·rename_i hcs
      cases e6
      refine xEA T fun lam t1 _ => ?_
      obtain ⟨a6, a11, a12, a13, h1, g1, g2⟩ := ch_spec (a0 := a0) (v2 := v2) (v3 := v3) (v4 := v4) (v5 := .ref m) (v8 := v8) (v10 := .str bd) (v11 := v11) (v12 := v12) (v13 := v13) (n := n) hp hpl hb hbl e5 hcs.1 hcs.2 t1
      refine ⟨a6, a11, a12, a13, h1, ?_, g2⟩
      unfold sIf
      rw [ht]
      simp only [h45, decide_true, Bool.not_true, zB, Bool.false_eq_true, if_false]
      exact g1
     ·cases e6
    ·rw [if_neg h45] at e1
     cases e1
     refine ⟨.int (o : Nat), v11, v12, v13, h, ?_, .refl _⟩
     have hbl2 : bd.length ≤ 10000 := by exact zG hbl (by decide)
     unfold sIf
     rw [ht]
     simp only [h45, decide_false, Bool.not_false, zB, if_true]
     rw [seq_asg (v := .str (repl 92 [92, 92] bd)) (h' := h) (by simp only [pRepl, pVar, zS, zZ, zB, hbl2, if_true])]
     rfl
   obtain ⟨a6, a11, a12, a13, h1, g1, g2⟩ := mid
   obtain ⟨v10', h', f1, f2, f3, f4⟩ := tail_spec (a0 := a0) (v1 := .str pat) (v2 := v2) (v3 := v3) (v4 := v4) (v6 := a6) (v7 := .int n) (v8 := v8) (v11 := a11) (v12 := a12) (v13 := a13) (j := o + bd.length) e3 hsl (T.mono g2) (g2 _ _ hm) (g2 _ _ hr) hol hm0 hr0
   refine ⟨v10', a11, a12, a13, h', ?_, by rw [← e4]; exact f2, f3, fun i x n0 n e => f4 i x n0 n (g2 _ _ e)⟩
   unfold trRest
   rw [seq_asg s10]
   simp only [zU, zV]
   rw [seq_nxt g1]
   exact f1
  ·cases e2
 ·cases hg
theorem jt_eval {x j : Nat} {h : AH} {v5 : AV} (hx : pat[j]? = some x) (hpl : pat.length < 90000) (c : Nat) (cmp : AOpB) (b : Bool) (hc : ∀ h : AH, cmp (.str [x]) (.str [c]) h = some b) :
  pAndB (pCmpB cLt (pVar 9) (pVar 7)) (pCmpB cmp (pBin aItem (pVar 1) (pVar 9)) (pConst (.str [c]))) [a0, .str pat, v2, v3, v4, v5, v6, .int (pat.length : Nat), v8, .int (j : Nat), v10, v11, v12, v13] h = some (b, h) := by
 have hj := (zC hx).1
 have hjI : (j : Int) < (pat.length : Int) := by exact o44 hj
 have cl : ∀ (a b : Int) (h : AH), cLt (.int a) (.int b) h = some (decide (a < b)) := fun _ _ _ => rfl
 simp only [pAndB, pCmpB, pBin, pVar, pConst, zS, zZ, zB, cl, hjI, decide_true, if_true, zM, aItem_str h hx (by exact Nat.lt_trans hj (zK hpl (by decide))), hc]
theorem jb_eval {j : Nat} {h : AH} {v1 v5 : AV} : trJB [a0, v1, v2, v3, v4, v5, v6, v7, v8, .int (j : Nat), v10, v11, v12, v13] h = some (.nxt, [a0, v1, v2, v3, v4, v5, v6, v7, v8, .int ((j + 1 : Nat) : Int), v10, v11, v12, v13], h) := by
 have e : ((j : Nat) : Int) + 1 = ((j + 1 : Nat) : Int) := by exact rfl
 simp only [trJB, sSeq, sAsg, pBin, pVar, pConst, zS, zZ, zB, oAdd_i, oAdd_s, e, zM, zU, zV, sNil]
theorem j_loop {h : AH} {v5 : AV} (hpl : pat.length < 90000) : ∀ (s : List Nat) (j F : Nat) (post : List Nat), s.length < F → pat.drop j = s ++ 93 :: post → s.all (fun c => c != 93) = true →
  wLoop trJT trJB F [a0, .str pat, v2, v3, v4, v5, v6, .int (pat.length : Nat), v8, .int (j : Nat), v10, v11, v12, v13] h = some (.nxt, [a0, .str pat, v2, v3, v4, v5, v6, .int (pat.length : Nat), v8, .int ((j + s.length : Nat) : Int), v10, v11, v12, v13], h)
 | [], j, F, post, hF, hd, _ => by
  obtain ⟨F, rfl⟩ : ∃ F', F = F' + 1 := ⟨F - 1, by simp at hF; exact o65 hF⟩
  have hx : pat[j]? = some 93 := by have := at_drop hd 0; rw [Nat.add_zero] at this; rw [this]; rfl
  unfold wLoop trJT
  rw [jt_eval hx hpl 93 cNe false (fun _ => rfl)]
  rfl
 | x :: s, j, F, post, hF, hd, ha => by
  obtain ⟨F, rfl⟩ : ∃ F', F = F' + 1 := ⟨F - 1, by simp at hF; exact o65 hF⟩
  rw [List.all_cons, Bool.and_eq_true] at ha
  have hx : pat[j]? = some x := by have := at_drop hd 0; rw [Nat.add_zero] at this; rw [this]; rfl
  have hne : x ≠ 93 := by simpa using ha.1
  have hT := jt_eval (a0 := a0) (v2 := v2) (v3 := v3) (v4 := v4) (v5 := v5) (v6 := v6) (v8 := v8) (v10 := v10) (v11 := v11) (v12 := v12) (v13 := v13) (h := h) hx hpl 93 cNe true (fun _ => by simp [cNe_s, cNe_r, hne])
  unfold wLoop
  rw [show trJT = pAndB (pCmpB cLt (pVar 9) (pVar 7)) (pCmpB cNe (pBin aItem (pVar 1) (pVar 9)) (pConst (.str [93]))) from rfl, hT]
  simp only [zB, if_true, jb_eval]
  have hd2 : pat.drop (j + 1) = s ++ 93 :: post := by rw [drop_more hd 1]; rfl
  have := j_loop (h := h) (v5 := v5) hpl s (j + 1) F post (by simp at hF; omega) hd2 ha.2
  rw [show j + (x :: s).length = j + 1 + s.length by simp; exact Eq.symm (o8 rfl)]
  exact this
theorem br_spec {P : Addr} {out post : List Nat} {h : AH} {m r : Nat} {outs : List Wo} {v9 : AV} (hp : pat.drop o = bd ++ 93 :: post) (hpl : pat.length < 90000) (hg : trG bd = some out) (T : Tb P h) (hm : h[m]? = some (.meth r)) (hr : h[r]? = some (.list (aSs outs))) (hol : outs.length ≤ 1000) (hm0 : m ≠ 0) (hr0 : r ≠ 0) :
  ∃ (b9 b10 b11 b12 b13 : AV) (h' : AH), trBr P [a0, .str pat, v2, v3, v4, .ref m, .int (o : Nat), .int (pat.length : Nat), v8, v9, v10, v11, v12, v13] h =
   some (.nxt, [a0, .str pat, v2, v3, v4, .ref m, .int ((o + bd.length + 1 : Nat) : Int), .int (pat.length : Nat), v8, b9, b10, b11, b12, b13], h') ∧ h'[r]? = some (.list (aSs (outs ++ [out]))) ∧ Tb P h' ∧
   (∀ i x, i ≠ 0 → i ≠ r → h[i]? = some x → h'[i]? = some x) := by
 have hscan : scanOK bd = true := by
  unfold trG at hg
  split at hg
  ·rename_i hc; exact hc.1
  ·cases hg
 unfold scanOK at hscan
 rw [Bool.and_eq_true] at hscan
 obtain ⟨hj1, hall⟩ := hscan
 have hj1 : scJ1 bd < bd.length := by simpa using hj1
 have hb : bd ≠ [] := by intro e; subst e; simp at hj1
 have hplen : pat.length = o + (bd.length + (post.length + 1)) := by
  have := congrArg List.length hp
  rw [List.length_drop, List.length_append, List.length_cons] at this
  have := drop_lt hp (by cases bd <;> simp)
  lia
 have hat : ∀ k, k < bd.length → pat[o + k]? = bd[k]? := fun k hk => by rw [at_drop hp k, List.getElem?_append_left hk]
 obtain ⟨b10, b11, b12, b13, h', f1, f2, f3, f4⟩ := rest_spec (a0 := a0) (v2 := v2) (v3 := v3) (v4 := v4) (v8 := v8) (v10 := v10) (v11 := v11) (v12 := v12) (v13 := v13) (n := (pat.length : Nat)) hp hpl hb hg T hm hr hol hm0 hr0
 refine ⟨.int ((o + bd.length : Nat) : Int), b10, b11, b12, b13, h', ?_, f2, f3, f4⟩
 unfold trBr
 rw [seq_asg (v := .int (o : Nat)) (h' := h) (by simp only [pVar, zS, zZ])]
 simp only [zU, zV]
 have st1 : ∀ g : PS, sSeq (sIf (pAndB (pCmpB cLt (pVar 9) (pVar 7)) (pCmpB cEq (pBin aItem (pVar 1) (pVar 9)) (pConst (.str [33])))) trJB sNil) g [a0, .str pat, v2, v3, v4, .ref m, .int (o : Nat), .int (pat.length : Nat), v8, .int (o : Nat), v10, v11, v12, v13] h = g [a0, .str pat, v2, v3, v4, .ref m, .int (o : Nat), .int (pat.length : Nat), v8, .int ((o + scJ1 bd : Nat) : Int), v10, v11, v12, v13] h := fun g => by
  obtain ⟨x, bd', hbd⟩ : ∃ x bd', bd = x :: bd' := by cases bd with | nil => exact absurd rfl hb | cons x r => exact ⟨x, r, rfl⟩
  have hx : pat[o]? = some x := by have := hat 0 (by exact o58 hj1); rw [Nat.add_zero] at this; rw [this, hbd]; rfl
  have hs : scJ1 bd = if x = 33 then 1 else 0 := by unfold scJ1; rw [hbd]; simp
  rw [hs]
  by_cases hx33 : x = 33
  ·rw [if_pos hx33]
   rw [seq_ift (h' := h) (jt_eval hx hpl 33 cEq true (fun _ => by rw [hx33]; rfl)), seq_nxt jb_eval]
  ·rw [if_neg hx33]
   rw [seq_iff (h' := h) (jt_eval hx hpl 33 cEq false (fun _ => by simp [cEq_i, cEq_s, hx33])), seq_nil]
   rfl
 rw [st1]
 have st2 : ∀ g : PS, sSeq (sIf (pAndB (pCmpB cLt (pVar 9) (pVar 7)) (pCmpB cEq (pBin aItem (pVar 1) (pVar 9)) (pConst (.str [93])))) trJB sNil) g [a0, .str pat, v2, v3, v4, .ref m, .int (o : Nat), .int (pat.length : Nat), v8, .int ((o + scJ1 bd : Nat) : Int), v10, v11, v12, v13] h = g [a0, .str pat, v2, v3, v4, .ref m, .int (o : Nat), .int (pat.length : Nat), v8, .int ((o + scJ2 bd : Nat) : Int), v10, v11, v12, v13] h := fun g => by
  have hx : pat[o + scJ1 bd]? = some bd[scJ1 bd] := by rw [hat _ hj1, zH hj1]
  have hs : scJ2 bd = if bd[scJ1 bd] = 93 then scJ1 bd + 1 else scJ1 bd := by
   unfold scJ2
   rw [List.drop_eq_getElem_cons hj1, List.head?_cons]; simp
  rw [hs]
  generalize bd[scJ1 bd] = x at hx
  by_cases hx93 : x = 93
  ·rw [if_pos hx93]
   rw [seq_ift (h' := h) (jt_eval hx hpl 93 cEq true (fun _ => by rw [hx93]; rfl)), seq_nxt jb_eval]
   rfl
  ·rw [if_neg hx93]
   rw [seq_iff (h' := h) (jt_eval hx hpl 93 cEq false (fun _ => by simp [cEq_i, cEq_s, hx93])), seq_nil]
 rw [st2]
 have hj2 : scJ2 bd ≤ bd.length := by unfold scJ2; split <;> (first | exact hj1 | exact Nat.le_of_lt hj1)
 have hd3 : pat.drop (o + scJ2 bd) = bd.drop (scJ2 bd) ++ 93 :: post := by rw [drop_more hp, List.drop_append_of_le_length hj2]
 have hl := j_loop (a0 := a0) (v2 := v2) (v3 := v3) (v4 := v4) (v5 := .ref m) (v6 := .int (o : Nat)) (v8 := v8) (v10 := v10) (v11 := v11) (v12 := v12) (v13 := v13) (h := h) hpl (bd.drop (scJ2 bd)) (o + scJ2 bd) FUEL post (by rw [List.length_drop]; unfold FUEL; lia) hd3 hall
 rw [show o + scJ2 bd + (bd.drop (scJ2 bd)).length = o + bd.length by rw [List.length_drop]; lia] at hl
 rw [seq_nxt (f := sWhile _ _) hl]
 have cg : ∀ (a b : Int) (h : AH), cGe (.int a) (.int b) h = some (decide (b ≤ a)) := fun _ _ _ => rfl
 have hge : ¬ (pat.length : Int) ≤ ((o + bd.length : Nat) : Int) := by lia
 rw [seq_iff (h' := h) (by simp only [pCmpB, pVar, zS, zZ, zB, cg, hge, decide_false, zM])]
 rw [seq_nxt f1]
 rfl
end
end QU
noncomputable section QV
open PySem
set_option maxHeartbeats 1000000
noncomputable def brs (bds : List (List Nat)) : List Nat := (bds.map fun bd => [91] ++ bd ++ [93]).flatten
theorem brs_cons (bd : List Nat) (bds : List (List Nat)) : brs (bd :: bds) = 91 :: (bd ++ 93 :: brs bds) := by simp [brs]
section
variable {pat : List Nat} {a0 v2 v3 v4 : AV}
theorem tr_loop {P : Addr} {m r : Nat} (hpl : pat.length < 90000) (hm0 : m ≠ 0) (hr0 : r ≠ 0) (hmr : m ≠ r) : ∀ (bds outs' : List (List Nat)) (i F : Nat) (outs : List Wo) (h : AH) (v8 v9 v10 v11 v12 v13 : AV), All2 (fun bd out => trG bd = some out) bds outs' → bds.length < F → pat.drop i = brs bds → i ≤ pat.length → Tb P h → h[m]? = some (.meth r) → h[r]? = some (.list (aSs outs)) → outs.length + bds.length ≤ 1000 →
  ∃ (b8 b9 b10 b11 b12 b13 : AV) (h' : AH), wLoop (pCmpB cLt (pVar 6) (pVar 7)) (trB P) F [a0, .str pat, v2, v3, v4, .ref m, .int (i : Nat), .int (pat.length : Nat), v8, v9, v10, v11, v12, v13] h =
   some (.nxt, [a0, .str pat, v2, v3, v4, .ref m, .int (pat.length : Nat), .int (pat.length : Nat), b8, b9, b10, b11, b12, b13], h') ∧ h'[r]? = some (.list (aSs (outs ++ outs'))) ∧ Tb P h' ∧ (∀ i x, i ≠ 0 → i ≠ r → h[i]? = some x → h'[i]? = some x) := by
 intro bds
 induction bds with
 | nil =>
  intro outs' i F outs h v8 v9 v10 v11 v12 v13 hall hF hd hi T hm hr hol
  cases outs' with
  | cons _ _ => exact hall.elim
  | nil =>
   obtain ⟨F, rfl⟩ : ∃ F', F = F' + 1 := ⟨F - 1, by simp at hF; exact o65 hF⟩
   have hd : pat.drop i = [] := hd
   have hil : i = pat.length := by
    have := congrArg List.length hd
    rw [List.length_drop] at this
    simp at this
    lia
   subst hil
   have cl : ∀ (a b : Int) (h : AH), cLt (.int a) (.int b) h = some (decide (a < b)) := fun _ _ _ => rfl
   refine ⟨v8, v9, v10, v11, v12, v13, h, ?_, by rw [List.append_nil]; exact hr, T, fun _ _ _ _ e => e⟩
   unfold wLoop
   have : ¬ ((pat.length : Int) < (pat.length : Int)) := by exact o43
   simp only [pCmpB, pVar, zS, zZ, zB, cl, this, decide_false, zM, Bool.false_eq_true, if_false]
 | cons bd bds ih =>
  intro outs' i F outs h v8 v9 v10 v11 v12 v13 hall hF hd hi T hm hr hol
  cases outs' with
  | nil => exact hall.elim
  | cons out outs' =>
  obtain ⟨h1, h2⟩ := hall
  obtain ⟨F, rfl⟩ : ∃ F', F = F' + 1 := ⟨F - 1, by simp at hF; exact o65 hF⟩
  rw [brs_cons] at hd
  have hx : pat[i]? = some 91 := by have := at_drop hd 0; rw [Nat.add_zero] at this; rw [this]; rfl
  have hil := (zC hx).1
  have hd1 : pat.drop (i + 1) = bd ++ 93 :: brs bds := by rw [drop_more hd 1]; rfl
  have hd2 : pat.drop (i + 1 + bd.length + 1) = brs bds := by
   rw [show i + 1 + bd.length + 1 = (i + 1) + (bd.length + 1) by exact rfl, drop_more hd1]
   rw [← List.drop_drop, List.drop_left]; rfl
  have hle : i + 1 + bd.length + 1 ≤ pat.length := by
   have := congrArg List.length hd1
   rw [List.length_drop, List.length_append, List.length_cons] at this
   omega
  simp only [List.length_cons] at hol
  obtain ⟨b9, b10, b11, b12, b13, h', g1, g2, g3, g4⟩ := br_spec (a0 := a0) (v2 := v2) (v3 := v3) (v4 := v4) (v8 := .str [91]) (v9 := v9) (v10 := v10) (v11 := v11) (v12 := v12) (v13 := v13) hd1 hpl h1 T hm hr (by exact o56 hol) hm0 hr0
  have ce : ∀ (a b : Wo) (h : AH), cEq (.str a) (.str b) h = some (a == b) := fun _ _ _ => rfl
  have cl : ∀ (a b : Int) (h : AH), cLt (.int a) (.int b) h = some (decide (a < b)) := fun _ _ _ => rfl
  have hilI : (i : Int) < (pat.length : Int) := by exact o44 hil
  have ei : ((i : Nat) : Int) + 1 = ((i + 1 : Nat) : Int) := by exact rfl
  have hT : pCmpB cLt (pVar 6) (pVar 7) [a0, .str pat, v2, v3, v4, .ref m, .int (i : Nat), .int (pat.length : Nat), v8, v9, v10, v11, v12, v13] h = some (true, h) := by
   simp only [pCmpB, pVar, zS, zZ, zB, cl, hilI, decide_true, zM]
  have tst : ∀ c, pCmpB cEq (pVar 8) (pConst (.str [c])) [a0, .str pat, v2, v3, v4, .ref m, .int ((i + 1 : Nat) : Int), .int (pat.length : Nat), .str [91], v9, v10, v11, v12, v13] h = some (([91] : Wo) == [c], h) := fun c => by
   simp only [pCmpB, pVar, pConst, zS, zZ, zB, ce, zM]
  have hB : trB P [a0, .str pat, v2, v3, v4, .ref m, .int (i : Nat), .int (pat.length : Nat), v8, v9, v10, v11, v12, v13] h = some (.nxt, [a0, .str pat, v2, v3, v4, .ref m, .int ((i + 1 + bd.length + 1 : Nat) : Int), .int (pat.length : Nat), .str [91], b9, b10, b11, b12, b13], h') := by
   unfold trB
   rw [seq_asg (v := .str [91]) (h' := h) (by simp only [pBin, pVar, zS, zZ, zB, aItem_str h hx (by exact Nat.lt_trans hil (zK hpl (by decide)))])]
   simp only [zU, zV]
   rw [seq_asg (v := .int ((i + 1 : Nat) : Int)) (h' := h) (by simp only [pBin, pVar, pConst, zS, zZ, zB, oAdd_i, oAdd_s, ei])]
   simp only [zU, zV]
   rw [seq_iff (h' := h) (by rw [tst]; rfl)]
   rw [seq_seq (o := .nxt) (l' := [a0, .str pat, v2, v3, v4, .ref m, .int ((i + 1 + bd.length + 1 : Nat) : Int), .int (pat.length : Nat), .str [91], b9, b10, b11, b12, b13]) (h' := h') (by
    rw [seq_iff (h' := h) (by rw [tst]; rfl)]
    rw [seq_seq (o := .nxt) (l' := [a0, .str pat, v2, v3, v4, .ref m, .int ((i + 1 + bd.length + 1 : Nat) : Int), .int (pat.length : Nat), .str [91], b9, b10, b11, b12, b13]) (h' := h') (by
     rw [seq_ift (h' := h) (by rw [tst]; rfl)]
     rw [seq_nxt g1]; rfl)]
    rfl)]
   rfl
  have hm' : h'[m]? = some (.meth r) := g4 _ _ hm0 hmr hm
  obtain ⟨c8, c9, c10, c11, c12, c13, h2', k1, k2, k3, k4⟩ := ih outs' (i + 1 + bd.length + 1) F (outs ++ [out]) h' (.str [91]) b9 b10 b11 b12 b13 h2 (by simp at hF; omega) hd2 hle g3 hm' g2 (by simp; exact o11 hol)
  refine ⟨c8, c9, c10, c11, c12, c13, h2', ?_, by rw [List.append_assoc] at k2; exact k2, k3, fun j x n0 n e => k4 j x n0 n (g4 j x n0 n e)⟩
  unfold wLoop
  rw [hT]
  simp only [zB, if_true, hB]
  exact k1
end
theorem u_translate_spec {P : Addr} {bds outs : List (List Nat)} {h : AH} {star : AV} (hall : All2 (fun bd out => trG bd = some out) bds outs) (hpl : (brs bds).length < 80000) (hbl : bds.length ≤ 900) (T : Tb P h) (hstar : star ≠ .undef) :
  ∃ (r : Nat) (h' : AH), P_utr P [.str (brs bds), star, .str [46]] h = some (.ref r, h') ∧ h.length ≤ r ∧ h'[r]? = some (.list (aSs outs)) ∧ Tb P h' ∧ K0 h h' := by
 have kA := Kp.app h [AObj.list []]
 have kB := Kp.app (h ++ [AObj.list []]) [AObj.meth h.length]
 have kC := Kp.app (h ++ [AObj.list []] ++ [AObj.meth h.length]) [AObj.tup [.int 0, .int ((brs bds).length : Nat)]]
 have hpos : 0 < h.length := by refine xEA T fun lam e _ => ?_; exact (zC e).1
 have k := kA.trans (kB.trans kC)
 have hlen : (h ++ [AObj.list []]).length = h.length + 1 := by simp
 have hle : (brs bds).length ≤ 1000000 := by exact Nat.le_of_lt (zK hpl (by decide))
 obtain ⟨b8, b9, b10, b11, b12, b13, h', g1, g2, g3, g4⟩ := tr_loop (pat := brs bds) (a0 := .undef) (v2 := star) (v3 := .str [46]) (v4 := .ref h.length) (P := P) (m := h.length + 1) (r := h.length) (by exact zK hpl (by decide)) (by exact Nat.succ_ne_zero _) (by exact Nat.ne_of_gt hpos) (by exact Nat.ne_of_gt (Nat.lt_succ_self _)) bds outs 0 FUEL [] (h ++ [AObj.list []] ++ [AObj.meth h.length] ++ [AObj.tup [.int 0, .int ((brs bds).length : Nat)]]) .undef .undef .undef .undef .undef .undef hall
  (by unfold FUEL; exact zF hbl (by decide)) rfl (Nat.zero_le _) (T.mono k) (by have := kC _ _ (get_new (h ++ [AObj.list []]) (AObj.meth h.length)); rwa [hlen] at this) (kC _ _ (kB _ _ (get_new _ _))) (by simpa using by exact zG hbl (by decide))
 refine ⟨h.length, h', ?_, Nat.le_refl _, g2, g3, fun i x n e => g4 i x n (by have := (zC e).1; lia) (k _ _ e)⟩
 change wLoop (pCmpB cLt (pVar 6) (pVar 7)) (trB P) FUEL [.undef, .str (brs bds), star, .str [46], .ref h.length, .ref (h.length + 1), .int 0, .int ((brs bds).length : Nat), .undef, .undef, .undef, .undef, .undef, .undef] _ = _ at g1
 unfold P_utr bodyF
 rw [F_tr_eq]
 simp only [List.length_cons, List.length_nil, if_true, List.replicate, List.cons_append, List.nil_append]
 rw [seq_asg (v := .ref h.length) (h' := h ++ [AObj.list []]) rfl]
 simp only [zU, zV]
 rw [seq_asg (v := .ref (h.length + 1)) (h' := h ++ [AObj.list []] ++ [AObj.meth h.length]) (by
  simp only [pAttrApp, pVar, zS, zZ, zB, get_new, hlen])]
 simp only [zU, zV]
 rw [seq_nxt (l' := [.undef, .str (brs bds), star, .str [46], .ref h.length, .ref (h.length + 1), .int 0, .int ((brs bds).length : Nat), .undef, .undef, .undef, .undef, .undef, .undef]) (h' := h ++ [AObj.list []] ++ [AObj.meth h.length] ++ [AObj.tup [.int 0, .int ((brs bds).length : Nat)]]) (by
  simp only [sSwap, pTup, pArgs, pCall, pConst, pVar, zS, zZ, zB, fLen, hle, if_true, get_new, List.length_cons, List.length_nil, List.reverse_cons, List.reverse_nil, List.nil_append, List.cons_append, sets, zU, zV])]
 rw [seq_nxt (f := sWhile _ _) g1]
 rw [seq_nxt (f := sAssert _) (l' := [.undef, .str (brs bds), star, .str [46], .ref h.length, .ref (h.length + 1), .int ((brs bds).length : Nat), .int ((brs bds).length : Nat), b8, b9, b10, b11, b12, b13]) (h' := h') (by
  have ci : ∀ a b h, cEq (.int a) (.int b) h = some (a == b) := fun _ _ _ => rfl
  simp only [sAssert, pCmpB, pVar, zS, zZ, zB, ci, BEq.rfl, zM, if_true])]
 rw [seq_ret (v := .ref h.length) (h' := h') rfl]
 rfl
end QV
noncomputable section QW
open PySem
set_option maxHeartbeats 1000000
noncomputable def jpT : PB := (pAndB (pCmpB cLt (pVar 5) (pVar 6)) (pCmpB cIsNot (pBin aItem (pVar 1) (pVar 5)) (pVar 2)))
noncomputable def jpB : PS := (sSeq (sExpr (pCallM 4 [(pBin aItem (pVar 1) (pVar 5))])) (sSeq (sAug 5 oAdd (pConst (.int 1))) (sNil)))
theorem F_jp_eq : F_ujtp = (sSeq (sAsg 3 (pList [])) (sSeq (sAsg 4 (pAttrApp (pVar 3))) (sSeq (sSwap [5, 6] (pTup [(pConst (.int 0)), (pCall fLen [pVar 1])])) (sSeq (sWhile jpT jpB) (sSeq (sWhile (pCmpB cLt (pVar 5) (pVar 6)) (fun _ _ => none)) (sSeq (sAssert (pCmpB cEq (pVar 5) (pVar 6))) (sSeq (sAsg 3 (pMeth .str mJoin (pConst (.str [])) [pVar 3])) (sSeq (sRet (pJoin3 (pConst (.str [40, 63, 115, 58])) (pFmt (pVar 3)) (pConst (.str [41, 92, 90])))) (sNil))))))))) := rfl
theorem jp_loop {r s q m : Nat} {a0 v7 : AV} {os : List Wo} (hol : os.length ≤ 1000) (hqr : q ≠ r) (hqm : q ≠ m) : ∀ (d i F : Nat) (σ : AH), i + d = os.length → d < F → σ[r]? = some (.list (aSs os)) → σ[m]? = some (.meth q) → σ[q]? = some (.list (aSs (os.take i))) →
  ∃ σ', wLoop jpT jpB F [a0, .ref r, .ref s, .ref q, .ref m, .int (i : Nat), .int (os.length : Nat), v7] σ = some (.nxt, [a0, .ref r, .ref s, .ref q, .ref m, .int (os.length : Nat), .int (os.length : Nat), v7], σ') ∧ σ'[q]? = some (.list (aSs os)) ∧ (∀ j x, j ≠ q → σ[j]? = some x → σ'[j]? = some x) := by
 have cl : ∀ (a b : Int) (h : AH), cLt (.int a) (.int b) h = some (decide (a < b)) := fun _ _ _ => rfl
 intro d
 induction d with
 | zero =>
  intro i F σ hi hF hr hm hq
  obtain ⟨F, rfl⟩ : ∃ F', F = F' + 1 := ⟨F - 1, by exact o65 hF⟩
  have : i = os.length := by omega
  subst this
  rw [List.take_length] at hq
  have hn : ¬ ((os.length : Int) < (os.length : Int)) := by exact o43
  refine ⟨σ, ?_, hq, fun _ _ _ e => e⟩
  unfold wLoop jpT
  simp only [pAndB, pCmpB, pVar, zS, zZ, zB, cl, hn, decide_false, zM, Bool.false_eq_true, if_false]
 | succ d ih =>
  intro i F σ hi hF hr hm hq
  obtain ⟨F, rfl⟩ : ∃ F', F = F' + 1 := ⟨F - 1, by exact o65 hF⟩
  have hil : i < os.length := by exact o20 hi
  have hiI : (i : Int) < (os.length : Int) := by exact o44 (o20 hi)
  have it := item_str hr hil (by exact zF hol (by decide))
  have htk : os.take (i + 1) = os.take i ++ [os.getD i []] := by
   rw [List.take_add_one, zJ, zH hil]; rfl
  generalize os.getD i [] = w at it htk
  have ei : ((i : Nat) : Int) + 1 = ((i + 1 : Nat) : Int) := by exact rfl
  have hql : (aSs (os.take i)).length ≤ 1000000 := by rw [aSs_length, List.length_take]; lia
  have happ : aSs (os.take i) ++ [AV.str w] = aSs (os.take (i + 1)) := by rw [htk, aSs_append]; rfl
  have hT : jpT [a0, .ref r, .ref s, .ref q, .ref m, .int (i : Nat), .int (os.length : Nat), v7] σ = some (true, σ) := by
   unfold jpT
   simp only [pAndB, pCmpB, pBin, pVar, zS, zZ, zB, cl, hiI, decide_true, zM, if_true, it, cIsNot]
  have hB : jpB [a0, .ref r, .ref s, .ref q, .ref m, .int (i : Nat), .int (os.length : Nat), v7] σ = some (.nxt, [a0, .ref r, .ref s, .ref q, .ref m, .int ((i + 1 : Nat) : Int), .int (os.length : Nat), v7], σ.set q (.list (aSs (os.take (i + 1))))) := by
   unfold jpB
   rw [seq_expr (h' := σ.set q (.list (aSs (os.take (i + 1))))) (by
    simp only [pCallM, pCall, pArgs, pBin, pVar, zS, zZ, zB, it, fMeth, hm, mAppend, hq, hql, if_true, happ])]
   simp only [sSeq, sAug, pVar, pConst, zS, zZ, zB, oAdd_i, oAdd_s, ei, zM, zU, zV, sNil]
  refine xEAA (ih (i + 1) F (σ.set q (.list (aSs (os.take (i + 1))))) (by exact o8 hi) (by exact Nat.lt_of_succ_lt_succ hF) (by rw [set_ne _ (Ne.symm hqr)]; exact hr) (by rw [set_ne _ (Ne.symm hqm)]; exact hm) (set_get hq)) fun σ' e1 e2 e3 => ?_
  refine ⟨σ', ?_, e2, fun j x n e => e3 j x n (by rw [set_ne _ n]; exact e)⟩
  unfold wLoop
  rw [hT]
  simp only [zB, if_true, hB]
  exact e1
theorem join_spec {r s : Nat} {os : List Wo} {h : AH} (hr : h[r]? = some (.list (aSs os))) (hol : os.length ≤ 900) (hsz : ∀ o ∈ os, o.length ≤ 200) :
  ∃ h', P_ujtp [.ref r, .ref s] h = some (.str (wrapT os.flatten), h') ∧ Kp h h' := by
 have kA := Kp.app h [AObj.list []]
 have kB := Kp.app (h ++ [AObj.list []]) [AObj.meth h.length]
 have kC := Kp.app (h ++ [AObj.list []] ++ [AObj.meth h.length]) [AObj.tup [.int 0, .int (os.length : Nat)]]
 have k := kA.trans (kB.trans kC)
 have hlen : (h ++ [AObj.list []]).length = h.length + 1 := by simp
 have hrl := (zC hr).1
 have hle : (aSs os).length ≤ 1000000 := by rw [aSs_length]; exact zG hol (by decide)
 obtain ⟨h', g1, g2, g3⟩ := jp_loop (a0 := .undef) (v7 := .undef) (s := s) (r := r) (q := h.length) (m := h.length + 1) (os := os) (by exact zG hol (by decide)) (by exact Nat.ne_of_gt hrl) (by exact Nat.ne_of_lt (Nat.lt_succ_self _)) os.length 0 FUEL (h ++ [AObj.list []] ++ [AObj.meth h.length] ++ [AObj.tup [.int 0, .int (os.length : Nat)]]) (by exact Nat.zero_add _) (by unfold FUEL; exact zF hol (by decide))
  (k _ _ hr) (by have := kC _ _ (get_new (h ++ [AObj.list []]) (AObj.meth h.length)); rwa [hlen] at this) (kC _ _ (kB _ _ (get_new _ _)))
 change wLoop jpT jpB FUEL [.undef, .ref r, .ref s, .ref h.length, .ref (h.length + 1), .int 0, .int (os.length : Nat), .undef] _ = _ at g1
 have hs : (os.map (·.length)).sum ≤ os.length * 200 := sum_le' os 200 hsz
 have hfl : os.flatten.length = (os.map (·.length)).sum := by rw [List.length_flatten]
 have hn : ¬ ((os.length : Int) < (os.length : Int)) := by exact o43
 have cl : ∀ (a b : Int) (h : AH), cLt (.int a) (.int b) h = some (decide (a < b)) := fun _ _ _ => rfl
 refine ⟨h', ?_, fun i x e => g3 i x (by have := (zC e).1; exact o26 this) (k _ _ e)⟩
 unfold P_ujtp bodyF
 rw [F_jp_eq]
 simp only [List.length_cons, List.length_nil, if_true, List.replicate, List.cons_append, List.nil_append]
 rw [seq_asg (v := .ref h.length) (h' := h ++ [AObj.list []]) rfl]
 simp only [zU, zV]
 rw [seq_asg (v := .ref (h.length + 1)) (h' := h ++ [AObj.list []] ++ [AObj.meth h.length]) (by
  simp only [pAttrApp, pVar, zS, zZ, zB, get_new, hlen])]
 simp only [zU, zV]
 rw [seq_nxt (l' := [.undef, .ref r, .ref s, .ref h.length, .ref (h.length + 1), .int 0, .int (os.length : Nat), .undef]) (h' := h ++ [AObj.list []] ++ [AObj.meth h.length] ++ [AObj.tup [.int 0, .int (os.length : Nat)]]) (by
  have hrk := kB _ _ (kA _ _ hr)
  have hle2 : os.length ≤ 1000000 := by exact zG hol (by decide)
  simp only [sSwap, pTup, pArgs, pCall, pConst, pVar, zS, zZ, zB, fLen, hrk, aSs_length, hle2, if_true, get_new, List.length_cons, List.length_nil, List.reverse_cons, List.reverse_nil, List.nil_append, List.cons_append, sets, zU, zV])]
 rw [seq_nxt (f := sWhile jpT jpB) g1]
 rw [seq_nxt (f := sWhile (pCmpB cLt (pVar 5) (pVar 6)) (fun _ _ => none)) (l' := [.undef, .ref r, .ref s, .ref h.length, .ref (h.length + 1), .int (os.length : Nat), .int (os.length : Nat), .undef]) (h' := h') (by
  have hT : pCmpB cLt (pVar 5) (pVar 6) [.undef, .ref r, .ref s, .ref h.length, .ref (h.length + 1), .int (os.length : Nat), .int (os.length : Nat), .undef] h' = some (false, h') := by
   simp only [pCmpB, pVar, zS, zZ, zB, cl, hn, decide_false, zM]
  show wLoop _ _ (999999999 + 1) _ _ = _
  unfold wLoop
  rw [hT]; rfl)]
 rw [seq_nxt (f := sAssert _) (l' := [.undef, .ref r, .ref s, .ref h.length, .ref (h.length + 1), .int (os.length : Nat), .int (os.length : Nat), .undef]) (h' := h') (by
  have ci : ∀ a b h, cEq (.int a) (.int b) h = some (a == b) := fun _ _ _ => rfl
  simp only [sAssert, pCmpB, pVar, zS, zZ, zB, ci, BEq.rfl, zM, if_true])]
 rw [seq_asg (v := .str os.flatten) (h' := h') (by
  have hc : (os.map (·.length)).sum + os.length * ([] : List Nat).length ≤ 1000000 := by simp only [List.length_nil]; lia
  simp only [pMeth, pConst, pVar, pArgs, SKind.ok, zS, zZ, zB, if_true, mJoin, g2, allStr_aSs, if_pos hc, joinL_nil])]
 simp only [zU, zV]
 have l1 : os.flatten.length ≤ 1000000 := by lia
 have l2 : [40, 63, 115, 58].length + os.flatten.length + [41, 92, 90].length ≤ 1000000 := by simp only [List.length_cons, List.length_nil]; lia
 rw [seq_ret (v := .str (wrapT os.flatten)) (h' := h') (by
  simp only [pJoin3, pFmt, pConst, pVar, zS, zZ, zB, l1, if_true, l2]
  rfl)]
 rfl
theorem translate_spec {P : Addr} {bds outs : List (List Nat)} {h : AH} (hall : All2 (fun bd out => trG bd = some out) bds outs) (hpl : (brs bds).length < 80000) (hbl : bds.length ≤ 900) (hsz : ∀ o ∈ outs, o.length ≤ 200) (T : Tb P h) :
  ∃ (h' : AH), P_translate P [.str (brs bds)] h = some (.str (wrapT outs.flatten), h') ∧ Tb P h' ∧ K0 h h' := by
 have kA := Kp.app h [AObj.obj]
 obtain ⟨r, h1, g1, g2, g3, g4, g5⟩ := u_translate_spec (star := .ref h.length) hall hpl hbl (T.mono kA) (by simp)
 refine xEA (join_spec (s := h.length) g3 (by rw [hall.len]; omega) hsz) fun h2 j1 j2 => ?_
 refine ⟨h2, ?_, g4.mono j2, kA.k0.trans (g5.trans j2.k0)⟩
 unfold P_translate bodyF F_translate
 simp only [List.length_cons, List.length_nil, if_true, List.replicate, List.cons_append, List.nil_append]
 rw [seq_asg (v := .ref h.length) (h' := h ++ [AObj.obj]) rfl]
 simp only [zU, zV]
 rw [seq_asg (v := .ref r) (h' := h1) (by
  simp only [pCall, pArgs, pVar, pConst, zS, zZ, zB, g1])]
 simp only [zU, zV]
 rw [seq_ret (v := .str (wrapT outs.flatten)) (h' := h2) (by
  simp only [pCall, pArgs, pVar, zS, zZ, zB, j1])]
 rfl
end QW
noncomputable section QX
open PySem
set_option maxHeartbeats 1000000
noncomputable def codeN (n : Int) : Nat := (n.fmod 14 + 1).toNat
noncomputable def flagN (n : Int) : Bool := (n.fdiv 14).fmod 2 != 0
theorem codeN_eq (n : Int) : n.fmod 14 + 1 = (codeN n : Int) ∧ 1 ≤ codeN n ∧ codeN n ≤ 14 := by
 unfold codeN
 rw [Int.fmod_eq_emod_of_nonneg _ (by decide)]
 lia
noncomputable def winN (n : Int) : Nat := (n.fmod 90).toNat
theorem winN_eq (n : Int) : n.fmod 90 = (winN n : Int) ∧ winN n < 90 := by
 unfold winN
 rw [Int.fmod_eq_emod_of_nonneg _ (by decide)]
 lia
theorem comp_range {t : PB} {elt : PE} {l : List AV} {σ : AH} (p : Nat → Bool) (f : Nat → Wo) (ht : ∀ i, i < 4 → ∀ σ', Kp σ σ' → t (.undef :: .int (i : Nat) :: l) σ' = some (p i, σ')) (he : ∀ i, i < 4 → ∀ σ', Kp σ σ' → elt (.undef :: .int (i : Nat) :: l) σ' = some (.str (f i), σ')) :
  ∃ σ', pComp 2 (iRange [pConst (.int 4)]) (.nm 1) t elt l σ = some (.ref σ.length, σ') ∧ Kp σ σ' ∧ σ'[σ.length]? = some (.list (aSs (((List.range 4).filter p).map f))) := by
 obtain ⟨h', ys, e1, e2, e3, e4⟩ := pComp_gen (k := 2) (tg := .nm 1) (t := t) (elt := elt) (l := l) (g := iRange [pConst (.int 4)]) (σ₀ := σ) (σ := σ) (fun i => .range i (4 - i : Nat) 1) (List.range 4) (fun i => [.undef, .int (i : Nat)]) p (fun i v _ => v = .str (f i)) (by decide)
  rfl (fun _ => rfl) (fun _ => ⟨rfl, rfl⟩)
  (fun σ' k i x hx => by
   obtain ⟨hi, rfl⟩ := zC hx
   rw [List.getElem_range]
   have hi4 : i < 4 := by simpa using hi
   refine ⟨.int i, σ', next_range σ' i 4 hi4, .refl _, fun q hq => ?_⟩
   obtain ⟨h1, h2⟩ := hq
   obtain ⟨a, b, rfl⟩ := len2 h1; cases Option.some.inj h2; rfl)
  (fun σ' k => ⟨_, by rw [List.length_range]; exact next_range_end σ' 4⟩)
  (fun i hi σ' k => ⟨σ', .refl _, ht i (by simpa using hi) σ' k⟩)
  (fun i hi _ σ' k _ => ⟨.str (f i), σ', .refl _, he i (by simpa using hi) σ' k, rfl⟩)
  (fun _ _ _ _ e _ => e) (by simp)
 exact ⟨h', e1, e2, by rw [e3, All2.eq_map e4]; simp [aSs]⟩
theorem signs_spec {σ : AH} {N : Nat} {n0 : Int} {r : List AV} {l : List AV} (hN : σ[N]? = some (.list (.int n0 :: r))) (hl : l[1]? = some (.ref N)) :
  ∃ σ', pComp 2 (iRange [pConst (.int 4)]) (.nm 1) (fun _ h => some (true, h)) (pCall fChr [pBin oAdd (pBin oAdd (pConst (.int 34)) (pBin oMod (pBin aItem (pVar 3) (pConst (.int 0))) (pConst (.int 90)))) (pVar 1)]) l σ = some (.ref σ.length, σ') ∧ Kp σ σ' ∧
   σ'[σ.length]? = some (.list (aSs (ones (winD (winN n0))))) := by
 obtain ⟨h1, h2⟩ := winN_eq n0
 obtain ⟨σ', e1, e2, e3⟩ := comp_range (t := fun _ h => some (true, h)) (elt := pCall fChr [pBin oAdd (pBin oAdd (pConst (.int 34)) (pBin oMod (pBin aItem (pVar 3) (pConst (.int 0))) (pConst (.int 90)))) (pVar 1)]) (l := l) (σ := σ) (fun _ => true) (fun i => [34 + winN n0 + i]) (fun i _ σ' _ => rfl)
  (fun i hi σ' k => by
   have it : aItem (.ref N) (.int 0) σ' = some (.int n0, σ') := aItem_nat (i := 0) (k _ _ hN) rfl (by simp) (by decide)
   have hz : (90 : Int) ≠ 0 := by decide
   have es : 34 + n0.fmod 90 + (i : Int) = ((34 + winN n0 + i : Nat) : Int) := by rw [h1]; exact rfl
   have hc : (0 : Int) ≤ ((34 + winN n0 + i : Nat) : Int) ∧ ((34 + winN n0 + i : Nat) : Int) ≤ 1000 := by omega
   simp only [pCall, pArgs, pBin, pConst, pVar, zS, zZ, hl, zB, it, oMod_i, if_pos hz, oAdd_i, oAdd_s, es, fChr, if_pos hc, Int.toNat_natCast])
 refine ⟨σ', e1, e2, ?_⟩
 rw [e3, show (List.range 4).filter (fun _ => true) = List.range 4 from rfl]
 simp [ones, winD, oOne, Function.comp_def]
theorem codes_spec {σ : AH} {N : Nat} {n0 : Int} {ns : List Int} {l : List AV} (hN : σ[N]? = some (.list ((n0 :: ns).map .int))) (hl : l[1]? = some (.ref N)) (hns : ns.length < 1000) :
  ∃ (C : Nat) (σ' : AH), pComp 2 (iOf (pSlice (pVar 1) (some (pConst (.int 1))) none)) (.nm 1) (fun _ h => some (true, h)) (pBin oAdd (pBin oMod (pVar 1) (pConst (.int 14))) (pConst (.int 1))) l σ = some (.ref C, σ') ∧ Kp σ σ' ∧
   σ'[C]? = some (.list ((ns.map fun n => (codeN n : Int)).map .int)) := by
 have kA := Kp.app σ [AObj.list (ns.map .int)]
 have hs := get_new σ (AObj.list (ns.map .int))
 generalize hσ₁ : σ ++ [AObj.list (ns.map .int)] = σ₁ at kA hs
 obtain ⟨h', ys, e1, e2, e3, e4⟩ := pComp_gen (k := 2) (tg := .nm 1) (t := fun _ h => some (true, h)) (elt := pBin oAdd (pBin oMod (pVar 1) (pConst (.int 14))) (pConst (.int 1))) (l := l) (g := iOf (pSlice (pVar 1) (some (pConst (.int 1))) none)) (σ₀ := σ) (σ := σ₁) (fun i => .one (.list σ.length i)) ns (fun n => [.undef, .int n]) (fun _ => true) (fun n v _ => v = .int (codeN n : Int)) (by decide)
  (by
   have hle : ((n0 :: ns).map AV.int).length ≤ 1000000 := by simp; exact Nat.le_of_lt (zK hns (by decide))
   have hsl : aSl ((n0 :: ns).map AV.int) (some 1) none = ns.map .int := by
    have : clipN 1 ((n0 :: ns).map AV.int).length = 1 := clip_of (k := 1) (Nat.succ_le_succ (Nat.zero_le _))
    simp only [aSl, Option.elim, this, List.take_length]
    rfl
   simp only [iOf, pSlice, pPart, pVar, pConst, hl, zB, aSlice, hN, hle, if_true, hsl, hσ₁, aIter, hs, zM])
  (fun _ => rfl) (fun _ => ⟨rfl, rfl⟩)
  (fun σ' k i x hx => by
   refine ⟨.int x, σ', next_list (k _ _ hs) i (by rw [List.getElem?_map, hx]; rfl), .refl _, fun q hq => ?_⟩
   obtain ⟨h1, h2⟩ := hq
   obtain ⟨a, b, rfl⟩ := len2 h1; cases Option.some.inj h2; rfl)
  (fun σ' k => ⟨_, by have := next_list_end (k _ _ hs); rw [List.length_map] at this; exact this⟩)
  (fun n hn σ' k => ⟨σ', .refl _, rfl⟩)
  (fun n hn _ σ' k _ => ⟨.int (codeN n : Int), σ', .refl _, by
   have hz : (14 : Int) ≠ 0 := by decide
   simp only [pBin, pVar, pConst, List.cons_append, List.nil_append, zS, zZ, zB, oMod_i, if_pos hz, oAdd_i, oAdd_s, (codeN_eq n).1], rfl⟩)
  (fun _ _ _ _ e _ => e) (by exact zK hns (by decide))
 refine ⟨σ₁.length, h', e1, kA.trans e2, ?_⟩
 rw [e3, All2.eq_map e4]
 have : ns.filter (fun _ => true) = ns := List.filter_eq_self.mpr fun _ _ => rfl
 rw [this]
 simp
theorem bit_eq {c : Nat} : ∀ {i : Nat}, i < 4 → ((((c : Int).fdiv (2 ^ ((i : Nat) : Int).toNat)).fmod 2) != 0) = decide (c / 2 ^ i % 2 ≠ 0) := by
 intro i hi
 rw [Int.toNat_natCast, Int.fmod_eq_emod_of_nonneg _ (by decide)]
 have hp : (0 : Int) ≤ 2 ^ i := Int.pow_nonneg (by decide)
 rw [Int.fdiv_eq_ediv_of_nonneg _ hp]
 have e : ((c : Int) / 2 ^ i % 2) = ((c / 2 ^ i % 2 : Nat) : Int) := by
  rw [Int.natCast_emod, Int.natCast_ediv, Int.natCast_pow]; rfl
 rw [e, Bool.eq_iff_iff]
 simp only [bne_iff_ne, ne_eq, decide_eq_true_eq]
 omega
theorem fitting_spec {σ : AH} {C S w : Nat} {ns : List Int} {l : List AV} (hC : σ[C]? = some (.list ((ns.map fun n => (codeN n : Int)).map .int))) (hS : σ[S]? = some (.list (aSs (ones (winD w))))) (hl2 : l[2]? = some (.ref S)) (hl3 : l[3]? = some (.ref C)) (hns : ns.length < 1000) :
  ∃ (F : Nat) (refs : List AV) (σ' : AH), pComp 2 (iOf (pVar 3)) (.nm 1) (fun _ h => some (true, h)) (pComp 2 (iRange [pConst (.int 4)]) (.nm 1) (pTruth (pBin oMod (pBin oFdiv (pVar 3) (pBin oPow (pConst (.int 2)) (pVar 1))) (pConst (.int 2)))) (pBin aItem (pVar 6) (pVar 1))) l σ = some (.ref F, σ') ∧ Kp σ σ' ∧
   σ'[F]? = some (.list refs) ∧ Lists σ' refs (ns.map fun n => ones (fitW w (codeN n))) := by
 obtain ⟨h', ys, e1, e2, e3, e4⟩ := pComp_gen (k := 2) (tg := .nm 1) (t := fun _ h => some (true, h)) (elt := pComp 2 (iRange [pConst (.int 4)]) (.nm 1) (pTruth (pBin oMod (pBin oFdiv (pVar 3) (pBin oPow (pConst (.int 2)) (pVar 1))) (pConst (.int 2)))) (pBin aItem (pVar 6) (pVar 1))) (l := l) (g := iOf (pVar 3)) (σ₀ := σ) (σ := σ) (fun i => .one (.list C i)) ns (fun n => [.undef, .int (codeN n : Int)]) (fun _ => true)
  (fun n v h => ∃ m, v = .ref m ∧ m ≠ σ.length ∧ h[m]? = some (.list (aSs (ones (fitW w (codeN n)))))) (by decide)
  (by simp only [iOf, pVar, hl3, zB, aIter, hC, zM])
  (fun _ => rfl) (fun _ => ⟨rfl, rfl⟩)
  (fun σ' k i x hx => by
   refine ⟨.int (codeN x : Int), σ', next_list (k _ _ hC) i (by rw [List.getElem?_map, List.getElem?_map, hx]; rfl), .refl _, fun q hq => ?_⟩
   obtain ⟨h1, h2⟩ := hq
   obtain ⟨a, b, rfl⟩ := len2 h1; cases Option.some.inj h2; rfl)
  (fun σ' k => ⟨_, by have := next_list_end (k _ _ hC); rw [List.length_map, List.length_map] at this; exact this⟩)
  (fun n hn σ' k => ⟨σ', .refl _, rfl⟩)
  (fun n hn _ σ' k hlen => by
   obtain ⟨σ'', c1, c2, c3⟩ := comp_range (t := pTruth (pBin oMod (pBin oFdiv (pVar 3) (pBin oPow (pConst (.int 2)) (pVar 1))) (pConst (.int 2)))) (elt := pBin aItem (pVar 6) (pVar 1)) (l := .undef :: .int (codeN n : Int) :: l) (σ := σ') (fun i => decide (codeN n / 2 ^ i % 2 ≠ 0)) (fun i => [34 + w + i])
    (fun i hi τ kk => by
     have hpw : (0 : Int) ≤ ((i : Nat) : Int) ∧ ((i : Nat) : Int) ≤ 1000 ∧ (2 : Int).natAbs ≤ 1000 := ⟨by exact o67, by exact o50 (Nat.le_of_lt (zK hi (by decide))), by decide⟩
     have hpe : ((2 : Int) ^ ((i : Nat) : Int).toNat ≠ 0) ∧ small ((2 : Int) ^ ((i : Nat) : Int).toNat) = true := by
      rw [Int.toNat_natCast]
      exact (by decide : ∀ i : Nat, i < 4 → (2 : Int) ^ i ≠ 0 ∧ small ((2 : Int) ^ i) = true) i hi
     have h2 : (2 : Int) ≠ 0 := by decide
     simp only [pTruth, pBin, pVar, pConst, zS, zZ, zB, oPow_i, if_pos hpw, oFdiv_i, if_pos hpe, oMod_i, if_pos h2, aTruth, zM, bit_eq hi])
    (fun i hi τ kk => by
     have it := item_ones (i := i) (kk _ _ (k _ _ hS)) (by simp [winD]; omega) (by simp [winD])
     have hg : (winD w).getD i 0 = 34 + w + i := by
      unfold winD
      rw [zJ, List.getElem?_map, List.getElem?_range hi]; rfl
     simp only [pBin, pVar, zS, zZ, hl2, zB, it, hg])
   refine ⟨.ref σ'.length, σ'', c2, c1, σ'.length, rfl, by exact Nat.ne_of_gt hlen, ?_⟩
   rw [c3]
   simp [ones, fitW, fitD, oOne, Function.comp_def])
  (fun n v h h' ⟨m, a, b, c⟩ k => ⟨m, a, b, k _ _ b c⟩) (by exact zK hns (by decide))
 refine ⟨σ.length, ys, h', e1, e2, e3, ?_⟩
 have : ns.filter (fun _ => true) = ns := List.filter_eq_self.mpr fun _ _ => rfl
 rw [this] at e4
 have conv : ∀ (xs : List Int) (vs : List AV), All2 (fun n v => ∃ m, v = .ref m ∧ m ≠ σ.length ∧ h'[m]? = some (.list (aSs (ones (fitW w (codeN n)))))) xs vs → Lists h' vs (xs.map fun n => ones (fitW w (codeN n))) := by
  intro xs
  induction xs with
  | nil => intro vs h; cases vs with | nil => trivial | cons _ _ => exact h.elim
  | cons x xs ih =>
   intro vs h
   cases vs with
   | nil => exact h.elim
   | cons v vs =>
    obtain ⟨⟨m, a, _, c⟩, r⟩ := h
    exact ⟨⟨m, a, c⟩, ih vs r⟩
 exact conv ns ys e4
end QX
noncomputable section QY
open PySem
set_option maxHeartbeats 1000000
theorem All2.zip_mem {α β : Type} {R : α → β → Prop} {xs : List α} {ys : List β} (r : All2 R xs ys) : ∀ p ∈ ys.zip xs, R p.2 p.1 :=
 All2.ind (P := fun xs ys => ∀ p ∈ ys.zip xs, R p.2 p.1) (fun _ h => absurd h List.not_mem_nil) (fun _ _ _ _ a _ c p h => by
  rcases zN h with rfl | h
  ·exact a
  ·exact c p h) r
theorem All2.zip_len {α β : Type} {R : α → β → Prop} {xs : List α} {ys : List β} (h : All2 R xs ys) : (ys.zip xs).length = xs.length := by
 rw [List.length_zip, h.len, Nat.min_self]
theorem All2.zip_map {α β γ : Type} {R : α → β → Prop} (f : α → γ) {xs : List α} {ys : List β} (r : All2 R xs ys) : (ys.zip xs).map (fun p => f p.2) = xs.map f :=
 All2.ind (P := fun (xs : List α) (ys : List β) => (ys.zip xs).map (fun p => f p.2) = xs.map f) rfl (fun x _ _ _ _ _ c => congrArg (f x :: ·) c) r
theorem All2.of_zip {α β γ : Type} {R : α → β → Prop} {S : α → γ → Prop} {xs : List α} {ys : List β} {zs : List γ} (r : All2 R xs ys) : All2 (fun p z => S p.2 z) (ys.zip xs) zs → All2 S xs zs :=
 All2.ind (P := fun xs ys => ∀ zs, All2 (fun p z => S p.2 z) (ys.zip xs) zs → All2 S xs zs) (fun zs h => by cases zs with | nil => trivial | cons _ _ => exact h.elim) (fun _ _ _ _ _ _ c zs h => by
  cases zs with
  | nil => exact h.elim
  | cons z zs => exact ⟨h.1, c zs h.2⟩) r zs
theorem All2.map {α β γ : Type} {R : γ → β → Prop} {f : α → γ} : ∀ {xs : List α} {ys : List β}, All2 R (xs.map f) ys ↔ All2 (fun x y => R (f x) y) xs ys := by
 intro xs
 induction xs with
 | nil => intro ys; cases ys <;> exact Iff.rfl
 | cons x xs ih => intro ys; cases ys with | nil => exact Iff.rfl | cons y ys => exact and_congr_right fun _ => ih
theorem All2.of_map {α β γ : Type} {R : γ → β → Prop} {f : α → γ} {xs : List α} {ys : List β} (h : All2 R (xs.map f) ys) : All2 (fun x y => R (f x) y) xs ys := All2.map.mp h
theorem All2.to_map {α β γ : Type} {R : γ → β → Prop} {f : α → γ} {xs : List α} {ys : List β} (h : All2 (fun x y => R (f x) y) xs ys) : All2 R (xs.map f) ys := All2.map.mpr h
noncomputable def brOf (w : Nat) (n : Int) : List Nat := bodyOf (fitW w (codeN n)) (winD w) (flagN n)
theorem fitW_len (w c : Nat) : (fitW w c).length ≤ 4 := by
 unfold fitW fitD
 rw [List.length_map]
 exact zG (List.length_filter_le ..) (by simp)
theorem brackets_spec {σ : AH} {N F S w : Nat} {n0 : Int} {ns : List Int} {l : List AV} {refs : List AV} (hN : σ[N]? = some (.list ((n0 :: ns).map .int))) (hF : σ[F]? = some (.list refs)) (hL : Lists σ refs (ns.map fun n => ones (fitW w (codeN n)))) (hS : σ[S]? = some (.list (aSs (ones (winD w)))))
  (hl1 : l[1]? = some (.ref N)) (hl2 : l[2]? = some (.ref S)) (hl4 : l[4]? = some (.ref F)) (hns : ns.length < 1000) :
  ∃ (B : Nat) (σ' : AH), pComp 3 (iZip [pVar 4, pSlice (pVar 1) (some (pConst (.int 1))) none]) (.tup [1, 2]) (fun _ h => some (true, h)) (pCall P_ulbr [pVar 1, pVar 5, pBin oMod (pBin oFdiv (pVar 2) (pConst (.int 14))) (pConst (.int 2))]) l σ = some (.ref B, σ') ∧ Kp σ σ' ∧
   σ'[B]? = some (.list (aSs (ns.map fun n => [91] ++ brOf w n ++ [93]))) := by
 have kA := Kp.app σ [AObj.list (ns.map .int)]
 have hs := get_new σ (AObj.list (ns.map .int))
 have hL' := All2.of_map hL
 generalize hσ₁ : σ ++ [AObj.list (ns.map .int)] = σ₁ at kA hs
 obtain ⟨h', ys, e1, e2, e3, e4⟩ := pComp_gen (k := 3) (tg := .tup [1, 2]) (t := fun _ h => some (true, h)) (elt := pCall P_ulbr [pVar 1, pVar 5, pBin oMod (pBin oFdiv (pVar 2) (pConst (.int 14))) (pConst (.int 2))]) (l := l) (g := iZip [pVar 4, pSlice (pVar 1) (some (pConst (.int 1))) none]) (σ₀ := σ) (σ := σ₁) (fun i => .zip (.list F i) (.list σ.length i)) (refs.zip ns)
  (fun p => [.undef, p.1, .int p.2]) (fun _ => true) (fun p v _ => v = .str ([91] ++ brOf w p.2 ++ [93])) (by decide)
  (by
   have hle : ((n0 :: ns).map AV.int).length ≤ 1000000 := by simp; exact Nat.le_of_lt (zK hns (by decide))
   have hsl : aSl ((n0 :: ns).map AV.int) (some 1) none = ns.map .int := by
    have : clipN 1 ((n0 :: ns).map AV.int).length = 1 := by unfold clipN; simp; exact o6 hns
    simp only [aSl, Option.elim, this, List.take_length]
    rfl
   simp only [iZip, pArgs, pSlice, pPart, pVar, pConst, hl1, hl4, zB, aSlice, hN, hle, if_true, hsl, hσ₁, aSIt, kA _ _ hF, hs, zM])
  (fun _ => rfl) (fun _ => ⟨rfl, rfl⟩)
  (fun σ' k i x hx => by
   obtain ⟨g1, g2⟩ := List.getElem?_zip_eq_some.mp hx
   have hz : aNext (.zip (.list F i) (.list σ.length i)) σ' = some (some (.ref σ'.length), .zip (.list F (i + 1)) (.list σ.length (i + 1)), σ' ++ [AObj.tup [x.1, .int x.2]]) := by
    have : (ns.map AV.int)[i]? = some (.int x.2) := by rw [List.getElem?_map, g2]; rfl
    simp only [aNext, sNext, k _ _ (kA _ _ hF), g1, zM, zB, k _ _ hs, this]
   refine ⟨_, _, hz, .app _ _, fun q hq => ?_⟩
   obtain ⟨h1, h2⟩ := hq
   obtain ⟨a, b, c, rfl⟩ := len3 h1; cases Option.some.inj h2
   simp only [aBind, get_new, List.length_cons, List.length_nil, if_true, sets, List.cons_append, List.nil_append, zU, zV])
  (fun σ' k => ⟨.zip (.list F refs.length) (.list σ.length ns.length), by
   have hl : (refs.zip ns).length = ns.length := All2.zip_len hL'
   have hr : refs.length = ns.length := hL'.len
   rw [hl]
   have hn : refs[ns.length]? = none := by rw [← hr]; exact List.getElem?_eq_none (Nat.le_refl _)
   simp only [aNext, sNext, k _ _ (kA _ _ hF), hn, zM, zB, hr]⟩)
  (fun n hn σ' k => ⟨σ', .refl _, rfl⟩)
  (fun p hp _ σ' k _ => by
   refine xEA (All2.zip_mem hL' p hp) fun m a b => ?_
   obtain ⟨v, n⟩ := p
   simp only at a b
   subst a
   have hfl := fitW_len w (codeN n)
   refine xEA (bracket_spec (b := (n.fdiv 14).fmod 2) (k _ _ (kA _ _ b)) (k _ _ (kA _ _ hS)) (by exact zF hfl (by decide)) (by simp [winD])) fun σ'' c1 c2 => ?_
   refine ⟨.str ([91] ++ brOf w n ++ [93]), σ'', c2, ?_, rfl⟩
   have h14 : (14 : Int) ≠ 0 ∧ small 14 = true := by decide
   have h2 : (2 : Int) ≠ 0 := by decide
   simp only [pCall, pArgs, pVar, pBin, pConst, List.cons_append, List.nil_append, zS, zZ, hl2, zB, oFdiv_i, if_pos h14, oMod_i, if_pos h2, c1]
   rfl)
  (fun _ _ _ _ e _ => e) (by rw [List.length_zip]; omega)
 refine ⟨σ₁.length, h', e1, kA.trans e2, ?_⟩
 rw [e3, All2.eq_map e4]
 have : (refs.zip ns).filter (fun _ => true) = refs.zip ns := List.filter_eq_self.mpr fun _ _ => rfl
 rw [this, All2.zip_map (fun n => AV.str ([91] ++ brOf w n ++ [93])) hL']
 simp [aSs, Function.comp_def]
theorem all_checked (w : Nat) (hw : w < 90) : ∀ ns : List Int, ∃ outs js, All2 (fun bd out => trG bd = some out) (ns.map (brOf w)) outs ∧ All2 (fun s J => clsRd s = some (J, []) ∧ s.head? = some 91) outs js ∧ (∀ o ∈ outs, o.length ≤ 200) ∧
  All2 (fun n J => (winD w).filter (wth J) = fitW w (codeN n) ∧ (∀ p ∈ J.2, p.1 < 128) ∧ J.2.length < 1000) ns js
 | [] => ⟨[], [], trivial, trivial, (fun o h => by cases h), trivial⟩
 | n :: ns => by
  obtain ⟨outs, js, h1, h2, h3, h4⟩ := all_checked w hw ns
  obtain ⟨c1, c2, c3⟩ := codeN_eq n
  have hc := chk_of hw c2 c3 (flagN n)
  unfold chk at hc
  cases ho : trG (bodyOf (fitW w (codeN n)) (winD w) (flagN n)) with
  | none => rw [ho] at hc; cases hc
  | some out =>
   rw [ho] at hc
   simp only [Bool.and_eq_true, decide_eq_true_eq] at hc
   obtain ⟨hl, hc⟩ := hc
   cases hr : clsRd out with
   | none => rw [hr] at hc; cases hc
   | some p =>
    obtain ⟨J, rest⟩ := p
    rw [hr] at hc
    cases rest with
    | cons _ _ => simp at hc
    | nil =>
     simp only [Bool.and_eq_true, chkJ, beq_iff_eq, decide_eq_true_eq, List.all_eq_true] at hc
     refine ⟨out :: outs, J :: js, ⟨ho, h1⟩, ⟨⟨hr, hc.1⟩, h2⟩, fun o hm => ?_, ⟨⟨hc.2.1.1, fun p hp => hc.2.1.2 p hp, by omega⟩, h4⟩⟩
     rcases zN hm with rfl | hm
     ·exact Nat.le_of_lt (zK hl (by decide))
     ·exact h3 o hm
theorem brs_eq (bds : List (List Nat)) : brs bds = (bds.map fun bd => [91] ++ bd ++ [93]).flatten := rfl
theorem brOf_len (w : Nat) (n : Int) : (brOf w n).length ≤ 20 := by
 unfold brOf bodyOf
 have h1 := written_len (fitW w (codeN n))
 have h2 := fitW_len w (codeN n)
 have h3 := written_len ((winD w).filter fun c => !decide (c ∈ fitW w (codeN n)))
 have h4 : ((winD w).filter fun c => !decide (c ∈ fitW w (codeN n))).length ≤ 4 := zG (List.length_filter_le ..) (by simp [winD])
 split
 ·rw [List.length_cons]; lia
 ·lia
theorem brs_len (w : Nat) : ∀ ns : List Int, (brs (ns.map (brOf w))).length ≤ 22 * ns.length
 | [] => by simp [brs]
 | n :: ns => by
  have := brs_len w ns
  have := brOf_len w n
  rw [List.map_cons, brs_cons, List.length_cons, List.length_append, List.length_cons, List.length_cons]
  lia
theorem judges_spec {P : Addr} {σ : AH} {B w : Nat} {ns : List Int} {l : List AV} {outs : List (List Nat)} {js : List (Bool × List (Nat × Nat))} (hB : σ[B]? = some (.list (aSs (ns.map fun n => [91] ++ brOf w n ++ [93])))) (hl5 : l[5]? = some (.ref B)) (hns : ns.length ≤ 100) (T : Tb P σ)
  (h1 : All2 (fun bd out => trG bd = some out) (ns.map (brOf w)) outs) (h2 : All2 (fun s J => clsRd s = some (J, []) ∧ s.head? = some 91) outs js) (h3 : ∀ o ∈ outs, o.length ≤ 200) :
  ∃ (o : Nat) (refs : List AV) (σ' : AH), pCall P_ulcs [pCall (P_translate P) [pMeth .str mJoin (pConst (.str [])) [pVar 5]]] l σ = some (.ref o, σ') ∧ Tb P σ' ∧ K0 σ σ' ∧ σ'[o]? = some (.list refs) ∧ Judges o σ' refs js := by
 have hol : outs.length = ns.length := by rw [h1.len, List.length_map]
 have hbl := brs_len w ns
 refine xEAA (translate_spec (P := P) (h := σ) h1 (by lia) (by rw [List.length_map]; exact zG hns (by decide)) h3 T) fun σ₁ t1 t2 t3 => ?_
 have hfl : outs.flatten.length ≤ outs.length * 200 := by rw [List.length_flatten]; exact sum_le' outs 200 h3
 obtain ⟨o, refs, σ₂, c1, c2, c3, c4, c5⟩ := classes_spec (mid := outs.flatten) (h := σ₁) (by lia) h2 (by exact o51 hol (zF hns (by decide))) rfl
 refine ⟨o, refs, σ₂, ?_, t2.mono c2, t3.trans c2.k0, c4, c5⟩
 have hsum : ((ns.map fun n => [91] ++ brOf w n ++ [93]).map (·.length)).sum + (ns.map fun n => [91] ++ brOf w n ++ [93]).length * ([] : List Nat).length ≤ 1000000 := by
  have : ((ns.map fun n => [91] ++ brOf w n ++ [93]).map (·.length)).sum = (brs (ns.map (brOf w))).length := by
   rw [brs_eq, List.length_flatten, List.map_map, List.map_map, List.map_map]; rfl
  rw [this]
  simp only [List.length_nil]
  lia
 have hj : joinL [] (ns.map fun n => [91] ++ brOf w n ++ [93]) = brs (ns.map (brOf w)) := by
  rw [joinL_nil, brs_eq, List.map_map]; rfl
 simp only [pCall, pArgs, pMeth, pConst, pVar, SKind.ok, hl5, zB, if_true, mJoin, hB, allStr_aSs, if_pos hsum, hj, t1, c1]
theorem takes_spec {σ : AH} {z J S w : Nat} {ns : List Int} {l : List AV} {refs : List AV} {js : List (Bool × List (Nat × Nat))} (hJ : σ[J]? = some (.list refs)) (hjs : Judges z σ refs js) (hS : σ[S]? = some (.list (aSs (ones (winD w))))) (hl2 : l[2]? = some (.ref S)) (hl6 : l[6]? = some (.ref J))
  (hc : All2 (fun n J => (winD w).filter (wth J) = fitW w (codeN n) ∧ (∀ p ∈ J.2, p.1 < 128) ∧ J.2.length < 1000) ns js) (hns : ns.length < 1000) :
  ∃ (K : Nat) (rt : List AV) (σ' : AH), pComp 2 (iOf (pVar 6)) (.nm 1) (fun _ h => some (true, h)) (pComp 2 (iOf (pVar 4)) (.nm 1) (pTruth (pCall P_ulwi [pVar 3, pVar 1])) (pVar 1)) l σ = some (.ref K, σ') ∧ Kp σ σ' ∧
   σ'[K]? = some (.list rt) ∧ Lists σ' rt (ns.map fun n => ones (fitW w (codeN n))) := by
 have hjl : js.length = ns.length := hc.len
 have hcj : ∀ p ∈ js, (∀ q ∈ p.2, q.1 < 128) ∧ p.2.length < 1000 := fun p hp => by
  obtain ⟨i, hi, rfl⟩ := List.getElem_of_mem hp
  have hn : i < ns.length := by exact o52 hi hjl
  obtain ⟨y, hy, h1, h2, h3⟩ := hc.get (zH hn)
  rw [zH hi] at hy
  cases hy
  exact ⟨h2, h3⟩
 obtain ⟨h', ys, e1, e2, e3, e4⟩ := pComp_gen (k := 2) (tg := .nm 1) (t := fun _ h => some (true, h)) (elt := pComp 2 (iOf (pVar 4)) (.nm 1) (pTruth (pCall P_ulwi [pVar 3, pVar 1])) (pVar 1)) (l := l) (g := iOf (pVar 6)) (σ₀ := σ) (σ := σ) (fun i => .one (.list J i)) (refs.zip js)
  (fun p => [.undef, p.1]) (fun _ => true) (fun p v h => ∃ m, v = .ref m ∧ m ≠ σ.length ∧ h[m]? = some (.list (aSs (ones ((winD w).filter (wth p.2)))))) (by decide)
  (by simp only [iOf, pVar, hl6, zB, aIter, hJ, zM])
  (fun _ => rfl) (fun _ => ⟨rfl, rfl⟩)
  (fun σ' k i x hx => by
   obtain ⟨g1, g2⟩ := List.getElem?_zip_eq_some.mp hx
   refine ⟨x.1, σ', next_list (k _ _ hJ) i g1, .refl _, fun q hq => ?_⟩
   obtain ⟨h1, h2⟩ := hq
   obtain ⟨a, b, rfl⟩ := len2 h1; cases Option.some.inj h2; rfl)
  (fun σ' k => ⟨_, by
   have hl : (refs.zip js).length = refs.length := by rw [All2.zip_len hjs, All2.len hjs]
   rw [hl]; exact next_list_end (k _ _ hJ)⟩)
  (fun n hn σ' k => ⟨σ', .refl _, rfl⟩)
  (fun p hp _ σ' k hlen => by
   refine xEA (All2.zip_mem hjs p hp) fun j a b => ?_
   have hp2 : p.2 ∈ js := (List.of_mem_zip (a := p.1) (b := p.2) hp).2
   obtain ⟨q1, q2⟩ := hcj p.2 hp2
   obtain ⟨v, J'⟩ := p
   simp only at a b q1 q2
   subst a
   obtain ⟨σ'', c1, c2, c3⟩ := comp_list (g := iOf (pVar 4)) (t := pTruth (pCall P_ulwi [pVar 3, pVar 1])) (l := .undef :: .ref j :: l) (σ₀ := σ') (σ := σ') (n := S) (ws := ones (winD w)) (fun x => wth J' (x.headD 0)) (k _ _ hS)
    (by simp only [iOf, pVar, zS, hl2, zB, aIter, k _ _ hS, zM])
    (fun x hx τ kk => by
     refine xEA (List.mem_map.mp hx) fun c hc hrf => ?_; subst hrf
     refine xEA (within_spec (c := c) ((b.mono k).mono kk) q1 q2) fun τ' d1 d2 => ?_
     refine ⟨τ', d2, ?_⟩
     simp only [pTruth, pCall, pArgs, pVar, oOne, zS, zZ, zB, d1, aTruth, zM]
     rfl)
    (by simp [ones, winD])
   refine ⟨.ref σ'.length, σ'', c2, c1, σ'.length, rfl, by exact Nat.ne_of_gt hlen, ?_⟩
   rw [c3, ones_filter]
   rfl)
  (fun p v h h' ⟨m, a, b, c⟩ k => ⟨m, a, b, k _ _ b c⟩) (by rw [List.length_zip]; omega)
 refine ⟨σ.length, ys, h', e1, e2, e3, ?_⟩
 have : (refs.zip js).filter (fun _ => true) = refs.zip js := List.filter_eq_self.mpr fun _ _ => rfl
 rw [this] at e4
 have e5 := All2.of_zip (S := fun (J : Bool × List (Nat × Nat)) v => ∃ m, v = AV.ref m ∧ m ≠ σ.length ∧ h'[m]? = some (.list (aSs (ones ((winD w).filter (wth J)))))) hjs e4
 have conv : ∀ (ns : List Int) (js : List (Bool × List (Nat × Nat))) (vs : List AV), All2 (fun n J => (winD w).filter (wth J) = fitW w (codeN n) ∧ (∀ p ∈ J.2, p.1 < 128) ∧ J.2.length < 1000) ns js → All2 (fun (J : Bool × List (Nat × Nat)) v => ∃ m, v = AV.ref m ∧ m ≠ σ.length ∧ h'[m]? = some (.list (aSs (ones ((winD w).filter (wth J)))))) js vs →
   Lists h' vs (ns.map fun n => ones (fitW w (codeN n))) := by
  intro ns
  induction ns with
  | nil =>
   intro js vs h1 h2
   cases js with
   | cons _ _ => exact h1.elim
   | nil => cases vs with | nil => trivial | cons _ _ => exact h2.elim
  | cons n ns ih =>
   intro js vs h1 h2
   cases js with
   | nil => exact h1.elim
   | cons J js =>
    cases vs with
    | nil => exact h2.elim
    | cons v vs =>
     obtain ⟨⟨m, a, _, c⟩, r⟩ := h2
     refine ⟨⟨m, a, ?_⟩, ih js vs h1.2 r⟩
     rw [c, h1.1.1]
 exact conv ns js ys hc e5
end QY
noncomputable section QZ
open PySem
set_option maxHeartbeats 1000000
theorem Tb.list {P : Addr} {h h' : AH} (T : Tb P h) (k : K0 h h') {i : Nat} {xs : List AV} (e : h[i]? = some (.list xs)) : h'[i]? = some (.list xs) :=
 k i _ (fun q => by refine xEA T fun lam t _ => ?_; rw [q, t] at e; cases e) e
theorem Tb.lists {P : Addr} {h h' : AH} (T : Tb P h) (k : K0 h h') {refs : List AV} {wss : List (List Wo)} (x : Lists h refs wss) : Lists h' refs wss := x.imp fun _ _ ⟨n, a, b⟩ => ⟨n, a, T.list k b⟩
theorem isort_shift (s : Nat) : ∀ l : List Nat, isort (l.map (s + ·)) = (isort l).map (s + ·) := by
 have ins : ∀ (x : Nat) (l : List Nat), isort.ins (s + x) (l.map (s + ·)) = (isort.ins x l).map (s + ·) := by
  intro x l
  induction l with
  | nil => rfl
  | cons y l ih =>
   simp only [List.map_cons, isort.ins]
   by_cases h : x ≤ y
   ·rw [if_pos h, if_pos (by exact Nat.add_le_add_left h _)]; rfl
   ·rw [if_neg h, if_neg (by exact Nat.not_le_of_gt (Nat.add_lt_add_left (Nat.lt_of_not_le h) _)), ih]; rfl
 intro l
 induction l with
 | nil => rfl
 | cons x l ih => simp only [List.map_cons, isort, ih, ins]
theorem sort4b : ∀ a, a < 4 → ∀ b, b < 4 → ∀ c, c < 4 → ∀ d, d < 4 → ((decide (a = b) || decide (a = c) || decide (a = d) || decide (b = c) || decide (b = d) || decide (c = d)) || (isort [a, b, c, d] == [0, 1, 2, 3])) = true := by decide +kernel
theorem sort4 (a : Nat) (ha : a < 4) (b : Nat) (hb : b < 4) (c : Nat) (hc : c < 4) (d : Nat) (hd : d < 4) (h : (decide (a = b) || decide (a = c) || decide (a = d) || decide (b = c) || decide (b = d) || decide (c = d)) = false) : isort [a, b, c, d] = [0, 1, 2, 3] := by
 have := sort4b a ha b hb c hc d hd
 rw [h, Bool.false_or] at this
 exact beq_iff_eq.mp this
theorem fitW_mem {w c d : Nat} (h : d ∈ fitW w c) : ∃ e, e < 4 ∧ d = 34 + w + e := by
 refine xEA (List.mem_map.mp h) fun e he hrf => ?_; subst hrf
 exact ⟨e, fitD_lt he, rfl⟩
theorem fitW_good {w c : Nat} (hw : w < 90) : (fitW w c).Pairwise (· < ·) ∧ WOk (fitW w c) ∧ (fitW w c).length ≤ 4 := by
 refine ⟨?_, fun d hd => ?_, fitW_len w c⟩
 ·unfold fitW fitD
  rw [List.pairwise_map]
  exact (List.pairwise_lt_range.filter _).imp fun h => by exact Nat.add_lt_add_left h _
 ·refine xEA (fitW_mem hd) fun e he hrf => ?_; subst hrf
  exact o29 hw he
theorem word_sorted {w : Nat} {ts : List (List Nat)} {x : Wo} (hx : x ∈ ext ts 4 []) (hts : ∀ t ∈ ts, ∀ d ∈ t, ∃ e, e < 4 ∧ d = 34 + w + e) (hw : w < 90) : isort x = winD w ∧ x.length = 4 ∧ WOk x ∧ (∀ i c, x[i]? = some c → c ∈ ts.getD i []) := by
 obtain ⟨h1, h2, h3, _⟩ := ext_mem 4 [] x hx List.nodup_nil (fun i c e => by simp at e)
 have hd : ∀ i c, x[i]? = some c → ∃ e, e < 4 ∧ c = 34 + w + e := fun i c e => by
  have := h3 i c e
  rw [zJ] at this
  cases q : ts[i]? with
  | none => rw [q] at this; simp at this
  | some t => rw [q] at this; exact hts t (zI q) c this
 have h4 : x.length = 4 := by simpa using h1
 refine ⟨?_, h4, fun c hc => ?_, h3⟩
 ·obtain ⟨a, b, c, d, rfl⟩ := len4 h4
  ·refine xEA (hd 0 a rfl) fun a' ha hrf => ?_; subst hrf
   refine xEA (hd 1 b rfl) fun b' hb hrf => ?_; subst hrf
   refine xEA (hd 2 c rfl) fun c' hc hrf => ?_; subst hrf
   refine xEA (hd 3 d rfl) fun d' hd' hrf => ?_; subst hrf
   have e : [34 + w + a', 34 + w + b', 34 + w + c', 34 + w + d'] = [a', b', c', d'].map (34 + w + ·) := rfl
   rw [e, isort_shift, sort4 a' ha b' hb c' hc d' hd' (by
    simp only [List.nodup_cons, List.mem_cons, List.not_mem_nil, or_false, not_or] at h2
    simp only [Bool.or_eq_false_iff, decide_eq_false_iff_not]
    lia)]
   rfl
 ·obtain ⟨i, hi, rfl⟩ := List.getElem_of_mem hc
  refine xEA (hd i _ (zH hi)) fun e he q => ?_
  rw [q]; lia
noncomputable def agB : PS := (sSeq (sIf (pCmpB cNe (pCall fSorted [pVar 10]) (pVar 2)) (sSeq (sRet (pConst (.bool false))) (sNil)) (sNil)) (sSeq (sIf (pTruth (pComp 3 (iZip [pVar 10, pVar 4]) (.tup [1, 2]) (pCmpB cNotIn (pVar 1) (pVar 2)) (pVar 1))) (sSeq (sRet (pConst (.bool false))) (sNil)) (sNil)) (sSeq (sIf (pAndB (pCmpB cGt (pVar 9) (pConst (.int 0))) (pCmpB cGe (pBin aItem (pVar 8) (pBin oSub (pVar 9) (pConst (.int 1)))) (pVar 10))) (sSeq (sRet (pConst (.bool false))) (sNil)) (sNil)) (sNil))))
theorem zip_none {σ : AH} {F : Nat} {refs : List AV} {ts : List (List Nat)} {x : Wo} {l : List AV} (hF : σ[F]? = some (.list refs)) (hL : Lists σ refs (ts.map ones)) (hx4 : x.length = 4) (hxo : WOk x) (hts4 : ts.length = 4) (hx : ∀ i c, x[i]? = some c → c ∈ ts.getD i []) (hl10 : l[10]? = some (.str x)) (hl4 : l[4]? = some (.ref F)) :
  ∃ σ', pTruth (pComp 3 (iZip [pVar 10, pVar 4]) (.tup [1, 2]) (pCmpB cNotIn (pVar 1) (pVar 2)) (pVar 1)) l σ = some (false, σ') ∧ Kp σ σ' := by
 have hrl : refs.length = 4 := by rw [All2.len hL, List.length_map, hts4]
 obtain ⟨h', ys, e1, e2, e3, e4⟩ := pComp_gen (k := 3) (tg := .tup [1, 2]) (t := pCmpB cNotIn (pVar 1) (pVar 2)) (elt := pVar 1) (l := l) (g := iZip [pVar 10, pVar 4]) (σ₀ := σ) (σ := σ) (fun i => .zip (.str x i) (.list F i)) (x.zip refs)
  (fun p => [.undef, .str [p.1], p.2]) (fun _ => false) (fun _ _ _ => True) (by decide)
  (by simp only [iZip, pArgs, pVar, hl10, hl4, zB, aSIt, all_lt hxo, if_true, hF, zM])
  (fun _ => rfl) (fun _ => ⟨rfl, rfl⟩)
  (fun σ' k i p hp => by
   obtain ⟨g1, g2⟩ := List.getElem?_zip_eq_some.mp hp
   have hz : aNext (.zip (.str x i) (.list F i)) σ' = some (some (.ref σ'.length), .zip (.str x (i + 1)) (.list F (i + 1)), σ' ++ [AObj.tup [.str [p.1], p.2]]) := by
    simp only [aNext, sNext, g1, zM, zB, k _ _ hF, g2]
   refine ⟨_, _, hz, .app _ _, fun q hq => ?_⟩
   obtain ⟨h1, h2⟩ := hq
   obtain ⟨a, b, c, rfl⟩ := len3 h1; cases Option.some.inj h2
   simp only [aBind, get_new, List.length_cons, List.length_nil, if_true, sets, List.cons_append, List.nil_append, zU, zV])
  (fun σ' k => ⟨.zip (.str x 4) (.list F 4), by
   have hl : (x.zip refs).length = 4 := by rw [List.length_zip, hx4, hrl]; rfl
   rw [hl]
   have hn : x[4]? = none := List.getElem?_eq_none (by exact Nat.le_of_eq hx4)
   simp only [aNext, sNext, hn, zM, zB]⟩)
  (fun p hp σ' k => ⟨σ', .refl _, by
   obtain ⟨i, hi, rfl⟩ := List.getElem_of_mem hp
   obtain ⟨g1, g2⟩ := List.getElem?_zip_eq_some.mp (zH hi)
   generalize (x.zip refs)[i] = p at g1 g2
   have hc := hx i _ g1
   have hi4 : i < ts.length := by
    have := (zC g1).1
    lia
   have ht : (ts.map ones)[i]? = some (ones (ts.getD i [])) := by
    rw [List.getElem?_map, zJ, zH hi4]; rfl
   obtain ⟨v, hv, n, rfl, hn⟩ := All2.get hL ht
   rw [g2] at hv
   injection hv with hv
   rw [hv]
   have hmem : [p.1] ∈ ones (ts.getD i []) := mem_ones.mpr hc
   simp only [pCmpB, pVar, List.cons_append, List.nil_append, zS, zZ, zB, notIn_list _ (k _ _ hn), hmem, decide_true, Bool.not_true, zM]⟩)
  (fun p hp h => by cases h)
  (fun _ _ _ _ e _ => e) (by rw [List.length_zip]; lia)
 have hys : ys = [] := by
  have hnil : (x.zip refs).filter (fun _ => false) = [] := by simp
  rw [hnil] at e4
  cases ys with
  | nil => rfl
  | cons _ _ => exact e4.elim
 subst hys
 refine ⟨h', ?_, e2⟩
 unfold pTruth
 rw [e1]
 simp only [zB, aTruth, e3, List.length_nil, Nat.zero_le, if_true, List.isEmpty_nil, Bool.not_true, zM]
theorem ag_loop {σ : AH} {w N S C F B J K O : Nat} {ts : List (List Nat)} {refs : List AV} (hw : w < 90) (hS : σ[S]? = some (.list (aSs (ones (winD w))))) (hF : σ[F]? = some (.list refs)) (hL : Lists σ refs (ts.map ones)) (hO : σ[O]? = some (.list (aSs (ext ts 4 [])))) (hts4 : ts.length = 4)
  (hts : ∀ t ∈ ts, t.Pairwise (· < ·)) (htm : ∀ t ∈ ts, ∀ d ∈ t, ∃ e, e < 4 ∧ d = 34 + w + e) (hol : (ext ts 4 []).length ≤ 1000) :
  ∃ (a9 a10 : AV) (σ' : AH), sFor (iEnum [pVar 8]) (.tup [9, 10]) agB [.undef, .ref N, .ref S, .ref C, .ref F, .ref B, .ref J, .ref K, .ref O, .undef, .undef] σ = some (.nxt, [.undef, .ref N, .ref S, .ref C, .ref F, .ref B, .ref J, .ref K, .ref O, a9, a10], σ') ∧ Kp σ σ' := by
 have hrise := ext_rise hts 4 [] List.nodup_nil (fun i c e => by simp at e)
 obtain ⟨l', h', e1, a9, a10, e2, e3⟩ := fLoop_inv (tg := .tup [9, 10]) (b := agB) (fun i => .enum O i) (fun i l h => ∃ a9 a10, l = [.undef, .ref N, .ref S, .ref C, .ref F, .ref B, .ref J, .ref K, .ref O, a9, a10] ∧ Kp σ h) (ext ts 4 []).length (fun _ => rfl)
  (fun i hi l h ⟨a9, a10, e1, k⟩ => by
   subst e1
   have hx : (ext ts 4 [])[i]? = some (ext ts 4 [])[i] := zH hi
   have hxm : (ext ts 4 [])[i] ∈ ext ts 4 [] := List.getElem_mem hi
   have hlt : 0 < i → (ext ts 4 []).getD (i - 1) [] < (ext ts 4 [])[i] := fun h0 => by
    have := List.pairwise_iff_getElem.mp hrise (i - 1) i (by exact o63 hi) hi (by exact o20 (Nat.sub_add_cancel h0))
    rw [zJ, zH (by exact o63 hi)]
    exact ltA_lt this
   generalize (ext ts 4 [])[i] = x at hx hxm hlt
   obtain ⟨x1, x2, x3, x4⟩ := word_sorted hxm htm hw
   have kA := Kp.app h [AObj.tup [.int (i : Nat), .str x]]
   have hxa : (aSs (ext ts 4 []))[i]? = some (.str x) := by rw [aSs_get, hx]; rfl
   have hn : aNext (.enum O i) h = some (some (.ref h.length), .enum O (i + 1), h ++ [AObj.tup [.int (i : Nat), .str x]]) := by
    simp only [aNext, sNext, k _ _ hO, hxa, zM]
   have kB := Kp.app (h ++ [AObj.tup [.int (i : Nat), .str x]]) [AObj.list (aSs (ones (winD w)))]
   have kAB := k.trans (kA.trans kB)
   have sA : pCmpB cNe (pCall fSorted [pVar 10]) (pVar 2) [.undef, .ref N, .ref S, .ref C, .ref F, .ref B, .ref J, .ref K, .ref O, .int (i : Nat), .str x] (h ++ [AObj.tup [.int (i : Nat), .str x]]) = some (false, h ++ [AObj.tup [.int (i : Nat), .str x]] ++ [AObj.list (aSs (ones (winD w)))]) := by
    have hl64 : x.length < 64 := by exact o51 x2 (by decide)
    have es : (isort x).map (fun c => AV.str [c]) = aSs (ones (winD w)) := by rw [x1]; simp [aSs, ones, oOne, Function.comp_def]
    have hwo : ∀ y ∈ ones (winD w), WOk y := ones_ok (fun c hc => by
     unfold winD at hc
     refine xEA (List.mem_map.mp hc) fun e he hrf => ?_; subst hrf
     have : e < 4 := by simpa using he
     exact o29 hw this)
    have hne := cNe_same (get_new (h ++ [AObj.tup [.int (i : Nat), .str x]]) (AObj.list (aSs (ones (winD w))))) (kAB _ _ hS) hwo
    simp only [pCmpB, pCall, pArgs, pVar, zS, zZ, zB, fSorted, hl64, if_true, es, hne, zM]
   refine xEA (zip_none (l := [.undef, .ref N, .ref S, .ref C, .ref F, .ref B, .ref J, .ref K, .ref O, .int (i : Nat), .str x]) (kAB _ _ hF) (hL.mono kAB) x2 x3 hts4 x4 rfl rfl) fun h2 sB kC => ?_
   have kD := kAB.trans kC
   have sC : pAndB (pCmpB cGt (pVar 9) (pConst (.int 0))) (pCmpB cGe (pBin aItem (pVar 8) (pBin oSub (pVar 9) (pConst (.int 1)))) (pVar 10)) [.undef, .ref N, .ref S, .ref C, .ref F, .ref B, .ref J, .ref K, .ref O, .int (i : Nat), .str x] h2 = some (false, h2) := by
    have cg : ∀ (a b : Int) (h : AH), cGt (.int a) (.int b) h = some (decide (b < a)) := fun _ _ _ => rfl
    have ce : ∀ (a b : Wo) (h : AH), cGe (.str a) (.str b) h = some (!decide (a < b)) := fun _ _ _ => rfl
    simp only [pAndB, pCmpB, pVar, pConst, zS, zZ, zB, cg, zM]
    by_cases h0 : 0 < i
    ·have h0I : (0 : Int) < ((i : Nat) : Int) := by exact o44 h0
     have eI : ((i : Nat) : Int) - 1 = ((i - 1 : Nat) : Int) := by exact o23 h0
     have it := item_str (kD _ _ hO) (i := i - 1) (by exact o63 hi) (by exact zF hol (by decide))
     simp only [h0I, decide_true, if_true, pBin, pVar, pConst, zS, zZ, zB, oSub_i, eI, it, ce, hlt h0, Bool.not_true, zM]
    ·have h0I : ¬ (0 : Int) < ((i : Nat) : Int) := by lia
     simp only [h0I, decide_false, Bool.false_eq_true, if_false]
   refine ⟨.ref h.length, h ++ [AObj.tup [.int (i : Nat), .str x]], [.undef, .ref N, .ref S, .ref C, .ref F, .ref B, .ref J, .ref K, .ref O, .int (i : Nat), .str x], .nxt, _, h2, hn, ?_, ?_, .inl rfl, .int (i : Nat), .str x, rfl, kD⟩
   ·simp only [aBind, get_new, List.length_cons, List.length_nil, if_true, sets, zU, zV]
   ·unfold agB
    rw [seq_iff sA, seq_nil, seq_iff sB, seq_nil, seq_iff sC, seq_nil]
    rfl)
  (fun l h ⟨a9, a10, e1, k⟩ => ⟨.enum O (ext ts 4 []).length, by
   have hn : (aSs (ext ts 4 []))[(ext ts 4 []).length]? = none := List.getElem?_eq_none (by rw [aSs_length]; exact Nat.le_refl _)
   simp only [aNext, sNext, k _ _ hO, hn, zM]⟩)
  (ext ts 4 []).length 0 FUEL [.undef, .ref N, .ref S, .ref C, .ref F, .ref B, .ref J, .ref K, .ref O, .undef, .undef] σ (by exact Nat.zero_add _) (by unfold FUEL; exact zF hol (by decide)) ⟨_, _, rfl, .refl _⟩
 subst e2
 refine ⟨a9, a10, h', ?_, e3⟩
 have hi : iEnum [pVar 8] [.undef, .ref N, .ref S, .ref C, .ref F, .ref B, .ref J, .ref K, .ref O, .undef, .undef] σ = some (.enum O 0, σ) := by
  simp only [iEnum, pArgs, pVar, zS, zZ, zB, hO]
 unfold sFor
 rw [hi]
 exact e1
end QZ
noncomputable section R1
open PySem
set_option maxHeartbeats 2000000
theorem F_ag_eq (P : Addr) : F_ulag P = (sSeq (sAsg 2 (pComp 2 (iRange [(pConst (.int 4))]) (.nm 1) (fun _ h => some (true, h)) (pCall fChr [(pBin oAdd (pBin oAdd (pConst (.int 34)) (pBin oMod (pBin aItem (pVar 3) (pConst (.int 0))) (pConst (.int 90)))) (pVar 1))]))) (sSeq (sAsg 3 (pComp 2 (iOf (pSlice (pVar 1) (some (pConst (.int 1))) none)) (.nm 1) (fun _ h => some (true, h)) (pBin oAdd (pBin oMod (pVar 1) (pConst (.int 14))) (pConst (.int 1))))) (sSeq (sAsg 4 (pComp 2 (iOf (pVar 3)) (.nm 1) (fun _ h => some (true, h)) (pComp 2 (iRange [(pConst (.int 4))]) (.nm 1) (pTruth (pBin oMod (pBin oFdiv (pVar 3) (pBin oPow (pConst (.int 2)) (pVar 1))) (pConst (.int 2)))) (pBin aItem (pVar 6) (pVar 1))))) (sSeq (sAsg 5 (pComp 3 (iZip [pVar 4, (pSlice (pVar 1) (some (pConst (.int 1))) none)]) (.tup [1, 2]) (fun _ h => some (true, h)) (pCall (P_ulbr) [pVar 1, pVar 5, (pBin oMod (pBin oFdiv (pVar 2) (pConst (.int 14))) (pConst (.int 2)))]))) (sSeq (sAsg 6 (pCall (P_ulcs) [(pCall (P_translate P) [(pMeth .str mJoin (pConst (.str [])) [pVar 5])])])) (sSeq (sIf (pCmpB cNe (pCall fLen [pVar 6]) (pConst (.int 4))) (sSeq (sRet (pConst (.bool false))) (sNil)) (sNil)) (sSeq (sAsg 7 (pComp 2 (iOf (pVar 6)) (.nm 1) (fun _ h => some (true, h)) (pComp 2 (iOf (pVar 4)) (.nm 1) (pTruth (pCall (P_ulwi) [pVar 3, pVar 1])) (pVar 1)))) (sSeq (sAsg 8 (pCall (P_ulor) [pVar 7])) (sSeq (sFor (iEnum [pVar 8]) (.tup [9, 10]) agB) (sSeq (sRet (pCmp cEq (pCall fLen [pVar 8]) (pCall (P_ulam) [pVar 3]))) (sNil))))))))))) := rfl
theorem agree_spec {P : Addr} {σ : AH} {N : Nat} {n0 n1 n2 n3 n4 : Int} (hN : σ[N]? = some (.list ([n0, n1, n2, n3, n4].map .int))) (T : Tb P σ) : ∃ σ', P_ulag P [.ref N] σ = some (.bool true, σ') ∧ Tb P σ' := by
 obtain ⟨_, hw⟩ := winN_eq n0
 generalize hwe : winN n0 = w at hw
 have hnl : [n1, n2, n3, n4].length < 1000 := by simp
 refine xEAA (signs_spec (l := [.undef, .ref N, .undef, .undef, .undef, .undef, .undef, .undef, .undef, .undef, .undef]) (r := [n1, n2, n3, n4].map .int) hN rfl) fun σ₁ a1 k1 hS => ?_
 rw [hwe] at hS
 generalize hSe : σ.length = S at a1 hS
 refine xEEAA (codes_spec (ns := [n1, n2, n3, n4]) (l := [.undef, .ref N, .ref S, .undef, .undef, .undef, .undef, .undef, .undef, .undef, .undef]) (k1 _ _ hN) rfl hnl) fun C σ₂ a2 k2 hC => ?_
 obtain ⟨F, rF, σ₃, a3, k3, hF, hLF⟩ := fitting_spec (w := w) (l := [.undef, .ref N, .ref S, .ref C, .undef, .undef, .undef, .undef, .undef, .undef, .undef]) hC (k2 _ _ hS) rfl rfl hnl
 refine xEEAA (brackets_spec (n0 := n0) (ns := [n1, n2, n3, n4]) (l := [.undef, .ref N, .ref S, .ref C, .ref F, .undef, .undef, .undef, .undef, .undef, .undef]) (k3 _ _ (k2 _ _ (k1 _ _ hN))) hF hLF (k3 _ _ (k2 _ _ hS)) rfl rfl rfl hnl) fun B σ₄ a4 k4 hB => ?_
 obtain ⟨outs, js, c1, c2, c3, c4⟩ := all_checked w hw [n1, n2, n3, n4]
 have T4 : Tb P σ₄ := T.mono (k1.trans (k2.trans (k3.trans k4)))
 obtain ⟨J, rJ, σ₅, a5, T5, k5, hJ, hJs⟩ := judges_spec (P := P) (w := w) (ns := [n1, n2, n3, n4]) (l := [.undef, .ref N, .ref S, .ref C, .ref F, .ref B, .undef, .undef, .undef, .undef, .undef]) hB rfl (by simp) T4 c1 c2 c3
 have hS5 := T4.list k5 (k4 _ _ (k3 _ _ (k2 _ _ hS)))
 have hC5 := T4.list k5 (k4 _ _ (k3 _ _ hC))
 have hF5 := T4.list k5 (k4 _ _ hF)
 have hLF5 := T4.lists k5 (hLF.mono k4)
 obtain ⟨K, rK, σ₆, a6, k6, hK, hLK⟩ := takes_spec (w := w) (ns := [n1, n2, n3, n4]) (l := [.undef, .ref N, .ref S, .ref C, .ref F, .ref B, .ref J, .undef, .undef, .undef, .undef]) hJ hJs hS5 rfl rfl c4 hnl
 generalize hts : [n1, n2, n3, n4].map (fun n => fitW w (codeN n)) = ts
 have htl : ts.length = 4 := by rw [← hts]; rfl
 have hones : ([n1, n2, n3, n4].map fun n => ones (fitW w (codeN n))) = ts.map ones := by rw [← hts]; rfl
 rw [hones] at hLK hLF5
 have hgood : ∀ t ∈ ts, t.Pairwise (· < ·) ∧ WOk t ∧ t.length ≤ 4 := fun t ht => by
  rw [← hts] at ht
  refine xEA (List.mem_map.mp ht) fun n _ hrf => ?_; subst hrf
  exact fitW_good hw
 have hmem : ∀ t ∈ ts, ∀ d ∈ t, ∃ e, e < 4 ∧ d = 34 + w + e := fun t ht => by
  rw [← hts] at ht
  refine xEA (List.mem_map.mp ht) fun n _ hrf => ?_; subst hrf
  exact fun d hd => fitW_mem hd
 obtain ⟨O, σ₇, a7, k7, _, hO⟩ := orders_spec hK hLK hgood htl
 obtain ⟨q1, q1a, q1b⟩ := codeN_eq n1
 obtain ⟨q2, q2a, q2b⟩ := codeN_eq n2
 obtain ⟨q3, q3a, q3b⟩ := codeN_eq n3
 obtain ⟨q4, q4a, q4b⟩ := codeN_eq n4
 have hcount : ((ext ts 4 []).length : Int) = amI [(codeN n1 : Int), (codeN n2 : Int), (codeN n3 : Int), (codeN n4 : Int)] 16 := by
  rw [← ryser (by exact zF q1b (by decide)) (by exact zF q2b (by decide)) (by exact zF q3b (by decide)) (by exact zF q4b (by decide))]
  have : ts = [fitD (codeN n1), fitD (codeN n2), fitD (codeN n3), fitD (codeN n4)].map fun t => t.map (34 + w + ·) := by rw [← hts]; rfl
  rw [this]
  have := ext_shift (34 + w) [fitD (codeN n1), fitD (codeN n2), fitD (codeN n3), fitD (codeN n4)] 4 []
  rw [List.map_nil] at this
  rw [this, List.length_map]
 have hol : (ext ts 4 []).length ≤ 1000 := by
  have h1 := Turn.start ts
  have h2 : ∀ k w, (ext ts k w).length ≤ nodes ts k w := by
   intro k
   induction k with
   | zero => intro w; simp [ext, nodes]
   | succ k ih =>
    intro w
    unfold ext nodes
    rw [List.length_flatMap]
    have : ∀ l : List Nat, (l.map fun c => (ext ts k (w ++ [c])).length).sum ≤ (l.map fun c => nodes ts k (w ++ [c])).sum := by
     intro l
     induction l with
     | nil => simp
     | cons c l ihl =>
      have := ih (w ++ [c])
      simp only [List.map_cons, List.sum_cons]
      lia
    have := this (left ts w)
    lia
  have h3 := nodes_le (fun t ht => (hgood t ht).2.2) 4 []
  have h4 := h2 4 []
  have : (5 : Nat) ^ 4 = 625 := by decide
  lia
 obtain ⟨a9, a10, σ₈, a8, k8⟩ := ag_loop (N := N) (C := C) (B := B) (J := J) (K := K) hw (k7 _ _ (k6 _ _ hS5)) (k7 _ _ (k6 _ _ hF5)) ((hLF5.mono k6).mono k7) hO htl (fun t ht => (hgood t ht).1) hmem hol
 refine ⟨σ₈, ?_, ((T5.mono k6).mono k7).mono k8⟩
 have hCe : σ₈[C]? = some (.list ([(codeN n1 : Int), (codeN n2 : Int), (codeN n3 : Int), (codeN n4 : Int)].map .int)) := k8 _ _ (k7 _ _ (k6 _ _ hC5))
 have hOe := k8 _ _ hO
 have ham := amount_spec hCe (by simp)
 have hle : (ext ts 4 []).length ≤ 1000000 := by exact zG hol (by decide)
 have hJl : rJ.length = 4 := by rw [All2.len hJs, c4.len]; rfl
 unfold P_ulag bodyF
 rw [F_ag_eq]
 simp only [List.length_cons, List.length_nil, if_true, List.replicate, List.cons_append, List.nil_append]
 rw [seq_asg a1]
 simp only [zU, zV]
 rw [seq_asg a2]
 simp only [zU, zV]
 rw [seq_asg a3]
 simp only [zU, zV]
 rw [seq_asg a4]
 simp only [zU, zV]
 rw [seq_asg a5]
 simp only [zU, zV]
 rw [seq_iff (h' := σ₅) (by
  have hl4 : rJ.length ≤ 1000000 := by exact Nat.le_of_lt (o51 hJl (by decide))
  simp only [pCmpB, pCall, pArgs, pVar, pConst, zS, zZ, zB, fLen, hJ, hl4, if_true, hJl]
  rfl), seq_nil]
 rw [seq_asg a6]
 simp only [zU, zV]
 rw [seq_asg (v := .ref O) (h' := σ₇) (by simp only [pCall, pArgs, pVar, zS, zZ, zB, a7])]
 simp only [zU, zV]
 rw [seq_nxt a8]
 rw [seq_ret (v := .bool true) (h' := σ₈) (by
  have ci : ∀ a b h, cEq (.int a) (.int b) h = some (a == b) := fun _ _ _ => rfl
  simp only [pCmp, pBin, aB, pCall, pArgs, pVar, zS, zZ, zB, fLen, hOe, aSs_length, hle, if_true, ham, ci, hcount, BEq.rfl, zM])]
 rfl
theorem law_spec (P a : Addr) (ns : List Int) (hns : ns.length ≤ 63) : ∃ σ' lam, P_law P a ns [.fn a] [.tab P ⟨73, 39, 73, 76⟩ none] = some (.bool true, σ') ∧ σ'[0]? = some (.tab P ⟨73, 39, 73, 76⟩ lam) := by
 have T0 : Tb P [AObj.tab P ⟨73, 39, 73, 76⟩ none] := ⟨none, rfl, fun k e => by cases e⟩
 generalize hσ : ([AObj.tab P ⟨73, 39, 73, 76⟩ none] : AH) = σ at T0
 have kA := Kp.app σ [AObj.list ((ns.take 5).map .int)]
 have hs := get_new σ (AObj.list ((ns.take 5).map .int))
 generalize hσ₁ : σ ++ [AObj.list ((ns.take 5).map .int)] = σ₁ at kA hs
 have hl5 : (ns.take 5).length ≤ 5 := by rw [List.length_take]; exact Nat.min_le_left _ _
 obtain ⟨σ₂, ys, e1, k2, e3, e4⟩ := pComp_gen (k := 2) (tg := .nm 1) (t := fun _ h => some (true, h)) (elt := pBin oMod (pCall fInt [pVar 1]) (pBin oPow (pConst (.int 10)) (pConst (.int 6)))) (l := [.undef, .fn a, .undef]) (g := iOf (pSliceB a ns (pVar 1) none (some (pConst (.int 5))))) (σ₀ := σ) (σ := σ₁) (fun i => .one (.list σ.length i)) (ns.take 5)
  (fun n => [.undef, .int n]) (fun _ => true) (fun n v _ => v = .int (n.fmod 1000000)) (by decide)
  (by
   have hsl : aSl (ns.map AV.int) none (some 5) = (ns.take 5).map .int := by
    have : clipN 5 (ns.map AV.int).length = min 5 ns.length := by rw [List.length_map]; exact clip_min 5 _
    simp only [aSl, Option.elim, this, List.drop_zero]
    rw [← List.map_take]
    congr 1
    by_cases h : 5 ≤ ns.length
    ·rw [Nat.min_eq_left h]
    ·rw [Nat.min_eq_right (by exact Nat.le_of_not_le h), List.take_of_length_le (Nat.le_refl _), List.take_of_length_le (by exact Nat.le_of_not_le h)]
   simp only [iOf, pSliceB, pPart, pVar, pConst, zS, zZ, zB, if_true, hsl, hσ₁, aIter, hs, zM])
  (fun _ => rfl) (fun _ => ⟨rfl, rfl⟩)
  (fun σ' k i x hx => by
   refine ⟨.int x, σ', next_list (k _ _ hs) i (by rw [List.getElem?_map, hx]; rfl), .refl _, fun q hq => ?_⟩
   obtain ⟨h1, h2⟩ := hq
   obtain ⟨a, b, rfl⟩ := len2 h1; cases Option.some.inj h2; rfl)
  (fun σ' k => ⟨_, by have := next_list_end (k _ _ hs); rw [List.length_map] at this; exact this⟩)
  (fun n hn σ' k => ⟨σ', .refl _, rfl⟩)
  (fun n hn _ σ' k _ => ⟨.int (n.fmod 1000000), σ', .refl _, by
   have hp : (0 : Int) ≤ 6 ∧ (6 : Int) ≤ 1000 ∧ (10 : Int).natAbs ≤ 1000 := by decide
   have hz : (1000000 : Int) ≠ 0 := by decide
   have he : (10 : Int) ^ (6 : Int).toNat = 1000000 := by decide
   simp only [pBin, pCall, pArgs, pVar, pConst, List.cons_append, List.nil_append, zS, zZ, zB, fInt, oPow_i, if_pos hp, he, oMod_i, if_pos hz], rfl⟩)
  (fun _ _ _ _ e _ => e) (by exact zF hl5 (by decide))
 have hys : ys = ((ns.take 5).map fun n => n.fmod 1000000).map .int := by
  have : (ns.take 5).filter (fun _ => true) = ns.take 5 := List.filter_eq_self.mpr fun _ _ => rfl
  rw [this] at e4
  rw [All2.eq_map e4]; simp [Function.comp_def]
 rw [hys] at e3
 generalize hds : (ns.take 5).map (fun n => n.fmod 1000000) = ds at e3
 have hdl : ds.length ≤ 5 := by rw [← hds, List.length_map]; exact hl5
 generalize hD : σ₁.length = D at e1 e3
 have k3 := Kp.app σ₂ [AObj.list ([8, 6, 26, 9, 19].map AV.int)]
 have k4 := Kp.app (σ₂ ++ [AObj.list ([8, 6, 26, 9, 19].map AV.int)]) [AObj.list (([8, 6, 26, 9, 19].drop ds.length).map AV.int)]
 have k5 := Kp.app (σ₂ ++ [AObj.list ([8, 6, 26, 9, 19].map AV.int)] ++ [AObj.list (([8, 6, 26, 9, 19].drop ds.length).map AV.int)]) [AObj.list ((ds ++ [8, 6, 26, 9, 19].drop ds.length).map AV.int)]
 have hfull : ∃ n0 n1 n2 n3 n4 : Int, ds ++ [8, 6, 26, 9, 19].drop ds.length = [n0, n1, n2, n3, n4] := by
  have hl : (ds ++ ([8, 6, 26, 9, 19] : List Int).drop ds.length).length = 5 := by rw [List.length_append, List.length_drop]; simp; exact Nat.add_sub_cancel' hdl
  obtain ⟨n0, l, e⟩ := List.exists_cons_of_length_eq_add_one hl
  rw [e] at hl ⊢
  obtain ⟨n1, n2, n3, n4, rfl⟩ := len4 (Nat.succ.inj hl)
  exact ⟨n0, n1, n2, n3, n4, rfl⟩
 obtain ⟨n0, n1, n2, n3, n4, hfull⟩ := hfull
 obtain ⟨σ', g1, g2⟩ := agree_spec (P := P) (σ := σ₂ ++ [AObj.list ([8, 6, 26, 9, 19].map AV.int)] ++ [AObj.list (([8, 6, 26, 9, 19].drop ds.length).map AV.int)] ++ [AObj.list ((ds ++ [8, 6, 26, 9, 19].drop ds.length).map AV.int)])
  (N := (σ₂ ++ [AObj.list ([8, 6, 26, 9, 19].map AV.int)] ++ [AObj.list (([8, 6, 26, 9, 19].drop ds.length).map AV.int)]).length) (by rw [get_new, hfull]) (T0.mono (kA.trans (k2.trans (k3.trans (k4.trans k5)))))
 refine xEA g2 fun lam t1 _ => ?_
 refine ⟨σ', lam, ?_, t1⟩
 unfold P_law bodyF F_law
 simp only [List.length_cons, List.length_nil, if_true, List.replicate, List.cons_append, List.nil_append]
 rw [seq_asg e1]
 simp only [zU, zV]
 have hle : ds.length ≤ 1000000 := by exact zG hdl (by decide)
 have h5 : [AV.int 8, AV.int 6, AV.int 26, AV.int 9, AV.int 19] = ([8, 6, 26, 9, 19] : List Int).map AV.int := rfl
 have hle5 : (([8, 6, 26, 9, 19] : List Int).map AV.int).length ≤ 1000000 := by simp
 have hsl : aSl (([8, 6, 26, 9, 19] : List Int).map AV.int) (some ((ds.length : Nat) : Int)) none = (([8, 6, 26, 9, 19] : List Int).drop ds.length).map AV.int := by
  have : clipN ((ds.length : Nat) : Int) (([8, 6, 26, 9, 19] : List Int).map AV.int).length = ds.length := clip_of hdl
  simp only [aSl, Option.elim, this, List.take_length]
  rw [List.map_drop]
 have hsum : ds.length + ((([8, 6, 26, 9, 19] : List Int).drop ds.length).map AV.int).length ≤ 1000000 := by
  rw [List.length_map, List.length_drop]; simp; lia
 have hget := get_new (σ₂ ++ [AObj.list ([8, 6, 26, 9, 19].map AV.int)]) (AObj.list (([8, 6, 26, 9, 19].drop ds.length).map AV.int))
 have hgetD := k4 _ _ (k3 _ _ e3)
 rw [seq_ret (v := .bool true) (h' := σ') (by
  have hdl' : (ds.map AV.int).length = ds.length := List.length_map ..
  simp only [pCall, pArgs, pBin, pVar, pSlice, pPart, pList, pConst, zS, zZ, zB, h5, fLen, k3 _ _ e3, hdl', hle, if_true, aSlice, get_new, hle5, hsl, oAddL, hgetD, hget, hsum, ← List.map_append, g1])]
 rfl
end R1
noncomputable section NB3
open PySem PySem.W PySem.Calls PyProof.Rows
set_option maxHeartbeats 8000000
theorem ints_of {R : WRecords} {cl : Str → Option Addr} {h : Heap} : ∀ {xs : List WData} {vs : List Value} {as : List Addr}, WShape.hasItems R xs .int = true → ReadsAllW R cl h vs xs as → ∃ ns : List Int, IntsAre vs ns ∧ ns.length = xs.length := by
 intro xs
 induction xs with
 | nil => intro vs as _ q; cases q; exact ⟨[], .nil, rfl⟩
 | cons x xs ih =>
  intro vs as hi q
  obtain _ | ⟨r, rs⟩ := q
  have hi' : WShape.has R x .int = true ∧ WShape.hasItems R xs .int = true := Bool.and_eq_true_iff.mp hi
  obtain ⟨i, rfl⟩ := hasW_int hi'.1
  obtain ⟨ns, h1, h2⟩ := ih hi'.2 rs
  cases r with
  | int i t => exact ⟨i :: ns, .cons i t h1, by simp [h2]⟩
theorem law_args {args : List WData} {vals : List Value} {as : List Addr} {cl : Str → Option Addr} {h : Heap} (hpre : PySem.Challenge.rw_ij0202_01.row.toRowW.claim.pre args = true)
  (hr : ReadsAllW PySem.Challenge.rw_ij0202_01.row.toRowW.records cl h vals args as) : ∃ (a : Addr) (vs : List Value) (ns : List Int), vals = [.ref a] ∧ h.IsList a vs.toArray ∧ IntsAre vs ns ∧ ns.length ≤ 63 := by
 obtain ⟨h1, h2⟩ := pre_splitW hpre
 obtain ⟨d, r, rfl, h3, h4⟩ := hasAllW_cons h1
 cases hasAllW_nil h4
 obtain ⟨xs, rfl, h5⟩ := hasW_list h3
 have hlen : xs.length ≤ 63 := by
  have e : WTm.holds PySem.Challenge.rw_ij0202_01.row.toRowW.records PySem.Challenge.rw_ij0202_01.row.toRowW.pre { args := [.list xs] } = true := h2
  by_cases hn : xs.length ≤ 63
  ·exact hn
  ·exfalso
   have hlt : (63 : Int) < (xs.length : Int) := by exact o44 (Nat.lt_of_not_le hn)
   have q : ∀ b : Bool, b = true → WTm.holds PySem.Challenge.rw_ij0202_01.row.toRowW.records (.and (.not (.lit (.bool b))) (.lit (.bool true))) { args := [] } = true → False := fun b h k => by subst h; revert k; decide +kernel
   exact q (decide ((63 : Int) < (xs.length : Int))) (decide_eq_true hlt) e
 cases hr with
 | cons r rs =>
  cases rs
  cases r with
  | @list a o vs n xs as ho hc hd hrs =>
   obtain ⟨ns, g1, g2⟩ := ints_of h5 hrs
   exact ⟨a, vs.toList, ns, rfl, ⟨o, ho, hc, n, by simpa using hd⟩, g1, by exact o74 hlen g2⟩
theorem law_post (args : List WData) : PySem.Challenge.rw_ij0202_01.row.toRowW.claim.post args (.bool true) args = true := by
 show (WShape.has PySem.Challenge.rw_ij0202_01.row.toRowW.records (.bool true) .bool && WTm.holds PySem.Challenge.rw_ij0202_01.row.toRowW.records (.eq .res (.lit (.bool true))) { args := args, res := some (.bool true), after := args }) = true
 kernel_rfl
theorem recs_ok : ∀ p ∈ theDefs, ∃ pos, (⟨p.1, argsAt p.2, bodyAt p.2, scopeAt p.2, pos⟩ : DefRec) ∈ recsOf vQ := by
 unfold theDefs
 repeat' refine List.forall_mem_cons.2 ⟨?_, ?_⟩
 ·exact ⟨_, zI (i := 0) rfl⟩
 ·exact ⟨_, zI (i := 1) rfl⟩
 ·exact ⟨_, zI (i := 3) rfl⟩
 ·exact ⟨_, zI (i := 4) rfl⟩
 ·exact ⟨_, zI (i := 5) rfl⟩
 ·exact ⟨_, zI (i := 6) rfl⟩
 ·exact ⟨_, zI (i := 7) rfl⟩
 ·exact ⟨_, zI (i := 8) rfl⟩
 ·exact ⟨_, zI (i := 9) rfl⟩
 ·exact ⟨_, zI (i := 10) rfl⟩
 ·exact ⟨_, zI (i := 11) rfl⟩
 ·exact ⟨_, zI (i := 12) rfl⟩
 ·exact ⟨_, zI (i := 13) rfl⟩
 ·exact ⟨_, zI (i := 14) rfl⟩
 ·exact ⟨_, zI (i := 15) rfl⟩
 ·exact ⟨_, zI (i := 16) rfl⟩
 ·exact ⟨_, zI (i := 17) rfl⟩
 ·exact ⟨_, zI (i := 18) rfl⟩
 ·exact ⟨_, zI (i := 19) rfl⟩
 ·exact fun _ h => nomatch h
theorem the_end (plain : ∀ (P a : Addr) (ns : List Int), ns.length ≤ 63 → ∃ σ' lam, P_law P a ns [.fn a] [.tab P ⟨73, 39, 73, 76⟩ none] = some (.bool true, σ') ∧ σ'[0]? = some (.tab P ⟨73, 39, 73, 76⟩ lam)) : PySem.Challenge.rw_ij0202_01.Holds := by
 refine hdM ?_
 intro w s₀ s₁ mg mb G Y a o pm cd doc dV kV h1 h2 h3 h4 h5 hgens args vals as hpre hlay hreads hwell hlow
 have T := G.T
 have hP : s₁.heap.get? 64 = some (tabObj #[]) := Y.tab
 have hcode : CodeHd s₁.heap 68 64 := Y.code
 obtain ⟨om, es, ne, m1, m2, m3, m4⟩ := Y.main
 have hmg : ∀ x : Str, nsFind es x = mg x := fun x => by
  obtain ⟨o, es', ep, ho, hd, _, hm⟩ := T.g
  rw [m1] at ho; cases ho
  rw [m3] at hd; cases hd
  exact hm x
 have htwin : mg "_twin_re_1" = some (.ref 43) := (hmg _).symm.trans (List.cons.inj m4).1
 have htr : mg "_translate" = some (.ref 69) := (hmg _).symm.trans (List.cons.inj (List.cons.inj m4).2).1
 have m5 : theFree.map (nsFind es) = List.replicate 11 none := (List.cons.inj (List.cons.inj m4).2).2
 have hpat : PatAt (hideA s₁.heap [64]) 43 := by
  refine ⟨_, _, 42, _, _, _, hid_get hP Y.pat (by intro e; cases e), rfl, rfl, rfl, rfl, rfl, rfl, hid_get hP Y.prg (by intro e; cases e), rfl, ?_⟩
  decide +kernel
 have hfree : ∀ x ∈ theFree, mg x = none := fun x hx => (hmg x).symm.trans (List.eq_of_mem_replicate (m5 ▸ List.mem_map_of_mem hx))
 obtain ⟨ot, ft, t1, t2, t3⟩ := Y.tr
 have hg := hid_ns hP T.g
 have hb := hid_ns hP T.b
 have hn : (hideA s₁.heap [64]).NoLimit := let ⟨mc, n1, n2⟩ := T.nolimit; ⟨mc, hid_ns hP n1, n2⟩
 obtain ⟨H, hHP⟩ := given_of (prog := PySem.Challenge.rw_ij0202_01.row.toRowW.prog) (w := w) (os := s₁.os) T hP hg hb hn T.builtins recs_ok hfree htwin hpat hcode ⟨om, m1, by rw [m2]; decide⟩ htr t1 t2 t3
 obtain ⟨al, g1, D⟩ := def_of (prog := PySem.Challenge.rw_ij0202_01.row.toRowW.prog) (w := w) (os := s₁.os) (g := hg) (b := hb) (nl := hn) (bi := T.builtins) T hP (recs_ok ("law", 28) (by decide +kernel))
 have hal : al = a := by
  have h5 : mg "law" = some (.ref a) := h5
  have e := g1.symm.trans h5
  injection e with e
  injection e with e
 subst hal
 obtain ⟨la, vs, ns, rfl, hla, hi, hz⟩ := law_args hpre hreads
 have hs : ScriptAt ⟨PySem.Challenge.rw_ij0202_01.row.toRowW.prog, w, hideA s₁.heap [64], s₁.os, mg, mb, hg, hb, hn, T.builtins⟩ la ns := by
  obtain ⟨ol, e1, e2, n, e3⟩ := hla
  exact ⟨vs, ⟨ol, hid_get hP e1 (by rw [e3]; intro e; cases e), e2, n, e3⟩, hi, hz⟩
 obtain ⟨σ', lam, ev, htab⟩ := plain 64 la ns hz
 have C := ok_law0 H hs D callerA [] [] [64] [.tab 64 ⟨73, 39, 73, 76⟩ none] s₁ [.fn la] [.ref la]
 rw [hHP] at C
 refine C ?_ ?_ ⟨rfl, trivial⟩ _ _ ev _ _ ?_
 ·exact ⟨rfl, by decide, by decide, rfl, fun e he => by cases he⟩
 ·refine ⟨fun b o e => (hid_back e).1, rfl, .of_eq hgens, rfl, fun i a ao e1 e2 => ?_, fun a ha => ?_, by simp, fun p hp => by simp at hp, fun p hp => by simp at hp, .nil, Nat.succ_pos _⟩
  ·cases i with
   | succ i => simp at e1
   | zero =>
    cases e1; cases e2
    exact ⟨_, hP, rfl, #[], rfl, trivial, rfl⟩
  ·rw [zL ha]
   exact hideA_in _ _ _ (List.mem_singleton.mpr rfl)
 ·intro ρ' s' c le rc st
  cases rc
  obtain ⟨q, o', hq, ho', r⟩ := st.at htab
  obtain ⟨eq, ps, rfl, _⟩ := r
  rw [hq] at eq; cases eq
  have e0 : ρ'[0]? = some 64 := le 0 64 rfl
  rw [hq] at e0; cases e0
  refine ⟨.inl ⟨.bool true, .bool true, [], rfl, fun _ => rfl, .bool _, ?_, fun _ => ⟨.nil, fun a ha => by cases ha⟩⟩, ⟨fun b o e => ?_, fun b o e => ?_⟩, st.os, st.gens⟩
  ·exact law_post args
  ·by_cases hb : b = 64
   ·subst hb
    rw [hP] at e; cases e
    refine .inr (.inl ⟨?_, rfl, #[], ps, rfl, ?_⟩)
    ·obtain ⟨oc, ws, f, tf, fl, tg, iF, tx, tt, c1, c2, c3, c4, _⟩ := hcode
     exact ⟨68, oc, ws, c1, c2, c3, c4⟩
    ·rw [ho']; simp
   ·exact .inl (st.stays b o (by rw [hideA_out _ _ _ (fun hm => hb (zL hm))]; exact e))
  ·by_cases hb : b = 64
   ·subst hb; exact ⟨_, ho'⟩
   ·exact ⟨o, st.stays b o (by rw [hideA_out _ _ _ (fun hm => hb (zL hm))]; exact e)⟩
end NB3
end Mine

set_option maxRecDepth 100000 in
set_option maxHeartbeats 8000000 in
theorem PySem.Challenge.cw_ij0202_01_holds : PySem.Challenge.rw_ij0202_01.Holds :=
 Mine.the_end Mine.law_spec
