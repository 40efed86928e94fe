import PyProof.Rows.All
import Wide.All
import OpenK.AllK
import Wide.FinOn
import PyProof.AttrMissHeap
import PyProof.Rows.SetFrom
import KE.KNestM
import Lean
import PySem.Challenge.RW_af0005_01
set_option Elab.async false
set_option maxRecDepth 100000
set_option maxHeartbeats 8000000
set_option linter.all false
section
open PySem PySem.W PyProof.Rows
set_option Elab.async false
set_option maxRecDepth 100000
set_option maxHeartbeats 8000000
namespace Mine
noncomputable def qv : Program := { PySem.Challenge.rw_af0005_01.prog with main := { PySem.Challenge.rw_af0005_01.prog.main with
  body := match PySem.Challenge.rw_af0005_01.prog.main.body with | [a, _, b, c, _, d, e, f, _, g, h] => [a, b, c, d, e, f, g, h] | l => l } }
theorem hdl {r : OpenRow} {q : Program} {d : DefRec} {kwd : List (Str × Expr)} {N : Nat} (hk : Hook) (hl : LeftO r.prog q [] (fun s => xlAt q [] s && recOk (RowW.records (OpenRow.toRowW r)) s) hk.obs hk.val N)
    (hdef : defOf q r.name = some (d, kwd)) (hp : r.prog.theDef r.name = some (d.params, d.body, d.scope))
    (hkw : kwWritten? d.params.kwonlyargs d.params.kw_defaults = some kwd) (hwr : (!r.writes || r.records.isEmpty) = true)
    (k1 : r.wellSaid = true) (ok : (chainsOk q && opensWell r.prog && (frees r.toRowW && r.within.isEmpty)) = true)
    (hb : r.prog.bare) (hw : r.toRowW.promised) (call : WalkO q [] (XL q []) hk.says r.toRowW d kwd fun f vs => PySem.call f vs) : r.Holds :=
  holds_open hl hk.of hk.keeps (fun s e => xl_of s (Bool.and_eq_true_iff.mp e).1) XL.keeps hdef hp hkw (fun s e => recFacts_of (Bool.and_eq_true_iff.mp e).2) hwr k1 ok hb hw call
local macro_rules | `(tactic| o_head ($f $k $a $e)) => `(tactic| (
  refine hdl (q := qv) (N := 2658) (kmHook $k $a (fun _ => by kernel_rfl) [93, 170, 177, 184, 191]) ?hl (by rfl) (by rfl) (by rfl) (by rfl) (by first | assumption | decide +kernel) (by decide +kernel) ⟨rfl, rfl, rfl, rfl, rfl, by decide +kernel⟩ ?hw ?hc
  case hl =>
    intro w
    delta PySem.W.openEnds PySem.W.topFrom
    rw [PySem.W.Fast.te14082659384304107361, PySem.W.Fast.te14364793385576792824, PySem.W.Fast.te4187177175401517315]
    kernel_rfl))
local macro_rules | `(tactic| o_law) => `(tactic| refine holds_law (by decide +kernel) fun said => ?_)
open_top hd for PySem.Challenge.rw_af0005_01
end Mine
end
section
namespace Mine
theorem oU {a n c m : Nat} (h : a + n < c) (b : Nat.ble m n = true) : a + m < c := Nat.lt_of_le_of_lt (Nat.add_le_add_left (Nat.le_of_ble_eq_true b) a) h
theorem oV {a n c : Nat} (h : a + n < c) : a < c := Nat.lt_of_le_of_lt (Nat.le_add_right a n) h
theorem oL {a n m : Nat} (h : a ≤ n) (b : Nat.ble n m = true) : a ≤ m := Nat.le_trans h (Nat.le_of_ble_eq_true b)
theorem oE {a c n m : Nat} (e : a = c) (h : c ≤ n) (b : Nat.ble n m = true) : a ≤ m := e ▸ oL h b
theorem oE' {a c n m : Nat} (h : c ≤ n) (e : a = c) (b : Nat.ble n m = true) : a ≤ m := e ▸ oL h b
theorem oEs {a c n m : Nat} (e : c = a) (h : c ≤ n) (b : Nat.ble n m = true) : a ≤ m := e ▸ oL h b
theorem oM {a n m : Nat} (h : a ≤ n) (b : Nat.ble (n + 1) m = true) : a < m := Nat.lt_of_le_of_lt h (Nat.le_of_ble_eq_true b)
theorem o63 {a n : Nat} (h : a ≤ n) (b : Nat.ble n 100000 = true) : (a : Int) < 2 ^ 63 := by have := Nat.le_of_ble_eq_true b; lia
theorem o63e {a c n : Nat} (e : a = c) (h : c ≤ n) (b : Nat.ble n 100000 = true) : (a : Int) < 2 ^ 63 := e ▸ o63 h b
theorem oK {a c n m : Nat} (h : a < c) (h' : c ≤ n) (b : Nat.ble n m = true) : a ≤ m := Nat.le_trans (Nat.le_of_lt h) (oL h' b)
theorem oK1 {a c n m : Nat} (h : a < c) (h' : c ≤ n) (b : Nat.ble n m = true) : a + 1 ≤ m := Nat.le_trans h (oL h' b)
theorem oQ {a c d : Nat} (e : a = c) (h : d < c) : d < a := e ▸ h
theorem oQ' {a c d : Nat} (e : c = a) (h : d < c) : d < a := e ▸ h
theorem oQ'' {a c d : Nat} (h : d < c) (e : c = a) : d < a := e ▸ h
theorem oQ3 {a c d : Nat} (h : d < c) (e : a = c) : d < a := e ▸ h
theorem oR {a c d : Nat} (e : a = c) (h : d ≤ c) : d ≤ a := e ▸ h
theorem oR' {a c d : Nat} (e : c = a) (h : d ≤ c) : d ≤ a := e ▸ h
theorem oS {n i k : Nat} (h : n - i = k + 1) : n - (i + 1) = k := by rw [Nat.sub_add_eq, h]; rfl
theorem oS1 {n i k : Nat} (h : n - i = k + 1) : i < n := Nat.lt_of_sub_ne_zero (h ▸ Nat.succ_ne_zero k)
theorem oS2 {n k : Nat} (h : k < n) : n - (k + 1) < n - k := Nat.sub_succ_lt_self _ _ h
theorem oN {k n : Nat} (h : k ≤ n) (g : ¬ k < n) : k = n := Nat.le_antisymm h (Nat.le_of_not_lt g)
theorem oNe {k n m : Nat} (e : m = n) (g : ¬ k < n) : m ≤ k := e ▸ Nat.le_of_not_lt g
theorem oJ {x y k : Nat} (h : x ≤ y + k) : x ≤ y + (k + 1) := Nat.le_succ_of_le h
theorem oJ1 {x y k : Nat} (h : x ≤ y + k) : x + 1 ≤ y + (k + 1) := Nat.succ_le_succ h
theorem oI {x y n : Nat} (h : x ≤ y) (h' : y < n) : x < n := Nat.lt_of_le_of_lt h h'
theorem oI' {x y n : Nat} (h : x < y) (h' : y ≤ n) : x < n := Nat.lt_of_lt_of_le h h'
theorem oP {a b j : Nat} (e : a = b - j) (h : j < b) : ∃ n, a = n + 1 := Nat.exists_eq_succ_of_ne_zero (e ▸ Nat.sub_ne_zero_of_lt h)
theorem oP2 {a b j n : Nat} (e : a = b - j) (h : a = n + 1) : b - 1 - (n + 1 - 1) = j := by lia
theorem oP3 {a a0 b j n : Nat} (h1 : n + 1 - 1 = a) (e : a0 = b - j) (h : a0 = n + 1) : a = b - (j + 1) := by lia
theorem oT {α : Type _} {l : List α} {j n m : Nat} (h : l.length ≤ n) (b : Nat.ble n m = true) : (l.take j).length ≤ m := Nat.le_trans (by rw [List.length_take]; exact Nat.min_le_right ..) (oL h b)
theorem al1 {α : Type _} {P : α → Prop} {a : α} (h1 : P a) : ∀ p ∈ [a], P p := fun _ h => List.mem_singleton.mp h ▸ h1
theorem al2 {α : Type _} {P : α → Prop} {a b : α} (h1 : P a) (h2 : P b) : ∀ p ∈ [a, b], P p := fun p h => (List.mem_cons.mp h).elim (fun e => e ▸ h1) (al1 h2 p)
theorem al3 {α : Type _} {P : α → Prop} {a b c : α} (h1 : P a) (h2 : P b) (h3 : P c) : ∀ p ∈ [a, b, c], P p := fun p h => (List.mem_cons.mp h).elim (fun e => e ▸ h1) (al2 h2 h3 p)
theorem al4 {α : Type _} {P : α → Prop} {a b c d : α} (h1 : P a) (h2 : P b) (h3 : P c) (h4 : P d) : ∀ p ∈ [a, b, c, d], P p := fun p h => (List.mem_cons.mp h).elim (fun e => e ▸ h1) (al3 h2 h3 h4 p)
theorem al5 {α : Type _} {P : α → Prop} {a b c d e : α} (h1 : P a) (h2 : P b) (h3 : P c) (h4 : P d) (h5 : P e) : ∀ p ∈ [a, b, c, d, e], P p := fun p h => (List.mem_cons.mp h).elim (fun e => e ▸ h1) (al4 h2 h3 h4 h5 p)
theorem al6 {α : Type _} {P : α → Prop} {a b c d e f : α} (h1 : P a) (h2 : P b) (h3 : P c) (h4 : P d) (h5 : P e) (h6 : P f) : ∀ p ∈ [a, b, c, d, e, f], P p := fun p h => (List.mem_cons.mp h).elim (fun e => e ▸ h1) (al5 h2 h3 h4 h5 h6 p)
section
variable {α : Type _} {a b c d e f : α}
theorem nm2 (h : a ∉ [b, c]) : ¬a = b ∧ ¬a = c := by simpa using h
theorem nm4 (h : a ∉ [b, c, d, e]) : ¬a = b ∧ ¬a = c ∧ ¬a = d ∧ ¬a = e := by simpa using h
theorem nI1 (h1 : ¬a = b) : a ∉ [b] := by simpa using h1
theorem nI2 (h1 : ¬a = b) (h2 : ¬a = c) : a ∉ [b, c] := by simp [h1, h2]
theorem nI3 (h1 : ¬a = b) (h2 : ¬a = c) (h3 : ¬a = d) : a ∉ [b, c, d] := by simp [h1, h2, h3]
theorem nI4 (h1 : ¬a = b) (h2 : ¬a = c) (h3 : ¬a = d) (h4 : ¬a = e) : a ∉ [b, c, d, e] := by simp [h1, h2, h3, h4]
theorem nd4 (h : [a, b, c, d].Nodup) : (¬a = b ∧ ¬a = c ∧ ¬a = d) ∧ (¬b = c ∧ ¬b = d) ∧ ¬c = d ∧ True := by simpa [and_assoc] using h
theorem nd6 (h : [a, b, c, d, e, f].Nodup) : (¬a = b ∧ ¬a = c ∧ ¬a = d ∧ ¬a = e ∧ ¬a = f) ∧ (¬b = c ∧ ¬b = d ∧ ¬b = e ∧ ¬b = f) ∧ (¬c = d ∧ ¬c = e ∧ ¬c = f) ∧ (¬d = e ∧ ¬d = f) ∧ ¬e = f := by simpa [and_assoc] using h
theorem ndi2 (d1 : ¬a = b) : [a, b].Nodup := by simp [d1]
theorem ndi3 (d1 : ¬a = b) (d2 : ¬a = c) (d4 : ¬b = c) : [a, b, c].Nodup := by simp [d1, d2, d4]
theorem ndi4 (d1 : ¬a = b) (d2 : ¬a = c) (d3 : ¬a = d) (d4 : ¬b = c) (d5 : ¬b = d) (d6 : ¬c = d) : [a, b, c, d].Nodup := by simp [d1, d2, d3, d4, d5, d6]
theorem al6i {P : α → Prop} (h : ∀ p ∈ [a, b, c, d, e, f], P p) : P a ∧ P b ∧ P c ∧ P d ∧ P e ∧ P f := by simpa using h
end
theorem gen1 {α : Sort _} (e : α) {G : Prop} (k : ∀ x, e = x → G) : G := k e rfl
theorem ifT {c : Prop} [Decidable c] {P Q : Prop} (h : c) (p : P) : if c then P else Q := (if_pos h).symm ▸ p
theorem ifF {c : Prop} [Decidable c] {P Q : Prop} (h : ¬c) (q : Q) : if c then P else Q := (if_neg h).symm ▸ q
theorem ifTb {b : Bool} {P Q : Prop} (h : b = true) (p : P) : if b = true then P else Q := ifT h p
theorem ifFb {b : Bool} {P Q : Prop} (h : b = false) (q : Q) : if b = true then P else Q := ifF (ne_true_of_eq_false h) q
section
variable {α : Type} {M : PySem.Model} {A : PySem.Around} {t e : PySem.Sem α} {Q : α → PySem.Shared → Prop} {E : PySem.Value → PySem.Shared → Prop} {s : PySem.Shared}
theorem wifT {c : Prop} [Decidable c] (h : c) (p : PySem.wpAny M A t Q E s) : PySem.wpAny M A (if c then t else e) Q E s := (if_pos h).symm ▸ p
theorem wifF {c : Prop} [Decidable c] (h : ¬c) (p : PySem.wpAny M A e Q E s) : PySem.wpAny M A (if c then t else e) Q E s := (if_neg h).symm ▸ p
theorem wifTb {b : Bool} (h : b = true) (p : PySem.wpAny M A t Q E s) : PySem.wpAny M A (if b = true then t else e) Q E s := wifT h p
theorem wifFb {b : Bool} (h : b = false) (p : PySem.wpAny M A e Q E s) : PySem.wpAny M A (if b = true then t else e) Q E s := wifF (ne_true_of_eq_false h) p
end
end Mine
end
local macro_rules | `(tactic| walk_at "q") => `(tactic| first
  | (refine let qz := _; (?_ : PySem.wpAny _ _ _ qz _ _))
  | (show @ite _ _ _ _ _)
  | skip)
local macro_rules | `(tactic| omega) => `(tactic| lia)

section
namespace Mine
theorem xa0_2 {A0 A1 : Prop} {G : Prop} (h : A0 ∧ A1) (k : A0 → A1 → G) : G := k h.1 h.2
theorem xa0_3 {A0 A1 A2 : Prop} {G : Prop} (h : A0 ∧ A1 ∧ A2) (k : A0 → A1 → A2 → G) : G := k h.1 h.2.1 h.2.2
theorem xa0_4 {A0 A1 A2 A3 : Prop} {G : Prop} (h : A0 ∧ A1 ∧ A2 ∧ A3) (k : A0 → A1 → A2 → A3 → G) : G := k h.1 h.2.1 h.2.2.1 h.2.2.2
theorem xa0_5 {A0 A1 A2 A3 A4 : Prop} {G : Prop} (h : A0 ∧ A1 ∧ A2 ∧ A3 ∧ A4) (k : A0 → A1 → A2 → A3 → A4 → G) : G := k h.1 h.2.1 h.2.2.1 h.2.2.2.1 h.2.2.2.2
theorem xa0_6 {A0 A1 A2 A3 A4 A5 : Prop} {G : Prop} (h : A0 ∧ A1 ∧ A2 ∧ A3 ∧ A4 ∧ A5) (k : A0 → A1 → A2 → A3 → A4 → A5 → G) : G := k h.1 h.2.1 h.2.2.1 h.2.2.2.1 h.2.2.2.2.1 h.2.2.2.2.2
theorem xa1_1 {α0 : Type _} {A0 : α0 → Prop} {G : Prop} (h : ∃ x0, A0 x0) (k : ∀ x0, A0 x0 → G) : G := h.elim fun x0 h => k x0 h
theorem xa1_2 {α0 : Type _} {A0 A1 : α0 → Prop} {G : Prop} (h : ∃ x0, A0 x0 ∧ A1 x0) (k : ∀ x0, A0 x0 → A1 x0 → G) : G := h.elim fun x0 h => k x0 h.1 h.2
theorem xa1_3 {α0 : Type _} {A0 A1 A2 : α0 → Prop} {G : Prop} (h : ∃ x0, A0 x0 ∧ A1 x0 ∧ A2 x0) (k : ∀ x0, A0 x0 → A1 x0 → A2 x0 → G) : G := h.elim fun x0 h => k x0 h.1 h.2.1 h.2.2
theorem xa1_4 {α0 : Type _} {A0 A1 A2 A3 : α0 → Prop} {G : Prop} (h : ∃ x0, A0 x0 ∧ A1 x0 ∧ A2 x0 ∧ A3 x0) (k : ∀ x0, A0 x0 → A1 x0 → A2 x0 → A3 x0 → G) : G := h.elim fun x0 h => k x0 h.1 h.2.1 h.2.2.1 h.2.2.2
theorem xa1_5 {α0 : Type _} {A0 A1 A2 A3 A4 : α0 → Prop} {G : Prop} (h : ∃ x0, A0 x0 ∧ A1 x0 ∧ A2 x0 ∧ A3 x0 ∧ A4 x0) (k : ∀ x0, A0 x0 → A1 x0 → A2 x0 → A3 x0 → A4 x0 → G) : G := h.elim fun x0 h => k x0 h.1 h.2.1 h.2.2.1 h.2.2.2.1 h.2.2.2.2
theorem xa1_6 {α0 : Type _} {A0 A1 A2 A3 A4 A5 : α0 → Prop} {G : Prop} (h : ∃ x0, A0 x0 ∧ A1 x0 ∧ A2 x0 ∧ A3 x0 ∧ A4 x0 ∧ A5 x0) (k : ∀ x0, A0 x0 → A1 x0 → A2 x0 → A3 x0 → A4 x0 → A5 x0 → G) : G := h.elim fun x0 h => k x0 h.1 h.2.1 h.2.2.1 h.2.2.2.1 h.2.2.2.2.1 h.2.2.2.2.2
theorem xa1_8 {α0 : Type _} {A0 A1 A2 A3 A4 A5 A6 A7 : α0 → Prop} {G : Prop} (h : ∃ x0, A0 x0 ∧ A1 x0 ∧ A2 x0 ∧ A3 x0 ∧ A4 x0 ∧ A5 x0 ∧ A6 x0 ∧ A7 x0) (k : ∀ x0, A0 x0 → A1 x0 → A2 x0 → A3 x0 → A4 x0 → A5 x0 → A6 x0 → A7 x0 → G) : G := h.elim fun x0 h => k x0 h.1 h.2.1 h.2.2.1 h.2.2.2.1 h.2.2.2.2.1 h.2.2.2.2.2.1 h.2.2.2.2.2.2.1 h.2.2.2.2.2.2.2
theorem xa2_1 {α0 α1 : Type _} {A0 : α0 → α1 → Prop} {G : Prop} (h : ∃ x0, ∃ x1, A0 x0 x1) (k : ∀ x0 x1, A0 x0 x1 → G) : G := h.elim fun x0 h => h.elim fun x1 h => k x0 x1 h
theorem xa2_2 {α0 α1 : Type _} {A0 A1 : α0 → α1 → Prop} {G : Prop} (h : ∃ x0, ∃ x1, A0 x0 x1 ∧ A1 x0 x1) (k : ∀ x0 x1, A0 x0 x1 → A1 x0 x1 → G) : G := h.elim fun x0 h => h.elim fun x1 h => k x0 x1 h.1 h.2
theorem xa2_3 {α0 α1 : Type _} {A0 A1 A2 : α0 → α1 → Prop} {G : Prop} (h : ∃ x0, ∃ x1, A0 x0 x1 ∧ A1 x0 x1 ∧ A2 x0 x1) (k : ∀ x0 x1, A0 x0 x1 → A1 x0 x1 → A2 x0 x1 → G) : G := h.elim fun x0 h => h.elim fun x1 h => k x0 x1 h.1 h.2.1 h.2.2
theorem xa2_4 {α0 α1 : Type _} {A0 A1 A2 A3 : α0 → α1 → Prop} {G : Prop} (h : ∃ x0, ∃ x1, A0 x0 x1 ∧ A1 x0 x1 ∧ A2 x0 x1 ∧ A3 x0 x1) (k : ∀ x0 x1, A0 x0 x1 → A1 x0 x1 → A2 x0 x1 → A3 x0 x1 → G) : G := h.elim fun x0 h => h.elim fun x1 h => k x0 x1 h.1 h.2.1 h.2.2.1 h.2.2.2
theorem xa2_6 {α0 α1 : Type _} {A0 A1 A2 A3 A4 A5 : α0 → α1 → Prop} {G : Prop} (h : ∃ x0, ∃ x1, A0 x0 x1 ∧ A1 x0 x1 ∧ A2 x0 x1 ∧ A3 x0 x1 ∧ A4 x0 x1 ∧ A5 x0 x1) (k : ∀ x0 x1, A0 x0 x1 → A1 x0 x1 → A2 x0 x1 → A3 x0 x1 → A4 x0 x1 → A5 x0 x1 → G) : G := h.elim fun x0 h => h.elim fun x1 h => k x0 x1 h.1 h.2.1 h.2.2.1 h.2.2.2.1 h.2.2.2.2.1 h.2.2.2.2.2
theorem xa3_2 {α0 α1 α2 : Type _} {A0 A1 : α0 → α1 → α2 → Prop} {G : Prop} (h : ∃ x0, ∃ x1, ∃ x2, A0 x0 x1 x2 ∧ A1 x0 x1 x2) (k : ∀ x0 x1 x2, A0 x0 x1 x2 → A1 x0 x1 x2 → G) : G := h.elim fun x0 h => h.elim fun x1 h => h.elim fun x2 h => k x0 x1 x2 h.1 h.2
theorem xa3_3 {α0 α1 α2 : Type _} {A0 A1 A2 : α0 → α1 → α2 → Prop} {G : Prop} (h : ∃ x0, ∃ x1, ∃ x2, A0 x0 x1 x2 ∧ A1 x0 x1 x2 ∧ A2 x0 x1 x2) (k : ∀ x0 x1 x2, A0 x0 x1 x2 → A1 x0 x1 x2 → A2 x0 x1 x2 → G) : G := h.elim fun x0 h => h.elim fun x1 h => h.elim fun x2 h => k x0 x1 x2 h.1 h.2.1 h.2.2
theorem xa3_4 {α0 α1 α2 : Type _} {A0 A1 A2 A3 : α0 → α1 → α2 → Prop} {G : Prop} (h : ∃ x0, ∃ x1, ∃ x2, A0 x0 x1 x2 ∧ A1 x0 x1 x2 ∧ A2 x0 x1 x2 ∧ A3 x0 x1 x2) (k : ∀ x0 x1 x2, A0 x0 x1 x2 → A1 x0 x1 x2 → A2 x0 x1 x2 → A3 x0 x1 x2 → G) : G := h.elim fun x0 h => h.elim fun x1 h => h.elim fun x2 h => k x0 x1 x2 h.1 h.2.1 h.2.2.1 h.2.2.2
theorem xa3_5 {α0 α1 α2 : Type _} {A0 A1 A2 A3 A4 : α0 → α1 → α2 → Prop} {G : Prop} (h : ∃ x0, ∃ x1, ∃ x2, A0 x0 x1 x2 ∧ A1 x0 x1 x2 ∧ A2 x0 x1 x2 ∧ A3 x0 x1 x2 ∧ A4 x0 x1 x2) (k : ∀ x0 x1 x2, A0 x0 x1 x2 → A1 x0 x1 x2 → A2 x0 x1 x2 → A3 x0 x1 x2 → A4 x0 x1 x2 → G) : G := h.elim fun x0 h => h.elim fun x1 h => h.elim fun x2 h => k x0 x1 x2 h.1 h.2.1 h.2.2.1 h.2.2.2.1 h.2.2.2.2
theorem xa3_6 {α0 α1 α2 : Type _} {A0 A1 A2 A3 A4 A5 : α0 → α1 → α2 → Prop} {G : Prop} (h : ∃ x0, ∃ x1, ∃ x2, A0 x0 x1 x2 ∧ A1 x0 x1 x2 ∧ A2 x0 x1 x2 ∧ A3 x0 x1 x2 ∧ A4 x0 x1 x2 ∧ A5 x0 x1 x2) (k : ∀ x0 x1 x2, A0 x0 x1 x2 → A1 x0 x1 x2 → A2 x0 x1 x2 → A3 x0 x1 x2 → A4 x0 x1 x2 → A5 x0 x1 x2 → G) : G := h.elim fun x0 h => h.elim fun x1 h => h.elim fun x2 h => k x0 x1 x2 h.1 h.2.1 h.2.2.1 h.2.2.2.1 h.2.2.2.2.1 h.2.2.2.2.2
theorem xa3_10 {α0 α1 α2 : Type _} {A0 A1 A2 A3 A4 A5 A6 A7 A8 A9 : α0 → α1 → α2 → Prop} {G : Prop} (h : ∃ x0, ∃ x1, ∃ x2, A0 x0 x1 x2 ∧ A1 x0 x1 x2 ∧ A2 x0 x1 x2 ∧ A3 x0 x1 x2 ∧ A4 x0 x1 x2 ∧ A5 x0 x1 x2 ∧ A6 x0 x1 x2 ∧ A7 x0 x1 x2 ∧ A8 x0 x1 x2 ∧ A9 x0 x1 x2) (k : ∀ x0 x1 x2, A0 x0 x1 x2 → A1 x0 x1 x2 → A2 x0 x1 x2 → A3 x0 x1 x2 → A4 x0 x1 x2 → A5 x0 x1 x2 → A6 x0 x1 x2 → A7 x0 x1 x2 → A8 x0 x1 x2 → A9 x0 x1 x2 → G) : G := h.elim fun x0 h => h.elim fun x1 h => h.elim fun x2 h => k x0 x1 x2 h.1 h.2.1 h.2.2.1 h.2.2.2.1 h.2.2.2.2.1 h.2.2.2.2.2.1 h.2.2.2.2.2.2.1 h.2.2.2.2.2.2.2.1 h.2.2.2.2.2.2.2.2.1 h.2.2.2.2.2.2.2.2.2
theorem xa4_2 {α0 α1 α2 α3 : Type _} {A0 A1 : α0 → α1 → α2 → α3 → Prop} {G : Prop} (h : ∃ x0, ∃ x1, ∃ x2, ∃ x3, A0 x0 x1 x2 x3 ∧ A1 x0 x1 x2 x3) (k : ∀ x0 x1 x2 x3, A0 x0 x1 x2 x3 → A1 x0 x1 x2 x3 → G) : G := h.elim fun x0 h => h.elim fun x1 h => h.elim fun x2 h => h.elim fun x3 h => k x0 x1 x2 x3 h.1 h.2
theorem xa4_4 {α0 α1 α2 α3 : Type _} {A0 A1 A2 A3 : α0 → α1 → α2 → α3 → Prop} {G : Prop} (h : ∃ x0, ∃ x1, ∃ x2, ∃ x3, A0 x0 x1 x2 x3 ∧ A1 x0 x1 x2 x3 ∧ A2 x0 x1 x2 x3 ∧ A3 x0 x1 x2 x3) (k : ∀ x0 x1 x2 x3, A0 x0 x1 x2 x3 → A1 x0 x1 x2 x3 → A2 x0 x1 x2 x3 → A3 x0 x1 x2 x3 → G) : G := h.elim fun x0 h => h.elim fun x1 h => h.elim fun x2 h => h.elim fun x3 h => k x0 x1 x2 x3 h.1 h.2.1 h.2.2.1 h.2.2.2
theorem xa4_5 {α0 α1 α2 α3 : Type _} {A0 A1 A2 A3 A4 : α0 → α1 → α2 → α3 → Prop} {G : Prop} (h : ∃ x0, ∃ x1, ∃ x2, ∃ x3, A0 x0 x1 x2 x3 ∧ A1 x0 x1 x2 x3 ∧ A2 x0 x1 x2 x3 ∧ A3 x0 x1 x2 x3 ∧ A4 x0 x1 x2 x3) (k : ∀ x0 x1 x2 x3, A0 x0 x1 x2 x3 → A1 x0 x1 x2 x3 → A2 x0 x1 x2 x3 → A3 x0 x1 x2 x3 → A4 x0 x1 x2 x3 → G) : G := h.elim fun x0 h => h.elim fun x1 h => h.elim fun x2 h => h.elim fun x3 h => k x0 x1 x2 x3 h.1 h.2.1 h.2.2.1 h.2.2.2.1 h.2.2.2.2
theorem xa4_7 {α0 α1 α2 α3 : Type _} {A0 A1 A2 A3 A4 A5 A6 : α0 → α1 → α2 → α3 → Prop} {G : Prop} (h : ∃ x0, ∃ x1, ∃ x2, ∃ x3, A0 x0 x1 x2 x3 ∧ A1 x0 x1 x2 x3 ∧ A2 x0 x1 x2 x3 ∧ A3 x0 x1 x2 x3 ∧ A4 x0 x1 x2 x3 ∧ A5 x0 x1 x2 x3 ∧ A6 x0 x1 x2 x3) (k : ∀ x0 x1 x2 x3, A0 x0 x1 x2 x3 → A1 x0 x1 x2 x3 → A2 x0 x1 x2 x3 → A3 x0 x1 x2 x3 → A4 x0 x1 x2 x3 → A5 x0 x1 x2 x3 → A6 x0 x1 x2 x3 → G) : G := h.elim fun x0 h => h.elim fun x1 h => h.elim fun x2 h => h.elim fun x3 h => k x0 x1 x2 x3 h.1 h.2.1 h.2.2.1 h.2.2.2.1 h.2.2.2.2.1 h.2.2.2.2.2.1 h.2.2.2.2.2.2
theorem xa5_4 {α0 α1 α2 α3 α4 : Type _} {A0 A1 A2 A3 : α0 → α1 → α2 → α3 → α4 → Prop} {G : Prop} (h : ∃ x0, ∃ x1, ∃ x2, ∃ x3, ∃ x4, A0 x0 x1 x2 x3 x4 ∧ A1 x0 x1 x2 x3 x4 ∧ A2 x0 x1 x2 x3 x4 ∧ A3 x0 x1 x2 x3 x4) (k : ∀ x0 x1 x2 x3 x4, A0 x0 x1 x2 x3 x4 → A1 x0 x1 x2 x3 x4 → A2 x0 x1 x2 x3 x4 → A3 x0 x1 x2 x3 x4 → G) : G := h.elim fun x0 h => h.elim fun x1 h => h.elim fun x2 h => h.elim fun x3 h => h.elim fun x4 h => k x0 x1 x2 x3 x4 h.1 h.2.1 h.2.2.1 h.2.2.2
theorem xa5_5 {α0 α1 α2 α3 α4 : Type _} {A0 A1 A2 A3 A4 : α0 → α1 → α2 → α3 → α4 → Prop} {G : Prop} (h : ∃ x0, ∃ x1, ∃ x2, ∃ x3, ∃ x4, A0 x0 x1 x2 x3 x4 ∧ A1 x0 x1 x2 x3 x4 ∧ A2 x0 x1 x2 x3 x4 ∧ A3 x0 x1 x2 x3 x4 ∧ A4 x0 x1 x2 x3 x4) (k : ∀ x0 x1 x2 x3 x4, A0 x0 x1 x2 x3 x4 → A1 x0 x1 x2 x3 x4 → A2 x0 x1 x2 x3 x4 → A3 x0 x1 x2 x3 x4 → A4 x0 x1 x2 x3 x4 → G) : G := h.elim fun x0 h => h.elim fun x1 h => h.elim fun x2 h => h.elim fun x3 h => h.elim fun x4 h => k x0 x1 x2 x3 x4 h.1 h.2.1 h.2.2.1 h.2.2.2.1 h.2.2.2.2
theorem xa6_3 {α0 α1 α2 α3 α4 α5 : Type _} {A0 A1 A2 : α0 → α1 → α2 → α3 → α4 → α5 → Prop} {G : Prop} (h : ∃ x0, ∃ x1, ∃ x2, ∃ x3, ∃ x4, ∃ x5, A0 x0 x1 x2 x3 x4 x5 ∧ A1 x0 x1 x2 x3 x4 x5 ∧ A2 x0 x1 x2 x3 x4 x5) (k : ∀ x0 x1 x2 x3 x4 x5, A0 x0 x1 x2 x3 x4 x5 → A1 x0 x1 x2 x3 x4 x5 → A2 x0 x1 x2 x3 x4 x5 → G) : G := h.elim fun x0 h => h.elim fun x1 h => h.elim fun x2 h => h.elim fun x3 h => h.elim fun x4 h => h.elim fun x5 h => k x0 x1 x2 x3 x4 x5 h.1 h.2.1 h.2.2
theorem xa6_6 {α0 α1 α2 α3 α4 α5 : Type _} {A0 A1 A2 A3 A4 A5 : α0 → α1 → α2 → α3 → α4 → α5 → Prop} {G : Prop} (h : ∃ x0, ∃ x1, ∃ x2, ∃ x3, ∃ x4, ∃ x5, A0 x0 x1 x2 x3 x4 x5 ∧ A1 x0 x1 x2 x3 x4 x5 ∧ A2 x0 x1 x2 x3 x4 x5 ∧ A3 x0 x1 x2 x3 x4 x5 ∧ A4 x0 x1 x2 x3 x4 x5 ∧ A5 x0 x1 x2 x3 x4 x5) (k : ∀ x0 x1 x2 x3 x4 x5, A0 x0 x1 x2 x3 x4 x5 → A1 x0 x1 x2 x3 x4 x5 → A2 x0 x1 x2 x3 x4 x5 → A3 x0 x1 x2 x3 x4 x5 → A4 x0 x1 x2 x3 x4 x5 → A5 x0 x1 x2 x3 x4 x5 → G) : G := h.elim fun x0 h => h.elim fun x1 h => h.elim fun x2 h => h.elim fun x3 h => h.elim fun x4 h => h.elim fun x5 h => k x0 x1 x2 x3 x4 x5 h.1 h.2.1 h.2.2.1 h.2.2.2.1 h.2.2.2.2.1 h.2.2.2.2.2
theorem xa6_7 {α0 α1 α2 α3 α4 α5 : Type _} {A0 A1 A2 A3 A4 A5 A6 : α0 → α1 → α2 → α3 → α4 → α5 → Prop} {G : Prop} (h : ∃ x0, ∃ x1, ∃ x2, ∃ x3, ∃ x4, ∃ x5, A0 x0 x1 x2 x3 x4 x5 ∧ A1 x0 x1 x2 x3 x4 x5 ∧ A2 x0 x1 x2 x3 x4 x5 ∧ A3 x0 x1 x2 x3 x4 x5 ∧ A4 x0 x1 x2 x3 x4 x5 ∧ A5 x0 x1 x2 x3 x4 x5 ∧ A6 x0 x1 x2 x3 x4 x5) (k : ∀ x0 x1 x2 x3 x4 x5, A0 x0 x1 x2 x3 x4 x5 → A1 x0 x1 x2 x3 x4 x5 → A2 x0 x1 x2 x3 x4 x5 → A3 x0 x1 x2 x3 x4 x5 → A4 x0 x1 x2 x3 x4 x5 → A5 x0 x1 x2 x3 x4 x5 → A6 x0 x1 x2 x3 x4 x5 → G) : G := h.elim fun x0 h => h.elim fun x1 h => h.elim fun x2 h => h.elim fun x3 h => h.elim fun x4 h => h.elim fun x5 h => k x0 x1 x2 x3 x4 x5 h.1 h.2.1 h.2.2.1 h.2.2.2.1 h.2.2.2.2.1 h.2.2.2.2.2.1 h.2.2.2.2.2.2
end Mine
end
section
namespace Mine
theorem xi0_2 {A0 A1 : Prop}  (h0 : A0) (h1 : A1) : A0 ∧ A1 := ⟨h0, h1⟩
theorem xi0_3 {A0 A1 A2 : Prop}  (h0 : A0) (h1 : A1) (h2 : A2) : A0 ∧ A1 ∧ A2 := ⟨h0, h1, h2⟩
theorem xi0_4 {A0 A1 A2 A3 : Prop}  (h0 : A0) (h1 : A1) (h2 : A2) (h3 : A3) : A0 ∧ A1 ∧ A2 ∧ A3 := ⟨h0, h1, h2, h3⟩
theorem xi0_5 {A0 A1 A2 A3 A4 : Prop}  (h0 : A0) (h1 : A1) (h2 : A2) (h3 : A3) (h4 : A4) : A0 ∧ A1 ∧ A2 ∧ A3 ∧ A4 := ⟨h0, h1, h2, h3, h4⟩
theorem xi1_1 {α0 : Type _} {A0 : α0 → Prop} (x0 : α0) (h0 : A0 x0) : ∃ x0, A0 x0 := ⟨x0, h0⟩
theorem xi1_2 {α0 : Type _} {A0 A1 : α0 → Prop} (x0 : α0) (h0 : A0 x0) (h1 : A1 x0) : ∃ x0, A0 x0 ∧ A1 x0 := ⟨x0, h0, h1⟩
theorem xi1_3 {α0 : Type _} {A0 A1 A2 : α0 → Prop} (x0 : α0) (h0 : A0 x0) (h1 : A1 x0) (h2 : A2 x0) : ∃ x0, A0 x0 ∧ A1 x0 ∧ A2 x0 := ⟨x0, h0, h1, h2⟩
theorem xi1_5 {α0 : Type _} {A0 A1 A2 A3 A4 : α0 → Prop} (x0 : α0) (h0 : A0 x0) (h1 : A1 x0) (h2 : A2 x0) (h3 : A3 x0) (h4 : A4 x0) : ∃ x0, A0 x0 ∧ A1 x0 ∧ A2 x0 ∧ A3 x0 ∧ A4 x0 := ⟨x0, h0, h1, h2, h3, h4⟩
theorem xi1_6 {α0 : Type _} {A0 A1 A2 A3 A4 A5 : α0 → Prop} (x0 : α0) (h0 : A0 x0) (h1 : A1 x0) (h2 : A2 x0) (h3 : A3 x0) (h4 : A4 x0) (h5 : A5 x0) : ∃ x0, A0 x0 ∧ A1 x0 ∧ A2 x0 ∧ A3 x0 ∧ A4 x0 ∧ A5 x0 := ⟨x0, h0, h1, h2, h3, h4, h5⟩
theorem xi2_1 {α0 α1 : Type _} {A0 : α0 → α1 → Prop} (x0 : α0) (x1 : α1) (h0 : A0 x0 x1) : ∃ x0, ∃ x1, A0 x0 x1 := ⟨x0, x1, h0⟩
theorem xi2_3 {α0 α1 : Type _} {A0 A1 A2 : α0 → α1 → Prop} (x0 : α0) (x1 : α1) (h0 : A0 x0 x1) (h1 : A1 x0 x1) (h2 : A2 x0 x1) : ∃ x0, ∃ x1, A0 x0 x1 ∧ A1 x0 x1 ∧ A2 x0 x1 := ⟨x0, x1, h0, h1, h2⟩
theorem xi2_5 {α0 α1 : Type _} {A0 A1 A2 A3 A4 : α0 → α1 → Prop} (x0 : α0) (x1 : α1) (h0 : A0 x0 x1) (h1 : A1 x0 x1) (h2 : A2 x0 x1) (h3 : A3 x0 x1) (h4 : A4 x0 x1) : ∃ x0, ∃ x1, A0 x0 x1 ∧ A1 x0 x1 ∧ A2 x0 x1 ∧ A3 x0 x1 ∧ A4 x0 x1 := ⟨x0, x1, h0, h1, h2, h3, h4⟩
theorem xi3_2 {α0 α1 α2 : Type _} {A0 A1 : α0 → α1 → α2 → Prop} (x0 : α0) (x1 : α1) (x2 : α2) (h0 : A0 x0 x1 x2) (h1 : A1 x0 x1 x2) : ∃ x0, ∃ x1, ∃ x2, A0 x0 x1 x2 ∧ A1 x0 x1 x2 := ⟨x0, x1, x2, h0, h1⟩
theorem xi3_3 {α0 α1 α2 : Type _} {A0 A1 A2 : α0 → α1 → α2 → Prop} (x0 : α0) (x1 : α1) (x2 : α2) (h0 : A0 x0 x1 x2) (h1 : A1 x0 x1 x2) (h2 : A2 x0 x1 x2) : ∃ x0, ∃ x1, ∃ x2, A0 x0 x1 x2 ∧ A1 x0 x1 x2 ∧ A2 x0 x1 x2 := ⟨x0, x1, x2, h0, h1, h2⟩
theorem xi3_5 {α0 α1 α2 : Type _} {A0 A1 A2 A3 A4 : α0 → α1 → α2 → Prop} (x0 : α0) (x1 : α1) (x2 : α2) (h0 : A0 x0 x1 x2) (h1 : A1 x0 x1 x2) (h2 : A2 x0 x1 x2) (h3 : A3 x0 x1 x2) (h4 : A4 x0 x1 x2) : ∃ x0, ∃ x1, ∃ x2, A0 x0 x1 x2 ∧ A1 x0 x1 x2 ∧ A2 x0 x1 x2 ∧ A3 x0 x1 x2 ∧ A4 x0 x1 x2 := ⟨x0, x1, x2, h0, h1, h2, h3, h4⟩
theorem xi3_6 {α0 α1 α2 : Type _} {A0 A1 A2 A3 A4 A5 : α0 → α1 → α2 → Prop} (x0 : α0) (x1 : α1) (x2 : α2) (h0 : A0 x0 x1 x2) (h1 : A1 x0 x1 x2) (h2 : A2 x0 x1 x2) (h3 : A3 x0 x1 x2) (h4 : A4 x0 x1 x2) (h5 : A5 x0 x1 x2) : ∃ x0, ∃ x1, ∃ x2, A0 x0 x1 x2 ∧ A1 x0 x1 x2 ∧ A2 x0 x1 x2 ∧ A3 x0 x1 x2 ∧ A4 x0 x1 x2 ∧ A5 x0 x1 x2 := ⟨x0, x1, x2, h0, h1, h2, h3, h4, h5⟩
theorem xi3_10 {α0 α1 α2 : Type _} {A0 A1 A2 A3 A4 A5 A6 A7 A8 A9 : α0 → α1 → α2 → Prop} (x0 : α0) (x1 : α1) (x2 : α2) (h0 : A0 x0 x1 x2) (h1 : A1 x0 x1 x2) (h2 : A2 x0 x1 x2) (h3 : A3 x0 x1 x2) (h4 : A4 x0 x1 x2) (h5 : A5 x0 x1 x2) (h6 : A6 x0 x1 x2) (h7 : A7 x0 x1 x2) (h8 : A8 x0 x1 x2) (h9 : A9 x0 x1 x2) : ∃ x0, ∃ x1, ∃ x2, A0 x0 x1 x2 ∧ A1 x0 x1 x2 ∧ A2 x0 x1 x2 ∧ A3 x0 x1 x2 ∧ A4 x0 x1 x2 ∧ A5 x0 x1 x2 ∧ A6 x0 x1 x2 ∧ A7 x0 x1 x2 ∧ A8 x0 x1 x2 ∧ A9 x0 x1 x2 := ⟨x0, x1, x2, h0, h1, h2, h3, h4, h5, h6, h7, h8, h9⟩
theorem xi4_5 {α0 α1 α2 α3 : Type _} {A0 A1 A2 A3 A4 : α0 → α1 → α2 → α3 → Prop} (x0 : α0) (x1 : α1) (x2 : α2) (x3 : α3) (h0 : A0 x0 x1 x2 x3) (h1 : A1 x0 x1 x2 x3) (h2 : A2 x0 x1 x2 x3) (h3 : A3 x0 x1 x2 x3) (h4 : A4 x0 x1 x2 x3) : ∃ x0, ∃ x1, ∃ x2, ∃ x3, A0 x0 x1 x2 x3 ∧ A1 x0 x1 x2 x3 ∧ A2 x0 x1 x2 x3 ∧ A3 x0 x1 x2 x3 ∧ A4 x0 x1 x2 x3 := ⟨x0, x1, x2, x3, h0, h1, h2, h3, h4⟩
theorem xi5_4 {α0 α1 α2 α3 α4 : Type _} {A0 A1 A2 A3 : α0 → α1 → α2 → α3 → α4 → Prop} (x0 : α0) (x1 : α1) (x2 : α2) (x3 : α3) (x4 : α4) (h0 : A0 x0 x1 x2 x3 x4) (h1 : A1 x0 x1 x2 x3 x4) (h2 : A2 x0 x1 x2 x3 x4) (h3 : A3 x0 x1 x2 x3 x4) : ∃ x0, ∃ x1, ∃ x2, ∃ x3, ∃ x4, A0 x0 x1 x2 x3 x4 ∧ A1 x0 x1 x2 x3 x4 ∧ A2 x0 x1 x2 x3 x4 ∧ A3 x0 x1 x2 x3 x4 := ⟨x0, x1, x2, x3, x4, h0, h1, h2, h3⟩
theorem xi6_3 {α0 α1 α2 α3 α4 α5 : Type _} {A0 A1 A2 : α0 → α1 → α2 → α3 → α4 → α5 → Prop} (x0 : α0) (x1 : α1) (x2 : α2) (x3 : α3) (x4 : α4) (x5 : α5) (h0 : A0 x0 x1 x2 x3 x4 x5) (h1 : A1 x0 x1 x2 x3 x4 x5) (h2 : A2 x0 x1 x2 x3 x4 x5) : ∃ x0, ∃ x1, ∃ x2, ∃ x3, ∃ x4, ∃ x5, A0 x0 x1 x2 x3 x4 x5 ∧ A1 x0 x1 x2 x3 x4 x5 ∧ A2 x0 x1 x2 x3 x4 x5 := ⟨x0, x1, x2, x3, x4, x5, h0, h1, h2⟩
theorem xi6_4 {α0 α1 α2 α3 α4 α5 : Type _} {A0 A1 A2 A3 : α0 → α1 → α2 → α3 → α4 → α5 → Prop} (x0 : α0) (x1 : α1) (x2 : α2) (x3 : α3) (x4 : α4) (x5 : α5) (h0 : A0 x0 x1 x2 x3 x4 x5) (h1 : A1 x0 x1 x2 x3 x4 x5) (h2 : A2 x0 x1 x2 x3 x4 x5) (h3 : A3 x0 x1 x2 x3 x4 x5) : ∃ x0, ∃ x1, ∃ x2, ∃ x3, ∃ x4, ∃ x5, A0 x0 x1 x2 x3 x4 x5 ∧ A1 x0 x1 x2 x3 x4 x5 ∧ A2 x0 x1 x2 x3 x4 x5 ∧ A3 x0 x1 x2 x3 x4 x5 := ⟨x0, x1, x2, x3, x4, x5, h0, h1, h2, h3⟩
theorem xi6_6 {α0 α1 α2 α3 α4 α5 : Type _} {A0 A1 A2 A3 A4 A5 : α0 → α1 → α2 → α3 → α4 → α5 → Prop} (x0 : α0) (x1 : α1) (x2 : α2) (x3 : α3) (x4 : α4) (x5 : α5) (h0 : A0 x0 x1 x2 x3 x4 x5) (h1 : A1 x0 x1 x2 x3 x4 x5) (h2 : A2 x0 x1 x2 x3 x4 x5) (h3 : A3 x0 x1 x2 x3 x4 x5) (h4 : A4 x0 x1 x2 x3 x4 x5) (h5 : A5 x0 x1 x2 x3 x4 x5) : ∃ x0, ∃ x1, ∃ x2, ∃ x3, ∃ x4, ∃ x5, A0 x0 x1 x2 x3 x4 x5 ∧ A1 x0 x1 x2 x3 x4 x5 ∧ A2 x0 x1 x2 x3 x4 x5 ∧ A3 x0 x1 x2 x3 x4 x5 ∧ A4 x0 x1 x2 x3 x4 x5 ∧ A5 x0 x1 x2 x3 x4 x5 := ⟨x0, x1, x2, x3, x4, x5, h0, h1, h2, h3, h4, h5⟩
end Mine
end
section
open PySem PySem.W PySem.Calls PyProof.Rows
namespace Mine
noncomputable abbrev KH (P : Params) : Frag := hd.heap_1 P

noncomputable abbrev tabs : List (Addr × Addr) := [(97, 93), (174, 170), (181, 177), (188, 184), (195, 191)]
noncomputable abbrev tabP : List Addr := [93, 170, 177, 184, 191]

structure Base (P : Params) (mg mb : Str → Option Value) (gB : Heap) : Prop where
  X : (KH P).In gB
  g : gB.Ns mainGlobals mg
  b : gB.Ns builtinsNs mb
  nl : gB.NoLimit
  bu : ∀ x : Str, x ≠ "__name__" → mb x = bootBuiltins x
  C : ∀ q ∈ tabs, CodeHd gB q.1 q.2
  hid : ∀ q ∈ tabP, gB.get? q = none
  bi : ∃ bm ob, mg "__builtins__" = some (.ref bm) ∧ bm ≠ builtinsNs ∧ gB.get? bm = some ob ∧ ob.cls = .type "module" ∧ ob.dict = some builtinsNs ∧ ob.data = .plain

structure Wd (gB h : Heap) : Prop where
  ext : ∀ b o, gB.get? b = some o → h.get? b = some o
  tb : ∀ q ∈ tabP, ∃ ps : Array Value, h.get? q = some (tabObj ps) ∧ TriplesOk ps.toList
  sz : gB.objs.size ≤ h.objs.size
  big : 215 < gB.objs.size

structure Og where
  os : OsState
  g : Array GenState
noncomputable def og (s : Shared) : Og := ⟨s.os, s.gens⟩
noncomputable def OgOk (O : Og) (s : Shared) : Prop := s.os = O.os ∧ ∀ (k : Nat) (x : GenState), O.g[k]? = some x → s.gens[k]? = some x
theorem OgOk.refl (s : Shared) : OgOk (og s) s := ⟨rfl, fun _ _ h => h⟩
theorem OgOk.trans {O : Og} {s s' : Shared} (P : OgOk (og s) s') (I : OgOk O s) : OgOk O s' := ⟨P.1.trans I.1, fun k x h => P.2 k x (I.2 k x h)⟩

structure Pre (gB : Heap) (s : Shared) : Prop where
  wd : Wd gB s.heap
  bare : AllBare s.gens

structure Post (gB : Heap) (ws : List Addr) (s s' : Shared) : Prop where
  wd : Wd gB s'.heap
  kp : ∀ b o, s.heap.get? b = some o → b ∉ ws → b ∉ tabP → s'.heap.get? b = some o
  sz : s.heap.objs.size ≤ s'.heap.objs.size
  bare : AllBare s'.gens
  os : OgOk (og s) s'

structure FIn (gB : Heap) (O : Og) (L : Addr) (m : Str → Option Value) (S : Addr → Obj → Prop) (tr : List (Addr × Obj)) (s : Shared) : Prop where
  wd : Wd gB s.heap
  ns : s.heap.Ns L m
  lL : gB.objs.size ≤ L
  st : ∀ a o, S a o → s.heap.get? a = some o ∧ a ≠ L ∧ a ∉ tabP ∧ a ∉ tr.map (·.1)
  tk : ∀ p ∈ tr, s.heap.get? p.1 = some p.2 ∧ p.1 ≠ L ∧ gB.objs.size ≤ p.1
  nd : (tr.map (·.1)).Nodup
  bare : AllBare s.gens
  os : OgOk O s

structure Room (A : Around) (d u : Nat) : Prop where
  hh : A.handled = none
  dp : A.depth + d < recursionLimit
  un : A.units + u < cLine
theorem Room.in1 {A : Around} {d u : Nat} (R : Room A d (u + 1)) : Room A.in1 d u := ⟨R.hh, R.dp, by have := R.un; show A.units + 1 + u < cLine; omega⟩
theorem Room.deeper {A : Around} {d u : Nat} (R : Room A (d + 1) (u + 3)) (env : Env) : Room (A.deeper env) d u :=
  ⟨R.hh, by have := R.dp; show A.depth + 1 + d < recursionLimit; omega, by have := R.un; show A.units + 3 + u < cLine; omega⟩
theorem Room.mono {A : Around} {d u d' u' : Nat} (R : Room A d u) (hd : d' ≤ d := by omega) (hu : u' ≤ u := by omega) : Room A d' u' :=
  ⟨R.hh, by have := R.dp; omega, by have := R.un; omega⟩
theorem Room.depth {A : Around} {d u : Nat} (R : Room A d u) : A.depth < recursionLimit := by have := R.dp; exact oV ‹_›
theorem Room.units {A : Around} {d u : Nat} (R : Room A d u) : A.units < cLine := by have := R.un; exact oV ‹_›
theorem Room.units1 {A : Around} {d u : Nat} (R : Room A d (u + 1)) : A.units + 1 < cLine := by have := R.un; exact oU ‹_› (by exact rfl)

theorem tabP_lt {a : Nat} (h : a ∈ tabP) : a < 192 := by
  have h' : a = 93 ∨ a = 170 ∨ a = 177 ∨ a = 184 ∨ a = 191 := by simpa [tabP] using h
  omega

section
variable {gB : Heap} {O : Og} {L : Addr} {m m' : Str → Option Value} {S : Addr → Obj → Prop} {tr : List (Addr × Obj)} {s s' : Shared}

theorem Wd.notTab {h : Heap} (W : Wd gB h) {a : Nat} (h1 : gB.objs.size ≤ a) : a ∉ tabP := fun e => by
  have := tabP_lt e; have := W.big; omega
theorem Wd.notMod {h : Heap} (W : Wd gB h) {a : Nat} (h1 : gB.objs.size ≤ a) : (a == sysModules) = false := by
  have := W.big
  exact beq_eq_false_iff_ne.mpr (by show a ≠ 1; omega)
theorem Wd.same {h h' : Heap} (W : Wd gB h) {d : Addr} (hd : gB.objs.size ≤ d) (hs : Heap.SameBut d h h') : Wd gB h' where
  ext := fun b o e => (hs.2 b (Nat.ne_of_lt (Nat.lt_of_lt_of_le (Heap.lt_size e) hd))).trans (W.ext b o e)
  tb := fun q hq => let ⟨ps, a, b⟩ := W.tb q hq; ⟨ps, (hs.2 q fun e => W.notTab hd (e ▸ hq)).trans a, b⟩
  sz := hs.1 ▸ W.sz
  big := W.big
theorem Wd.keeps {h h' : Heap} (W : Wd gB h) (hk : ∀ b o, h.get? b = some o → h'.get? b = some o) (hz : gB.objs.size ≤ h'.objs.size) : Wd gB h' where
  ext := fun b o e => hk b o (W.ext b o e)
  tb := fun q hq => let ⟨ps, a, b⟩ := W.tb q hq; ⟨ps, hk _ _ a, b⟩
  sz := hz
  big := W.big
theorem Wd.extBut {h h' : Heap} (W : Wd gB h) {d : Addr} (hd : gB.objs.size ≤ d) (hs : Heap.ExtBut d h h') (hz : gB.objs.size ≤ h'.objs.size) : Wd gB h' where
  ext := fun b o e => hs b o (Nat.ne_of_lt (Nat.lt_of_lt_of_le (Heap.lt_size e) hd)) (W.ext b o e)
  tb := fun q hq => let ⟨ps, a, b⟩ := W.tb q hq; ⟨ps, hs q _ (fun e => W.notTab hd (e ▸ hq)) a, b⟩
  sz := hz
  big := W.big
theorem Wd.table {h h' : Heap} (W : Wd gB h) {q : Addr} {ps : Array Value} (hid : ∀ q ∈ tabP, gB.get? q = none) (hq : q ∈ tabP) (hx : Heap.ExtBut q h h') (ht : h'.get? q = some (tabObj ps)) (hok : TriplesOk ps.toList) (hz : gB.objs.size ≤ h'.objs.size) : Wd gB h' where
  ext := fun b o e => hx b o (fun e' => by rw [e', hid q hq] at e; cases e) (W.ext b o e)
  tb := fun q' hq' => by
    by_cases e : q' = q
    · refine xi1_2 ps (e ▸ ht) hok
    · refine xa1_2 (W.tb q' hq') fun ps' a b => ?_
      refine xi1_2 ps' (hx _ _ e a) b
  sz := hz
  big := W.big
theorem Base.lim {P mg mb} (B : Base P mg mb gB) {h : Heap} (W : Wd gB h) : h.NoLimit := B.nl.keeps W.ext
theorem Base.K {P mg mb} (B : Base P mg mb gB) {h : Heap} (W : Wd gB h) : (KH P).In h := B.X.keeps W.ext

theorem FIn.pre (I : FIn gB O L m S tr s) : Pre gB s := ⟨I.wd, I.bare⟩
theorem FIn.fr (I : FIn gB O L m S tr s) : Fr gB L s.heap m := ⟨I.ns, I.wd.ext, I.lL⟩
theorem FIn.get (I : FIn gB O L m S tr s) {a : Addr} {o : Obj} (h : S a o) : s.heap.get? a = some o := (I.st a o h).1
theorem FIn.at (I : FIn gB O L m S tr s) {i : Nat} {a : Addr} {o : Obj} (h : tr[i]? = some (a, o)) : s.heap.get? a = some o := (I.tk _ (List.mem_of_getElem? h)).1
theorem FIn.new (I : FIn gB O L m S tr s) {i : Nat} {a : Addr} {o : Obj} (h : tr[i]? = some (a, o)) : gB.objs.size ≤ a := (I.tk _ (List.mem_of_getElem? h)).2.2
theorem FIn.neL (I : FIn gB O L m S tr s) {i : Nat} {a : Addr} {o : Obj} (h : tr[i]? = some (a, o)) : a ≠ L := (I.tk _ (List.mem_of_getElem? h)).2.1

theorem FIn.store (I : FIn gB O L m S tr s) {h' : Heap} {tk : Nat} (hn : h'.Ns L m') (hs : Heap.SameBut L s.heap h') : FIn gB O L m' S tr { s with heap := h', toks := tk } where
  wd := I.wd.same I.lL hs
  ns := hn
  lL := I.lL
  st := fun a o h => let ⟨a1, a2, a3⟩ := I.st a o h; ⟨(hs.2 a a2).trans a1, a2, a3⟩
  tk := fun p hp => let ⟨a1, a2, a3⟩ := I.tk p hp; ⟨(hs.2 _ a2).trans a1, a2, a3⟩
  nd := I.nd
  bare := I.bare
  os := I.os

theorem FIn.toks (I : FIn gB O L m S tr s) (tk : Nat) : FIn gB O L m S tr { s with toks := tk } := ⟨I.wd, I.ns, I.lL, I.st, I.tk, I.nd, I.bare, I.os⟩
theorem FIn.keeps (I : FIn gB O L m S tr s) {h' : Heap} {tk : Nat} (hk : ∀ b o, s.heap.get? b = some o → h'.get? b = some o) : FIn gB O L m S tr { s with heap := h', toks := tk } where
  wd := I.wd.keeps hk (Nat.le_of_lt (Nat.lt_of_le_of_lt I.lL (I.ns.keeps hk).lt))
  ns := I.ns.keeps hk
  lL := I.lL
  st := fun a o h => let ⟨a1, r⟩ := I.st a o h; ⟨hk _ _ a1, r⟩
  tk := fun p hp => let ⟨a1, r⟩ := I.tk p hp; ⟨hk _ _ a1, r⟩
  nd := I.nd
  bare := I.bare
  os := I.os

theorem FIn.table (I : FIn gB O L m S tr s) {h' : Heap} {tk : Nat} {q : Addr} {ps : Array Value} (hid : ∀ q ∈ tabP, gB.get? q = none) (hq : q ∈ tabP) (hx : Heap.ExtBut q s.heap h') (ht : h'.get? q = some (tabObj ps)) (hok : TriplesOk ps.toList) : FIn gB O L m S tr { s with heap := h', toks := tk } where
  wd := I.wd.table hid hq hx ht hok (Nat.le_of_lt (Nat.lt_of_le_of_lt I.lL (I.ns.extBut hx (fun e => I.wd.notTab I.lL (e ▸ hq))).lt))
  ns := I.ns.extBut hx (fun e => I.wd.notTab I.lL (e ▸ hq))
  lL := I.lL
  st := fun a o h => let ⟨a1, a2, a3, a4⟩ := I.st a o h; ⟨hx _ _ (fun e => a3 (e ▸ hq)) a1, a2, a3, a4⟩
  tk := fun p hp => let ⟨a1, a2, a3⟩ := I.tk p hp; ⟨hx _ _ (fun e => I.wd.notTab a3 (e ▸ hq)) a1, a2, a3⟩
  nd := I.nd
  bare := I.bare
  os := I.os

theorem FIn.L_lt (I : FIn gB O L m S tr s) : L < s.heap.objs.size := I.ns.lt
theorem FIn.track (I : FIn gB O L m S tr s) {a : Addr} {o : Obj} (ha : s.heap.get? a = some o) (h1 : a ≠ L) (h2 : gB.objs.size ≤ a) (h3 : ∀ x, ¬ S a x) (h4 : a ∉ tr.map (·.1)) : FIn gB O L m S ((a, o) :: tr) s where
  wd := I.wd
  ns := I.ns
  lL := I.lL
  st := fun b x h => let ⟨a1, a2, a3, a4⟩ := I.st b x h; ⟨a1, a2, a3, fun e => by
    rcases List.mem_cons.mp e with e | e
    · have e' : b = a := e
      subst e'; exact h3 x h
    · exact a4 e⟩
  tk := fun p hp => by
    rcases List.mem_cons.mp hp with rfl | hp
    · refine xi0_3 ha h1 h2
    · exact I.tk p hp
  nd := List.nodup_cons.mpr ⟨h4, I.nd⟩
  bare := I.bare
  os := I.os
theorem FIn.push (I : FIn gB O L m S tr s) (o : Obj) (tk : Nat) (hf : o.isFreed = false := by rfl) : FIn gB O L m S ((s.heap.objs.size, o) :: tr) { s with heap := s.heap.push o, toks := tk } := by
  have I' : FIn gB O L m S tr { s with heap := s.heap.push o, toks := tk } := I.keeps fun b x e => Heap.get?_push_of_some _ e
  refine I'.track (Heap.get?_push_size _ hf) (Nat.ne_of_gt I.L_lt) I.wd.sz (fun x hx => ?_) fun e => ?_
  · exact absurd (Heap.lt_size (I.st _ _ hx).1) (Nat.lt_irrefl _)
  · refine xa1_2 (List.mem_map.mp e) fun p hp e => ?_
    have := Heap.lt_size (I.tk p hp).1
    rw [e] at this
    exact absurd this (Nat.lt_irrefl _)
theorem FIn.settle (I : FIn gB O L m S ((a, o) :: tr) s) : FIn gB O L m (fun b x => S b x ∨ (b = a ∧ x = o)) tr s where
  wd := I.wd
  ns := I.ns
  lL := I.lL
  st := fun b x h => by
    rcases h with h | ⟨rfl, rfl⟩
    · let ⟨a1, a2, a3, a4⟩ := I.st b x h
      refine xi0_4 a1 a2 a3 (fun e => a4 (List.mem_cons_of_mem _ e))
    · have z := I.tk (b, x) (.head _)
      refine xi0_4 z.1 z.2.1 (I.wd.notTab z.2.2) ((List.nodup_cons.mp I.nd).1)
  tk := fun p hp => I.tk p (List.mem_cons_of_mem _ hp)
  nd := (List.nodup_cons.mp I.nd).2
  bare := I.bare
  os := I.os

theorem FIn.waste (I : FIn gB O L m S ((d, o) :: tr) s) {h' : Heap} {tk : Nat} (hs : Heap.ExtBut d s.heap h') : FIn gB O L m S tr { s with heap := h', toks := tk } := by
  have hd := I.tk (d, o) (.head _)
  have hn : h'.Ns L m := I.ns.extBut hs (Ne.symm hd.2.1)
  refine ⟨I.wd.extBut hd.2.2 hs (Nat.le_of_lt (Nat.lt_of_le_of_lt I.lL hn.lt)), hn, I.lL, fun a x h => ?_, fun p hp => ?_, (List.nodup_cons.mp I.nd).2, I.bare, I.os⟩
  · refine xa0_4 (I.st a x h) fun a1 a2 a3 a4 => ?_
    refine xi0_4 (hs _ _ (fun e => a4 (by rw [e]; exact .head _)) a1) a2 a3 (fun e => a4 (List.mem_cons_of_mem _ e))
  · refine xa0_3 (I.tk p (List.mem_cons_of_mem _ hp)) fun a1 a2 a3 => ?_
    refine xi0_3 (hs _ _ (fun e => (List.nodup_cons.mp I.nd).1 (by have z := List.mem_map_of_mem (f := (·.1)) hp; rw [e] at z; exact z)) a1) a2 a3

theorem nodup_inj : ∀ {l : List (Addr × Obj)}, (l.map (·.1)).Nodup → ∀ {i j : Nat} {p q : Addr × Obj}, l[i]? = some p → l[j]? = some q → p.1 = q.1 → i = j := by
  intro l hn i j p q hi hj e
  have hi' : (l.map (·.1))[i]? = some p.1 := by rw [List.getElem?_map, hi]; rfl
  have hj' : (l.map (·.1))[j]? = some p.1 := by rw [List.getElem?_map, hj, e]; rfl
  exact (List.getElem?_inj (List.getElem?_eq_some_iff.mp hi').1 hn).mp (hi'.trans hj'.symm)

theorem map_fst_set {l : List (Addr × Obj)} {i : Nat} {d : Addr} {o o' : Obj} (h : l[i]? = some (d, o)) : (l.set i (d, o')).map (·.1) = l.map (·.1) := by
  rw [List.map_set]
  have : (l.map (·.1))[i]? = some d := by rw [List.getElem?_map, h]; rfl
  exact PySem.W.X.set_same this

theorem FIn.turn (I : FIn gB O L m S tr s) {i : Nat} {d : Addr} {o o' : Obj} {h' : Heap} {tk : Nat} (hi : tr[i]? = some (d, o)) (hs : Heap.SameBut d s.heap h') (ho : h'.get? d = some o') :
    FIn gB O L m S (tr.set i (d, o')) { s with heap := h', toks := tk } := by
  have hd := I.new hi
  have hL := I.neL hi
  have hm := map_fst_set (o' := o') hi
  refine ⟨I.wd.same hd hs, I.ns.sameBut hs (Ne.symm hL), I.lL, fun a x h => ?_, fun p hp => ?_, by rw [hm]; exact I.nd, I.bare, I.os⟩
  · refine xa0_4 (I.st a x h) fun a1 a2 a3 a4 => ?_
    refine ⟨(hs.2 a fun e => a4 ?_).trans a1, a2, a3, by rw [hm]; exact a4⟩
    rw [e]; exact List.mem_map.mpr ⟨_, List.mem_of_getElem? hi, rfl⟩
  · refine xa1_1 (List.mem_iff_getElem?.mp hp) fun j hj => ?_
    by_cases hij : i = j
    · subst hij
      rw [List.getElem?_set] at hj
      obtain ⟨hl, _⟩ := List.getElem?_eq_some_iff.mp hi
      rw [if_pos rfl, if_pos hl] at hj
      cases hj
      refine xi0_3 ho hL hd
    · rw [List.getElem?_set, if_neg hij] at hj
      refine xa0_3 (I.tk p (List.mem_of_getElem? hj)) fun a1 a2 a3 => ?_
      refine xi0_3 ((hs.2 _ fun e => hij (nodup_inj I.nd hi hj e.symm)).trans a1) a2 a3

noncomputable def Froz (L : Addr) (tr : List (Addr × Obj)) (s : Shared) (a : Addr) (o : Obj) : Prop := s.heap.get? a = some o ∧ a ≠ L ∧ a ∉ tabP ∧ a ∉ tr.map (·.1)

theorem Froz.of {L : Addr} {tr : List (Addr × Obj)} {s : Shared} {a : Addr} {o : Obj} (hL : L = s.heap.objs.size) (h1 : s.heap.get? a = some o) (h2 : a ∉ tabP) (h3 : a ∉ tr.map (·.1)) : Froz L tr s a o :=
  ⟨h1, hL ▸ Nat.ne_of_lt (Heap.lt_size h1), h2, h3⟩
theorem FIn.post (I : FIn gB O L m S tr s) {ws : List Addr} (P : Post gB ws s s') (hws : ∀ a ∈ ws, a ∈ tr.map (·.1)) {tr' : List (Addr × Obj)}
    (h1 : ∀ p ∈ tr', s'.heap.get? p.1 = some p.2 ∧ p.1 ≠ L ∧ gB.objs.size ≤ p.1) (hn : (tr'.map (·.1)).Nodup) :
    FIn gB O L m (Froz L tr' s') tr' s' ∧ ∀ a o, S a o → a ∉ tr'.map (·.1) → Froz L tr' s' a o := by
  have keep : ∀ a o, S a o → s'.heap.get? a = some o := fun a o h => by
    refine xa0_4 (I.st a o h) fun a1 a2 a3 a4 => ?_
    exact P.kp a o a1 (fun e => a4 (hws a e)) a3
  refine xi0_2 ⟨P.wd, ?_, I.lL, fun a o h => h, h1, hn, P.bare, P.os.trans I.os⟩ (fun a o h h2 => ?_)
  · refine xa3_2 (I.ns) fun o es ep ho r => ?_
    refine xi3_2 o es ep (P.kp L o ho (fun e => ?_) (I.wd.notTab I.lL)) r
    refine xa1_2 (List.mem_map.mp (hws L e)) fun p hp e => ?_
    exact (I.tk p hp).2.1 e
  · refine xa0_4 (I.st a o h) fun a1 a2 a3 a4 => ?_
    refine xi0_4 (keep a o h) a2 a3 h2

theorem FIn.back (I : FIn gB O L m S tr s) {ws : List Addr} (P : Post gB ws s s') (hws : ∀ a ∈ ws, a ∈ tr.map (·.1)) {tr' : List (Addr × Obj)}
    (hm : tr'.map (·.1) = tr.map (·.1)) (h1 : ∀ p ∈ tr', s'.heap.get? p.1 = some p.2) : FIn gB O L m S tr' s' := by
  have hp : ∀ p ∈ tr', ∃ q ∈ tr, q.1 = p.1 := fun p hp => by
    have : p.1 ∈ tr.map (·.1) := hm ▸ List.mem_map_of_mem hp
    refine xa1_2 (List.mem_map.mp this) fun q hq e => ?_
    refine xi1_2 q hq e
  have I' := (I.post P hws (tr' := tr') (fun p h => let ⟨q, hq, e⟩ := hp p h; ⟨h1 p h, e ▸ (I.tk q hq).2.1, e ▸ (I.tk q hq).2.2⟩) (hm ▸ I.nd))
  exact ⟨I'.1.wd, I'.1.ns, I'.1.lL, fun a o h => I'.2 a o h (hm ▸ (I.st a o h).2.2.2), I'.1.tk, I'.1.nd, I'.1.bare, I'.1.os⟩

theorem mem_sets : ∀ {sets : List (Nat × Addr × Obj)} {tr : List (Addr × Obj)}, (tr.map (·.1)).Nodup → (∀ x ∈ sets, ∃ o, tr[x.1]? = some (x.2.1, o)) →
    ((sets.foldl (fun t x => t.set x.1 x.2) tr).map (·.1) = tr.map (·.1)) ∧ ∀ p ∈ sets.foldl (fun t x => t.set x.1 x.2) tr, (p ∈ tr ∧ ∀ x ∈ sets, p.1 ≠ x.2.1) ∨ ∃ x ∈ sets, p = x.2
  | [], tr, _, _ => ⟨rfl, fun p hp => .inl ⟨hp, fun _ h => nomatch h⟩⟩
  | y :: sets, tr, hn, hx => by
    refine xa1_1 (hx y (.head _)) fun oy hy => ?_
    have hm : (tr.set y.1 y.2).map (·.1) = tr.map (·.1) := map_fst_set (o' := y.2.2) hy
    refine xa0_2 (mem_sets (sets := sets) (tr := tr.set y.1 y.2) (hm ▸ hn) (fun x h => by
      obtain ⟨o, ho⟩ := hx x (.tail _ h)
      by_cases e : y.1 = x.1
      · rw [e] at hy
        have : y.2.1 = x.2.1 := by rw [hy] at ho; injection ho with ho; injection ho
        refine xi1_1 y.2.2 ?_
        rw [List.getElem?_set, if_pos e, if_pos (by rw [e]; exact (List.getElem?_eq_some_iff.mp hy).1), ← this]
      · exact ⟨o, by rw [List.getElem?_set, if_neg e]; exact ho⟩)) fun i1 i2 => ?_
    refine xi0_2 (i1.trans hm) (fun p hp => ?_)
    rcases i2 p hp with ⟨h1, h2⟩ | ⟨x, h1, h2⟩
    · refine xa1_1 (List.mem_iff_getElem?.mp h1) fun j hj => ?_
      by_cases e : y.1 = j
      · rw [List.getElem?_set, if_pos e, if_pos (List.getElem?_eq_some_iff.mp hy).1] at hj
        cases hj
        refine .inr ?_
        refine xi1_2 y (.head _) rfl
      · rw [List.getElem?_set, if_neg e] at hj
        refine .inl ?_
        refine xi0_2 (List.mem_of_getElem? hj) (fun x hx => ?_)
        cases hx with
        | head => exact fun q => e (nodup_inj hn hy hj q.symm)
        | tail _ hx => exact h2 x hx
    · refine .inr ?_
      refine xi1_2 x (.tail _ h1) h2
theorem FIn.backs (I : FIn gB O L m S tr s) (sets : List (Nat × Addr × Obj)) (P : Post gB (sets.map (·.2.1)) s s') (hx : ∀ x ∈ sets, (∃ o, tr[x.1]? = some (x.2.1, o)) ∧ s'.heap.get? x.2.1 = some x.2.2) :
    FIn gB O L m S (sets.foldl (fun t x => t.set x.1 x.2) tr) s' := by
  refine xa0_2 (mem_sets I.nd fun x h => (hx x h).1) fun i1 i2 => ?_
  refine I.back P (fun a ha => ?_) i1 fun p hp => ?_
  · refine xa1_2 (List.mem_map.mp ha) fun x hx' he1 => ?_
    obtain rfl := he1
    refine xa0_2 (hx x hx') fun hp2 _ => ?_
    refine xa1_1 (hp2) fun o ho => ?_
    refine List.mem_map.mpr ?_
    refine xi1_2 _ (List.mem_of_getElem? ho) rfl
  · rcases i2 p hp with ⟨h1, h2⟩ | ⟨x, h1, rfl⟩
    · exact P.kp _ _ (I.tk p h1).1 (fun q => let ⟨x, hx', e⟩ := List.mem_map.mp q; h2 x hx' e.symm) (I.wd.notTab (I.tk p h1).2.2)
    · exact (hx x h1).2
theorem FIn.back1 (I : FIn gB O L m S tr s) {a : Addr} {o o' : Obj} {i : Nat} (P : Post gB [a] s s') (hi : tr[i]? = some (a, o)) (ha : s'.heap.get? a = some o') : FIn gB O L m S (tr.set i (a, o')) s' :=
  I.backs [(i, a, o')] P fun x hx => by
    simp only [List.mem_cons, List.not_mem_nil, or_false] at hx
    subst hx; exact ⟨⟨o, hi⟩, ha⟩
theorem FIn.back2 (I : FIn gB O L m S tr s) {a b : Addr} {o o' p p' : Obj} {i j : Nat} (P : Post gB [a, b] s s') (hi : tr[i]? = some (a, o)) (hj : tr[j]? = some (b, p)) (ha : s'.heap.get? a = some o') (hb : s'.heap.get? b = some p') :
    FIn gB O L m S ((tr.set i (a, o')).set j (b, p')) s' :=
  I.backs [(i, a, o'), (j, b, p')] P fun x hx => by
    simp only [List.mem_cons, List.not_mem_nil, or_false] at hx
    rcases hx with rfl | rfl
    · refine xi0_2 ⟨o, hi⟩ ha
    · refine xi0_2 ⟨p, hj⟩ hb
theorem FIn.back3 (I : FIn gB O L m S tr s) {a b c : Addr} {o o' p p' q q' : Obj} {i j k : Nat} (P : Post gB [a, b, c] s s') (hi : tr[i]? = some (a, o)) (hj : tr[j]? = some (b, p)) (hk : tr[k]? = some (c, q)) (ha : s'.heap.get? a = some o') (hb : s'.heap.get? b = some p') (hc : s'.heap.get? c = some q') :
    FIn gB O L m S (((tr.set i (a, o')).set j (b, p')).set k (c, q')) s' :=
  I.backs [(i, a, o'), (j, b, p'), (k, c, q')] P fun x hx => by
    simp only [List.mem_cons, List.not_mem_nil, or_false] at hx
    rcases hx with rfl | rfl | rfl
    · refine xi0_2 ⟨o, hi⟩ ha
    · refine xi0_2 ⟨p, hj⟩ hb
    · refine xi0_2 ⟨q, hk⟩ hc

theorem Post.refl (h : Pre gB s) : Post gB [] s s := ⟨h.wd, fun _ _ e _ _ => e, Nat.le_refl _, h.bare, OgOk.refl _⟩
theorem Post.trans {ws : List Addr} {s'' : Shared} (P : Post gB ws s s') (Q : Post gB ws s' s'') : Post gB ws s s'' :=
  ⟨Q.wd, fun b o e h1 h2 => Q.kp b o (P.kp b o e h1 h2) h1 h2, Nat.le_trans P.sz Q.sz, Q.bare, Q.os.trans P.os⟩
theorem Post.mono {ws ws' : List Addr} (P : Post gB ws s s') (h : ∀ a ∈ ws, a ∈ ws') : Post gB ws' s s' :=
  ⟨P.wd, fun b o e h1 h2 => P.kp b o e (fun q => h1 (h b q)) h2, P.sz, P.bare, P.os⟩
theorem Post.pre {ws : List Addr} (P : Post gB ws s s') : Pre gB s' := ⟨P.wd, P.bare⟩

end

section
variable {prog : Program} {w : World} {mg mb : Str → Option Value} {gB : Heap} {A : Around} {E : Value → Shared → Prop} {s : Shared}

theorem call_fn (B : Base w.params mg mb gB) (W : Pre gB s) {f : Addr} {oc : Value} {od : Option Addr} {osl : Array (Option Value)} {fd : FuncData} {body : List Stmt} {args : Args} {binds : List (Str × Value)} {Q : Value → Shared → Prop}
    (foot : List (Addr × Obj)) (hfoot : ∀ p ∈ foot, s.heap.get? p.1 = some p.2 ∧ gB.objs.size ≤ p.1) (hnd : (foot.map (·.1)).Nodup)
    (hk : (KH w.params).lookup f = some ⟨oc, od, .func fd, osl⟩) (hbody : fd.body = .stmts body) (hcd : codeIn (KH w.params) fd.code fd.qualname = true)
    (hroom : A.depth < recursionLimit) (hbind : BindsTo s fd args binds) (hcell : ∀ x ∈ fd.scope.names, x.2 ≠ .cell) (hloc : ∀ x ∈ binds, fd.scope.names.lookup x.1 = some .local)
    (h : ∀ s₁ L, L = s.heap.objs.size → FIn gB (og s) L (fun x => binds.reverse.lookup x) (Froz L foot s) foot s₁ →
      wpAny (model prog w) (A.deeper (callEnv fd L f)) (execs body (callEnv fd L f)) (fun fl s' => (∃ m' S' tr', FIn gB (og s) L m' S' tr' s' ∧ (∀ a o, Froz L foot s a o → S' a o)) ∧
        (Post gB (foot.map (·.1)) s s' → Q (match fl with | .ret v => v | _ => .none) s')) (fun _ _ => False) s₁)
    (hco : fd.scope.isCoroutine = false := by rfl) (hgen : fd.scope.isGenerator = false := by rfl) (hkd : fd.scope.kind = .function := by rfl) :
    codeAny (model prog w) A (.call (.ref f) args) (fun r s' => match r with | .ok (.ret v) => Q v s' | .ok _ => False | .error e => E e s') s := by
  refine codeAny_call_def (fd := fd) (body := body) (binds := binds) hroom (B.K W.wd _ _ hk) rfl (B.lim W.wd) (codeRec_of (B.K W.wd) hcd) hbody hbind hcell hloc (fun h₁ hns hk₁ => ?_) hco hgen hkd
  have hz : s.heap.objs.size ≤ h₁.objs.size := Nat.le_of_lt hns.lt
  have I : FIn gB (og s) s.heap.objs.size (fun x => binds.reverse.lookup x) (Froz s.heap.objs.size foot s) foot { s with heap := h₁, toks := s.toks + binds.length } :=
    ⟨W.wd.keeps hk₁ (Nat.le_trans W.wd.sz hz), hns, W.wd.sz, fun a o h => ⟨hk₁ _ _ h.1, h.2⟩, fun p hp => ⟨hk₁ _ _ (hfoot p hp).1, Nat.ne_of_lt (Heap.lt_size (hfoot p hp).1), (hfoot p hp).2⟩, hnd, W.bare, OgOk.refl _⟩
  refine wpAny_mono (h _ _ rfl I) (fun fl s' hq => ?_) fun _ _ x => x.elim
  refine xa0_2 (hq) fun hp3 hq => ?_
  refine xa3_2 (hp3) fun m' S' tr' I' hS => ?_
  refine hq ⟨I'.wd, fun b o e h1 h2 => (I'.st b o (hS b o ⟨e, Nat.ne_of_lt (Heap.lt_size e), h2, h1⟩)).1, Nat.le_of_lt I'.ns.lt, I'.bare, I'.os⟩
end
end Mine
end
section
namespace Mine
section
variable {K β : Type} [DecidableEq K]
noncomputable def get (ps : List (K × β)) (k : K) : Option β := (ps.find? fun x => decide (x.1 = k)).map (·.2)
noncomputable def put (ps : List (K × β)) (k : K) (b : β) : List (K × β) := if (get ps k).isSome then ps.map (fun p => if p.1 = k then (p.1, b) else p) else ps ++ [(k, b)]
end

section
variable {K : Type} [DecidableEq K]
structure HK (K : Type) where
  pl : List (K × K)
  pr : List (K × K)
  ds : List (K × Int)

noncomputable def swapLR (σ : HK K) (l r : K) : HK K := { σ with pl := put σ.pl l r, pr := put σ.pr r l }

noncomputable def dfsRow (adj : List (K × List K)) (rf : Int) (self : K → HK K → Option (Bool × HK K)) (l : K) : List K → HK K → Option (Bool × HK K)
  | [], σ => some (false, { σ with ds := put σ.ds l (-1) })
  | r :: rs, σ => match get σ.pr r with
    | none => (get σ.ds l).bind fun d => if rf = d + 1 then some (true, swapLR σ l r) else dfsRow adj rf self l rs σ
    | some o => (get σ.ds o).bind fun d' => (get σ.ds l).bind fun d =>
      if d' = d + 1 then (self o σ).bind fun x => if x.1 then some (true, swapLR x.2 l r) else dfsRow adj rf self l rs x.2
      else dfsRow adj rf self l rs σ
noncomputable def dfs (adj : List (K × List K)) (rf : Int) : Nat → K → HK K → Option (Bool × HK K)
  | 0, _, _ => none
  | n + 1, l, σ => (get adj l).bind fun rs => dfsRow adj rf (dfs adj rf n) l rs σ

noncomputable def phase (adj : List (K × List K)) (rf : Int) (n : Nat) : List K → HK K → Option (HK K)
  | [], σ => some σ
  | l :: ls, σ => if (get σ.pl l).isSome then phase adj rf n ls σ else (dfs adj rf n l σ).bind fun x => phase adj rf n ls x.2

noncomputable def bfsInit (pl : List (K × K)) : List K → List K → List (K × Int) → List K × List (K × Int)
  | [], q, ds => (q, ds)
  | l :: ls, q, ds => if (get pl l).isSome then bfsInit pl ls q (put ds l (-1)) else bfsInit pl ls (q ++ [l]) (put ds l 0)
noncomputable def bfsRow (pr : List (K × K)) (x : K) : List K → List K → List (K × Int) → Int → Option (List K × List (K × Int) × Int)
  | [], q, ds, rf => some (q, ds, rf)
  | r :: rs, q, ds, rf => match get pr r with
    | none => if rf = -1 then (get ds x).bind fun d => bfsRow pr x rs q ds (d + 1) else bfsRow pr x rs q ds rf
    | some o => (get ds o).bind fun d' => if d' = -1 then (get ds x).bind fun d => bfsRow pr x rs (q ++ [o]) (put ds o (d + 1)) rf else bfsRow pr x rs q ds rf
noncomputable def bfsLoop (adj : List (K × List K)) (pr : List (K × K)) : Nat → List K → List (K × Int) → Int → Option (List (K × Int) × Int)
  | 0, _, _, _ => none
  | _ + 1, [], ds, rf => some (ds, rf)
  | n + 1, x :: q, ds, rf => (get ds x).bind fun d =>
    if d = rf ∧ rf = -1 then bfsLoop adj pr n q ds rf
    else if rf ≤ d ∧ rf ≠ -1 then bfsLoop adj pr n q ds rf
    else (get adj x).bind fun rs => (bfsRow pr x rs q ds rf).bind fun z => bfsLoop adj pr n z.1 z.2.1 z.2.2
noncomputable def bfs (adj : List (K × List K)) (n : Nat) (σ : HK K) : Option (List (K × Int) × Int) :=
  let z := bfsInit σ.pl (adj.map (·.1)) [] σ.ds
  bfsLoop adj σ.pr n z.1 z.2 (-1)

noncomputable def hkLoop (adj : List (K × List K)) (n : Nat) : Nat → HK K → Option (HK K)
  | 0, _ => none
  | k + 1, σ => (bfs adj n σ).bind fun z =>
    if z.2 = -1 then some { σ with ds := z.1 } else (phase adj z.2 n (adj.map (·.1)) { σ with ds := z.1 }).bind fun σ' => hkLoop adj n k σ'
noncomputable def hk (adj : List (K × List K)) (n : Nat) : Option (HK K) :=
  hkLoop adj n n { pl := [], pr := [], ds := (adj.map (·.1)).foldl (fun ds l => put ds l (-1)) [] }
end
end Mine
end
section
open PySem PySem.W PySem.Calls PyProof.Rows
namespace Mine
section
variable {K β : Type} [DecidableEq K]
inductive RepL (R : Value → β → Prop) : List (K × Addr × Value) → List (K × β) → Prop
  | nil : RepL R [] []
  | cons {k : K} {a : Addr} {v : Value} {b : β} {xs ps} : R v b → RepL R xs ps → RepL R ((k, a, v) :: xs) ((k, b) :: ps)

variable {R R' : Value → β → Prop} {xs : List (K × Addr × Value)} {ps : List (K × β)}
theorem RepL.mono (h : RepL R xs ps) (hr : ∀ v b, R v b → R' v b) : RepL R' xs ps := by
  induction h with
  | nil => exact .nil
  | cons h1 _ ih => exact .cons (hr _ _ h1) ih
theorem RepL.get_none (h : RepL R xs ps) (k : K) : (atKey xs k).isSome = (get ps k).isSome := by
  induction h with
  | nil => rfl
  | @cons k' a v b xs ps h1 _ ih =>
    by_cases e : k' = k
    · simp [atKey, get, e]
    · simpa [atKey, get, e] using ih
theorem RepL.get_some (h : RepL R xs ps) {k : K} {b : β} (hg : get ps k = some b) : ∃ p, atKey xs k = some p ∧ R p.2 b := by
  induction h with
  | nil => cases hg
  | @cons k' a v b' xs ps h1 _ ih =>
    by_cases e : k' = k
    · subst e
      have : b' = b := by simpa [get] using hg
      subst this
      exact ⟨(a, v), by simp [atKey], h1⟩
    · have hg' : get ps k = some b := by simpa [get, e] using hg
      refine xa1_2 (ih hg') fun p hp hr => ?_
      exact ⟨p, by simpa [atKey, e] using hp, hr⟩
theorem RepL.keys (h : RepL R xs ps) : xs.map (·.1) = ps.map (·.1) := by
  induction h with
  | nil => rfl
  | cons _ _ ih => simp [ih]
theorem RepL.length (h : RepL R xs ps) : xs.length = ps.length := by
  induction h with
  | nil => rfl
  | cons _ _ ih => simp [ih]
theorem RepL.snoc (h : RepL R xs ps) {k : K} {a : Addr} {v : Value} {b : β} (hr : R v b) : RepL R (xs ++ [(k, a, v)]) (ps ++ [(k, b)]) := by
  induction h with
  | nil => exact .cons hr .nil
  | cons h1 _ ih => exact .cons h1 ih
theorem RepL.map (h : RepL R xs ps) {k : K} {v : Value} {b : β} (hr : R v b) : RepL R (xs.map (putAt k v)) (ps.map fun p => if p.1 = k then (p.1, b) else p) := by
  induction h with
  | nil => exact .nil
  | @cons k' a v' b' xs ps h1 _ ih =>
    by_cases e : k' = k
    · simp only [List.map_cons, putAt, e, if_true]; exact .cons hr ih
    · simp only [List.map_cons, putAt, e, if_false]; exact .cons h1 ih
theorem RepL.put (h : RepL R xs ps) {k : K} {a : Addr} {v : Value} {b : β} (hr : R v b) : RepL R (storedH xs k a v) (put ps k b) := by
  unfold storedH Mine.put
  rw [h.get_none k]
  split
  · exact h.map hr
  · exact h.snoc hr
theorem RepL.at (h : RepL R xs ps) {i : Nat} {k : K} {b : β} (hp : ps[i]? = some (k, b)) : ∃ a v, xs[i]? = some (k, a, v) ∧ R v b := by
  induction h generalizing i with
  | nil => simp at hp
  | @cons k' a v b' xs ps h1 _ ih =>
    cases i with
    | zero => simp only [List.getElem?_cons_zero, Option.some.injEq, Prod.mk.injEq] at hp; obtain ⟨rfl, rfl⟩ := hp; exact ⟨a, v, rfl, h1⟩
    | succ j => simpa using ih (i := j) (by simpa using hp)
end

noncomputable abbrev KT (prog : Program) (w : World) : HeapKind prog w (List Int) := tupleKind (intKind prog w)

noncomputable def TupO (prog : Program) (w : World) (k : List Int) (o : Obj) : Prop := o.cls = .type "tuple" ∧ ∃ items n, o.data = .seq items n ∧ ItemsAre (intKind prog w) k items.toList
noncomputable def TupS (prog : Program) (w : World) (S : Addr → Obj → Prop) (a : Addr) (k : List Int) : Prop := ∃ o, S a o ∧ TupO prog w k o
noncomputable def LstO (items : List Value) (o : Obj) : Prop := o.cls = .type "list" ∧ ∃ n, o.data = .seq items.toArray n
noncomputable def DicO (prog : Program) (w : World) (S : Addr → Obj → Prop) (od : Obj) (xs : List (List Int × Addr × Value)) : Prop :=
  od.ExactDict ∧ ∃ es ep, od.data = .dict es ep ∧ es.toList = xs.map (entryOfKey (KT prog w)) ∧ (∀ x ∈ xs, TupS prog w S x.2.1 x.1) ∧ (xs.map (·.1)).Nodup
noncomputable def DicR {β : Type} (prog : Program) (w : World) (S : Addr → Obj → Prop) (R : Value → β → Prop) (od : Obj) (ps : List (List Int × β)) : Prop := ∃ xs, DicO prog w S od xs ∧ RepL R xs ps
structure FldO (es : List DictEntry) (f : List (Str × Value)) : Prop where
  ref : ∀ e ∈ es, e.refKey = false
  val : ∀ n, (es.find? (·.key.isStr n)).map (·.val) = f.lookup n
  len : es.length ≤ 20
theorem FldO.get {es : List DictEntry} {f : List (Str × Value)} (h : FldO es f) (n : Str) : getL n es = some (f.lookup n) := by
  have := h.val n
  unfold getL
  cases hf : es.find? (·.key.isStr n) with
  | some e => rw [hf] at this; rw [← this]; rfl
  | none =>
    rw [hf] at this
    rw [← this]
    have hr : es.any (·.refKey) = false := by
      rw [List.any_eq_false]; intro e he; rw [h.ref e he]; exact Bool.false_ne_true
    rw [if_neg (by rw [hr]; exact Bool.false_ne_true)]; rfl
theorem isStr_eq {v : Value} {a b : Str} (h : v.isStr a = true) : v.isStr b = decide (b = a) := by
  by_cases e : b = a
  · subst e; rw [h]; simp
  · cases hb : v.isStr b with
    | false => simp [e]
    | true => exact absurd (Value.isStr_inj v b a hb h) e
theorem FldO.putE {es : List DictEntry} {f : List (Str × Value)} (h : FldO es f) (name : Str) (hsh : Int) (t : Tok) (v : Value) (hl : es.length ≤ 19 ∨ (f.lookup name).isSome) : FldO (putL name hsh (.str name t) v es) ((name, v) :: f) := by
  have key : (Value.str name t).isStr name = true := by simp [Value.isStr]
  have gen : ∀ es : List DictEntry, (∀ e ∈ es, e.refKey = false) → (∀ e ∈ putL name hsh (.str name t) v es, e.refKey = false) ∧ ((putL name hsh (.str name t) v es).length ≤ es.length + 1 ∧ ((es.find? (·.key.isStr name)).isSome → (putL name hsh (.str name t) v es).length = es.length)) ∧
      ∀ n, ((putL name hsh (.str name t) v es).find? (·.key.isStr n)).map (·.val) = if n = name then some v else (es.find? (·.key.isStr n)).map (·.val) := by
    intro es
    induction es with
    | nil =>
      intro _
      refine ⟨fun e he => ?_, ⟨by simp [putL], fun h => by simp at h⟩, fun n => ?_⟩
      · simp only [putL, List.mem_cons, List.not_mem_nil, or_false] at he; subst he; rfl
      · simp only [putL, List.find?_cons, List.find?_nil]
        rw [isStr_eq (b := n) key]
        by_cases e : n = name <;> simp [e]
    | cons e r ih =>
      intro hr
      refine xa0_3 (ih fun x hx => hr x (.tail _ hx)) fun i1 i2 i3 => ?_
      have he := hr e (.head _)
      unfold putL
      by_cases q : e.key.isStr name = true
      · first | refine wifT q ?_ | refine ifT q ?_ | rw [if_pos q]
        refine ⟨fun x hx => ?_, ⟨by simp, fun _ => by simp⟩, fun n => ?_⟩
        · rcases List.mem_cons.mp hx with rfl | hx
          · exact he
          · exact hr x (.tail _ hx)
        · simp only [List.find?_cons]
          rw [isStr_eq (b := n) q]
          by_cases e' : n = name <;> simp [e']
      · first | refine wifF q ?_ | refine ifF q ?_ | rw [if_neg q]
        refine ⟨fun x hx => ?_, ⟨by simp; exact And.left ‹_›, fun h => by rw [List.length_cons, i2.2 (by rw [List.find?_cons] at h; simpa [q] using h), List.length_cons]⟩, fun n => ?_⟩
        · rcases List.mem_cons.mp hx with rfl | hx
          · exact he
          · exact i1 x hx
        · simp only [List.find?_cons]
          cases z : e.key.isStr n with
          | false => exact i3 n
          | true =>
            have : n ≠ name := fun e' => q (e' ▸ z)
            simp [this]
  refine xa0_3 (gen es h.ref) fun g1 g2 g3 => ?_
  refine ⟨g1, fun n => ?_, ?_⟩
  rotate_left
  · rcases hl with hl | hl
    · have := g2.1; omega
    · rw [g2.2 (by rw [← h.val name] at hl; simpa using hl)]; exact h.len
  rw [g3, List.lookup_cons]
  by_cases e : n = name
  · subst e; simp
  · have e' : (n == name) = false := by simpa using e
    rw [if_neg e, e', h.val]
theorem FldO.same {es : List DictEntry} {f g : List (Str × Value)} (h : FldO es f) (e : ∀ n, f.lookup n = g.lookup n) : FldO es g := ⟨h.ref, fun n => (h.val n).trans (e n), h.len⟩

noncomputable def VInt (v : Value) (i : Int) : Prop := ∃ t, v = .int i t
noncomputable def VTup (prog : Program) (w : World) (S : Addr → Obj → Prop) (v : Value) (k : List Int) : Prop := ∃ a, v = .ref a ∧ TupS prog w S a k

section
variable {prog : Program} {w : World} {S S' : Addr → Obj → Prop} {gB : Heap} {O : Og} {L : Addr} {m m' : Str → Option Value} {tr : List (Addr × Obj)} {s : Shared}
theorem TupS.mono {a : Addr} {k : List Int} (h : TupS prog w S a k) (hs : ∀ a o, S a o → S' a o) : TupS prog w S' a k := let ⟨o, h1, h2⟩ := h; ⟨o, hs _ _ h1, h2⟩
theorem VTup.mono {v : Value} {k : List Int} (h : VTup prog w S v k) (hs : ∀ a o, S a o → S' a o) : VTup prog w S' v k := let ⟨a, e, h⟩ := h; ⟨a, e, h.mono hs⟩
theorem DicO.mono {od : Obj} {xs} (h : DicO prog w S od xs) (hs : ∀ x ∈ xs, ∀ o, S x.2.1 o → S' x.2.1 o) : DicO prog w S' od xs :=
  let ⟨h1, es, ep, h2, h3, h4, h5⟩ := h
  ⟨h1, es, ep, h2, h3, fun x hx => let ⟨o, a, b⟩ := h4 x hx; ⟨o, hs x hx o a, b⟩, h5⟩
theorem DicR.mono {β : Type} {R R' : Value → β → Prop} {od : Obj} {ps} (h : DicR prog w S R od ps) (hs : ∀ a o, S a o → S' a o) (hr : ∀ v b, R v b → R' v b) : DicR prog w S' R' od ps :=
  let ⟨xs, h1, h2⟩ := h
  ⟨xs, h1.mono fun _ _ o => hs _ o, h2.mono hr⟩
theorem FIn.tup (I : FIn gB O L m S tr s) {a : Addr} {k : List Int} (h : TupS prog w S a k) : IsTupleKey (intKind prog w) s.heap k a :=
  let ⟨o, h1, h2, items, n, h3, h4⟩ := h
  ⟨o, items, n, I.get h1, h2, h3, h4⟩
theorem FIn.dic (I : FIn gB O L m S tr s) {d : Addr} {od : Obj} {xs} (hd : s.heap.get? d = some od) (h : DicO prog w S od xs) : s.heap.DictOfH (KT prog w) d xs :=
  let ⟨h1, es, ep, h2, h3, h4, h5⟩ := h
  ⟨od, es, ep, hd, h1, h2, h3, fun x hx => I.tup (h4 x hx), h5⟩
theorem DicR.nil {β : Type} {R : Value → β → Prop} {od : Obj} (h : od.ExactDict) {ep : Nat} (hd : od.data = .dict #[] ep) : DicR prog w S R od [] :=
  ⟨[], ⟨h, #[], ep, hd, rfl, (fun _ hx => nomatch hx), List.nodup_nil⟩, .nil⟩
end

section
variable {prog : Program} {w : World} {gB : Heap} {O : Og} {L : Addr} {m : Str → Option Value} {S : Addr → Obj → Prop} {tr : List (Addr × Obj)} {s : Shared} {A : Around} {E : Value → Shared → Prop} {env : Env} {mg mb : Str → Option Value}

theorem r_loc {M : Model} {x : Str} {pos : Pos} {v : Value} {Q : Value → Shared → Prop} (I : FIn gB O L m S tr s) (hv : m x = some v) (h : Q v s)
    (hL : env.locals = L := by rfl) (hk : env.scope.kind = .function := by rfl) (hl : env.kindOf x = some .local := by rfl) (hd : (x == ("__debug__" : Str)) = false := by decide) :
    wpAny M A (eval (.Name x pos) env) Q E s := wpAny_Name (wpAny_loadName_local hk hl (hL ▸ I.ns) hv h) hd
theorem r_glob {M : Model} {P : Params} (B : Base P mg mb gB) {x : Str} {pos : Pos} {v : Value} {Q : Value → Shared → Prop} (I : FIn gB O L m S tr s) (e : nsIn (KH P) mainGlobals x = some (some v)) (h : Q v s)
    (hG : env.globals = mainGlobals := by rfl) (hk : env.scope.kind = .function := by rfl) (hl : env.kindOf x = some .globalImplicit := by rfl) (hd : (x == ("__debug__" : Str)) = false := by decide) :
    wpAny M A (eval (.Name x pos) env) Q E s := Name_function_global hk hl (loadGlobal_global (env := env) (hG ▸ B.g.keeps I.wd.ext) (mg_of B.X B.g e) h) hd
theorem r_blt {M : Model} {P : Params} (B : Base P mg mb gB) {x : Str} {pos : Pos} {v : Value} {Q : Value → Shared → Prop} (I : FIn gB O L m S tr s) (e : nsIn (KH P) mainGlobals x = some none) (hv : bootBuiltins x = some v) (hn : x ≠ "__name__") (h : Q v s)
    (hG : env.globals = mainGlobals := by rfl) (hB : env.builtins = builtinsNs := by rfl) (hk : env.scope.kind = .function := by rfl) (hl : env.kindOf x = some .globalImplicit := by rfl) (hd : (x == ("__debug__" : Str)) = false := by decide) :
    wpAny M A (eval (.Name x pos) env) Q E s :=
  Name_function_global hk hl (loadGlobal_builtin (env := env) (hG ▸ B.g.keeps I.wd.ext) (mg_none_of B.X B.g e) (hB ▸ B.b.keeps I.wd.ext) ((B.bu x hn).trans hv) h) hd
theorem r_st {M : Model} {x : Str} {v : Value} {Q : Unit → Shared → Prop} (I : FIn gB O L m S tr s)
    (h : ∀ s', FIn gB O L (fun y => if y = x then some v else m y) S tr s' → Q () s')
    (hL : env.locals = L := by rfl) (hl : env.kindOf x = some .local := by rfl)
    (hp : (env.scope.kind == .class || (env.scope.kind == .module && env.locals != env.globals)) = false := by rfl) : wpAny M A (storeName env x v) Q E s := by
  subst hL
  exact wpAny_storeName_local hl I.ns (fun h' hn hs => h _ (I.store hn hs)) hp

noncomputable def fieldIn (K : Frag) (C : Addr) (name : Str) : Bool := plainGet K C name && hasDictIn K C && (findIn K (.ref C) name == some none)
noncomputable def methIn (K : Frag) (C : Addr) (name : Str) (f : Addr) : Bool := plainGet K C name && (findIn K (.ref C) name == some (some (.ref f))) && isFn K (.ref f) && keepIn K (.ref f)

theorem r_attr {P : Params} (B : Base P mg mb gB) {x C dx : Addr} {sl : Array (Option Value)} {es : List DictEntry} {n : Nat} {f : List (Str × Value)} {name : Str} {v : Value} {expr : Bool} {Q : Value → Shared → Prop} (I : FIn gB O L m S tr s)
    (hx : s.heap.get? x = some ⟨.ref C, some dx, .plain, sl⟩) (hd : s.heap.get? dx = some (dictOf es n)) (hf : FldO es f) (hl : f.lookup name = some v) (hh : handedIn v = true)
    (hc : fieldIn (KH P) C name = true) (h : ∀ s', FIn gB O L m S tr s' → s'.heap = s.heap → Q v s') : wpAny (model prog w) A (getAttr (.ref x) name expr) Q E s := by
  simp only [fieldIn, Bool.and_eq_true, beq_iff_eq] at hc
  exact get_own I.fr B.X ⟨hx, rfl, rfl, hd⟩ hc.1.1 hc.1.2 hc.2 rfl (by rw [hf.get, hl]) hh (h _ (I.toks _) rfl)

theorem r_meth {P : Params} (B : Base P mg mb gB) {x C dx g : Addr} {sl : Array (Option Value)} {es : List DictEntry} {n : Nat} {f : List (Str × Value)} {name : Str} {pl : Sem Bool} {Q : Value × List Value → Shared → Prop} (I : FIn gB O L m S tr s)
    (hx : s.heap.get? x = some ⟨.ref C, some dx, .plain, sl⟩) (hd : s.heap.get? dx = some (dictOf es n)) (hf : FldO es f) (hl : f.lookup name = none)
    (hc : methIn (KH P) C name g = true) (h : Q (.ref g, [.ref x]) s) : wpAny (model prog w) A (getMethod (.ref x) name pl) Q E s := by
  simp only [methIn, Bool.and_eq_true, beq_iff_eq] at hc
  exact method_inst I.fr B.X ⟨hx, rfl, rfl, hd⟩ hc.1.1.1 hc.1.1.2 hc.1.2 (by rw [hf.get, hl]) h

variable {S₁ : Addr → Obj → Prop}
theorem r_in {β : Type} {R : Value → β → Prop} {a d : Addr} {k : List Int} {od : Obj} {ps : List (List Int × β)} {Q : Value → Shared → Prop} (I : FIn gB O L m S tr s) (hS : ∀ a o, S₁ a o → S a o) (hu : A.units + 1 < cLine) (hk : TupS prog w S₁ a k)
    (hd : s.heap.get? d = some od) (hn : gB.objs.size ≤ d) (hD : DicR prog w S₁ R od ps) (h : ∀ s', FIn gB O L m S tr s' → s'.heap = s.heap → Q (.bool (get ps k).isSome) s') :
    wpAny (model prog w) A (compareOp .In (.ref a) (.ref d)) Q E s := by
  refine xa1_2 (hD) fun xs hD hR => ?_
  exact wpAny_in_heap (knd := KT prog w) (tupleKind_room_in1 hu) (I.tup (hk.mono hS)) (I.wd.notMod hn) (I.dic hd (hD.mono fun _ _ o => hS _ o)) (by rw [hR.get_none]; exact h _ (I.toks _) rfl)
theorem r_notin {β : Type} {R : Value → β → Prop} {a d : Addr} {k : List Int} {od : Obj} {ps : List (List Int × β)} {Q : Value → Shared → Prop} (I : FIn gB O L m S tr s) (hS : ∀ a o, S₁ a o → S a o) (hu : A.units + 1 < cLine) (hk : TupS prog w S₁ a k)
    (hd : s.heap.get? d = some od) (hn : gB.objs.size ≤ d) (hD : DicR prog w S₁ R od ps) (h : ∀ s', FIn gB O L m S tr s' → s'.heap = s.heap → Q (.bool (!(get ps k).isSome)) s') :
    wpAny (model prog w) A (compareOp .NotIn (.ref a) (.ref d)) Q E s := by
  refine xa1_2 (hD) fun xs hD hR => ?_
  exact wpAny_notIn_heap (knd := KT prog w) (tupleKind_room_in1 hu) (I.tup (hk.mono hS)) (I.wd.notMod hn) (I.dic hd (hD.mono fun _ _ o => hS _ o)) (by rw [hR.get_none]; exact h _ (I.toks _) rfl)
theorem r_item {β : Type} {R : Value → β → Prop} {a d : Addr} {k : List Int} {od : Obj} {ps : List (List Int × β)} {b : β} {value slice : Expr} {Q : Value → Shared → Prop} (I : FIn gB O L m S tr s) (hS : ∀ a o, S₁ a o → S a o) (hu : A.units + 1 < cLine) (hk : TupS prog w S₁ a k)
    (hd : s.heap.get? d = some od) (hD : DicR prog w S₁ R od ps) (hg : get ps k = some b) (h : ∀ v s', R v b → FIn gB O L m S tr s' → s'.heap = s.heap → Q v s')
    (hs : subscripted slice false (.ref d) (.ref a) = operate [.ref d, .ref a] (getItem (.ref d) (.ref a)) := by with_unfolding_all rfl) :
    wpAny (model prog w) A (subscriptTail value slice (.ref d) (.ref a)) Q E s := by
  refine xa1_2 (hD) fun xs hD hR => ?_
  refine xa1_2 (hR.get_some hg) fun p hp hr => ?_
  have hm := I.dic hd (hD.mono fun _ _ o => hS _ o)
  exact tail_any hm.typeIs slot_dict_getitem.lookup (wpAny_getItem_heap (knd := KT prog w) (tupleKind_room_in1 hu) (I.tup (hk.mono hS)) hm hp (h _ _ hr (I.toks _) rfl)) hs
theorem r_set {β : Type} {R : Value → β → Prop} {a d : Addr} {i : Nat} {k : List Int} {od : Obj} {ps : List (List Int × β)} {b : β} {v : Value} {Q : Unit → Shared → Prop} (I : FIn gB O L m S tr s) (hS : ∀ a o, S₁ a o → S a o) (hu : A.units + 1 < cLine) (hk : TupS prog w S₁ a k)
    (hi : tr[i]? = some (d, od)) (hD : DicR prog w S₁ R od ps) (hr : R v b) (hz : ps.length ≤ 100000)
    (h : ∀ s' od', FIn gB O L m S (tr.set i (d, od')) s' → DicR prog w S₁ R od' (put ps k b) → Q () s') :
    wpAny (model prog w) A (setItem (.ref d) (.ref a) v) Q E s := by
  refine xa1_2 (hD) fun xs hD hR => ?_
  have hm := I.dic (I.at hi) (hD.mono fun _ _ o => hS _ o)
  refine wpAny_setItem_heap (knd := KT prog w) (tupleKind_room_in1 hu) (I.tup (hk.mono hS)) hm (fun h' hm' hs' => ?_) (by rw [hR.length, sizeLine_eq]; exact oL ‹_› (by exact rfl))
  refine xa3_6 (hm') fun od' es' ep' ho' hc' hd' he' his' hn' => ?_
  refine h _ od' (I.turn hi hs' ho') ⟨_, ⟨hc', es', ep', hd', he', fun x hx => ?_, hn'⟩, hR.put hr⟩
  rcases mem_storedH hx with ⟨y, hy, e1, e2⟩ | ⟨e1, e2⟩
  · obtain ⟨h1, es, ep, h2, h3, h4, h5⟩ := hD
    rw [e1, e2]; exact h4 y hy
  · rw [e1, e2]; exact hk
end
end Mine
end
section
open PySem PySem.W PySem.Calls PyProof.Rows
namespace Mine
structure Iter (prog : Program) (w : World) (gB : Heap) (it : Addr) (n : Nat) (item : Nat → Value) (ItP : Nat → Obj → Prop) (Src : (Addr → Obj → Prop) → Prop) : Prop where
  next : ∀ {A : Around} {O : Og} {L : Addr} {m : Str → Option Value} {S : Addr → Obj → Prop} {tr : List (Addr × Obj)} {s : Shared} {E : Value → Shared → Prop} {io : Obj} {k : Nat} {Q : Option Value → Shared → Prop},
    k < n → FIn gB O L m S ((it, io) :: tr) s → ItP k io → Src S → (∀ io' s', ItP (k + 1) io' → FIn gB O L m S ((it, io') :: tr) s' → Q (some (item k)) s') → wpAny (model prog w) A (pyNext (.ref it)) Q E s
  stop : ∀ {A : Around} {O : Og} {L : Addr} {m : Str → Option Value} {S : Addr → Obj → Prop} {tr : List (Addr × Obj)} {s : Shared} {E : Value → Shared → Prop} {io : Obj} {Q : Option Value → Shared → Prop},
    A.handled = none → FIn gB O L m S ((it, io) :: tr) s → ItP n io → Src S → (∀ s', FIn gB O L m S tr s' → Q none s') → wpAny (model prog w) A (pyNext (.ref it)) Q E s
  go : ∀ {A : Around} {O : Og} {L : Addr} {m : Str → Option Value} {S : Addr → Obj → Prop} {tr : List (Addr × Obj)} {s : Shared} {E : Value → Shared → Prop} {io : Obj} {k : Nat} {Q : Unit → Shared → Prop} (target : Expr) (v : Value),
    FIn gB O L m S ((it, io) :: tr) s → ItP k io → Q () s → wpAny (model prog w) A (letOwnedTupleGo target (.ref it) v) Q E s

section
variable {prog : Program} {w : World} {gB : Heap} {O : Og} {L : Addr} {m : Str → Option Value} {S : Addr → Obj → Prop} {tr : List (Addr × Obj)} {s : Shared} {A : Around} {E : Value → Shared → Prop} {env : Env}

theorem go_plain {target : Expr} {it : Addr} {v : Value} {io : Obj} {c : String} {Q : Unit → Shared → Prop} (ho : s.heap.get? it = some io) (hc : io.cls = .type c)
    (hn : (["enumerate", "zip", "dict_itemiterator", "dict_reverseitemiterator", "odict_iterator", "itertools.zip_longest", "itertools.pairwise"].contains c) = false) (h : Q () s) :
    wpAny (model prog w) A (letOwnedTupleGo target (.ref it) v) Q E s := by
  unfold letOwnedTupleGo
  split
  · cases v <;> try exact wpAny_pure h
    rename_i a
    dsimp only
    refine wpAny_bind (wpAny_load ho ?_)
    walk_at "q"
    rw [hc]
    cases hd : io.data <;> dsimp only <;> first | exact wpAny_pure h | (rw [hn, Bool.false_and, if_neg Bool.false_ne_true]; exact wpAny_pure h)
  · cases v <;> try exact wpAny_pure h
    rename_i a
    dsimp only
    refine wpAny_bind (wpAny_load ho ?_)
    walk_at "q"
    rw [hc]
    cases hd : io.data <;> dsimp only <;> first | exact wpAny_pure h | (rw [hn, Bool.false_and, if_neg Bool.false_ne_true]; exact wpAny_pure h)
  · exact wpAny_pure h

theorem for_core {target : Expr} {body : List Stmt} {it : Addr} {io₀ : Obj} {n : Nat} {item : Nat → Value} {ItP : Nat → Obj → Prop} {Src : (Addr → Obj → Prop) → Prop} {R : Result → Shared → Prop}
    (J : Iter prog w gB it n item ItP Src) (hh : A.handled = none)
    (Inv : Nat → (Str → Option Value) → (Addr → Obj → Prop) → List (Addr × Obj) → Prop) (hsrc : ∀ k m S tr, Inv k m S tr → Src S)
    (I₀ : FIn gB O L m S ((it, io₀) :: tr) s) (h0 : ItP 0 io₀) (i0 : Inv 0 m S tr)
    (turn : ∀ k m S tr s io, k < n → Inv k m S tr → FIn gB O L m S ((it, io) :: tr) s →
      wpAny (model prog w) A (assign target env (item k)) (fun _ s₂ => wpAny (model prog w) A (execs body env) (fun f s₃ => match f with
        | .next | .cont => ∃ m' S' tr', FIn gB O L m' S' ((it, io) :: tr') s₃ ∧ Inv (k + 1) m' S' tr'
        | .brk => R (.ok .next) s₃
        | .ret v => R (.ok (.ret v)) s₃) (fun _ _ => False) s₂) (fun _ _ => False) s)
    (done : ∀ m S tr s, Inv n m S tr → FIn gB O L m S tr s → R (.ok .next) s) :
    codeAny (model prog w) A (.forLoop target (.ref it) body [] env) R s := by
  refine codeAny_forLoop_any (fun c s => ∃ k m S tr io, c = n - k ∧ k ≤ n ∧ ItP k io ∧ Inv k m S tr ∧ FIn gB O L m S ((it, io) :: tr) s) ?_ n ⟨0, m, S, tr, io₀, by simp, Nat.zero_le _, h0, i0, I₀⟩
  intro c s hp1
  refine xa5_5 (hp1) fun k m S tr io he2 hk hP hI I => ?_
  obtain rfl := he2
  by_cases hkn : k < n
  · refine J.next hkn I hP (hsrc _ _ _ _ hI) fun io' s' hP' I' => ?_
    refine J.go _ _ I' hP' ?_
    refine wpAny_mono (turn k m S tr s' io' hkn hI I') (fun _ s₂ h₂ => wpAny_mono h₂ (fun f s₃ h₃ => ?_) fun _ _ x => x.elim) fun _ _ x => x.elim
    cases f with
    | next => obtain ⟨m', S', tr', I₃, hI₃⟩ := h₃; exact ⟨n - (k + 1), by exact oS2 ‹_›, k + 1, m', S', tr', io', rfl, hkn, hP', hI₃, I₃⟩
    | cont => obtain ⟨m', S', tr', I₃, hI₃⟩ := h₃; exact ⟨n - (k + 1), by exact oS2 ‹_›, k + 1, m', S', tr', io', rfl, hkn, hP', hI₃, I₃⟩
    | brk => exact h₃
    | ret v => exact h₃
  · obtain rfl : k = n := by exact oN ‹_› ‹_›
    refine J.stop hh I hP (hsrc _ _ _ _ hI) fun s' I' => ?_
    exact wpAny_execs_nil (done m S tr s' hI I')

noncomputable def LIt (l : Addr) (k : Nat) (io : Obj) : Prop := io.cls = .type "list_iterator" ∧ io.data = .fields #[.ref l, .int k 0]
theorem listIter {l it : Addr} {items : List Value} : Iter prog w gB it items.length (fun k => items.getD k .none) (LIt l) (fun S => ∃ lo, S l lo ∧ LstO items lo) where
  next := fun {A O L m S tr s E io k Q} hk I hP hS h => by
    obtain ⟨lo, h1, h2, nn, h3⟩ := hS
    have hx : items.toArray[k]? = some (items.getD k .none) := by
      rw [List.getD_eq_getElem?_getD, List.getElem?_toArray, List.getElem?_eq_getElem hk]; rfl
    refine wpAny_pyNext_list_item (l := l) (i := k) (items := items.toArray) ⟨io, (I.tk _ (.head _)).1, hP.1, hP.2⟩ ⟨lo, I.get h1, h2, nn, h3⟩ hx fun h' hit hs => ?_
    walk_at "q"
    refine xa1_3 (hit) fun io' ho' hc' hd' => ?_
    have I' := FIn.turn (i := 0) (tk := s.toks) I rfl hs ho'
    exact h io' _ ⟨hc', hd'⟩ I'
  stop := fun {A O L m S tr s E io Q} hh I hP hS h => by
    obtain ⟨lo, h1, h2, nn, h3⟩ := hS
    refine wpAny_pyNext_list_end (l := l) (i := items.length) (items := items.toArray) hh ⟨io, (I.tk _ (.head _)).1, hP.1, hP.2⟩ ⟨lo, I.get h1, h2, nn, h3⟩ (by simp) fun h' hs => ?_
    walk_at "q"
    exact h _ (I.waste hs)
  go := fun {A O L m S tr s E io k Q} target v I hP h => go_plain (I.tk _ (.head _)).1 hP.1 (by decide) h

noncomputable def LoopL (prog : Program) (w : World) (gB : Heap) (O : Og) (L : Addr) (A : Around) (env : Env) (target : Expr) (body : List Stmt) (Q : Flow → Shared → Prop) (xv : Value) (s₁ : Shared) : Prop :=
  ∃ (l : Addr) (items : List Value) (m : Str → Option Value) (S : Addr → Obj → Prop) (tr : List (Addr × Obj)) (Inv : Nat → (Str → Option Value) → (Addr → Obj → Prop) → List (Addr × Obj) → Prop),
    xv = .ref l ∧ FIn gB O L m S tr s₁ ∧ (∀ k m S tr, Inv k m S tr → ∃ lo, S l lo ∧ LstO items lo) ∧ Inv 0 m S tr ∧
    (∀ it k m S tr s io, k < items.length → Inv k m S tr → FIn gB O L m S ((it, io) :: tr) s →
      wpAny (model prog w) A (assign target env (items.getD k .none)) (fun _ s₂ => wpAny (model prog w) A (execs body env) (fun f s₃ => match f with
        | .next | .cont => ∃ m' S' tr', FIn gB O L m' S' ((it, io) :: tr') s₃ ∧ Inv (k + 1) m' S' tr'
        | .brk => Q .next s₃
        | .ret v => Q (.ret v) s₃) (fun _ _ => False) s₂) (fun _ _ => False) s) ∧
    (∀ m S tr s, Inv items.length m S tr → FIn gB O L m S tr s → Q .next s)

theorem r_for_list {target iter : Expr} {body : List Stmt} {pos : Pos} {Q : Flow → Shared → Prop} (hh : A.handled = none)
    (he : wpAny (model prog w) A (eval iter env) (LoopL prog w gB O L A env target body Q) E s)
    (hs : ∀ x, foldedSetIterable iter env x = pure x := by intro _; rfl) :
    wpAny (model prog w) A (exec (.For target iter body [] pos) env) Q E s := by
  refine wpAny_For (wpAny_mono he (fun xv s₁ h₁ => ?_) fun _ _ x => x) hs
  refine xa6_6 (h₁) fun l items m S tr Inv he3 I₁ hsrc i0 turn done => ?_
  obtain rfl := he3
  obtain ⟨lo, h1, h2, nn, h3⟩ := hsrc _ _ _ _ i0
  refine wpAny_pyIter_list (items := items.toArray) ⟨lo, I₁.get h1, h2, nn, h3⟩ ?_
  walk_at "q"
  exact for_core listIter hh Inv hsrc (I₁.push _ s₁.toks) ⟨rfl, rfl⟩ i0 (turn _) done

theorem eval_callm {x : Expr} {name : Str} {args : List Expr} {p2 p4 : Pos} {env : Env} (hline : (p2.endLine == p4.line) = true) (hb : attributeBase x name env (eval x env) = eval x env)
    (hf : methodCallForm (args.length + 0) (backTo p4 (starEach args env)) [] = true) :
    eval (.Call (.Attribute x name p2) args [] p4) env = (do
      let ov ← eval x env
      standAt p2.atName
      let (f, first) ← holding [ov] (getMethod ov name (do return (← importBound x env).getD true))
      callWith p4 f first (backTo p4 (starEach args env)) []) := by
  rw [arm_eval_Call, hb]
  have e : ∀ ov, methodCall x name p2 p4 env ov (args.length + ([] : List Keyword).length) (backTo p4 (starEach args env)) (backToKw p4 (keywordEach [] env)) = (do
      let (f, first) ← holding [ov] (getMethod ov name (do return (← importBound x env).getD true))
      callWith p4 f first (backTo p4 (starEach args env)) []) := by
    intro ov
    show methodCall x name p2 p4 env ov (args.length + 0) (backTo p4 (starEach args env)) [] = _
    unfold methodCall
    rw [hf]
    simp only [methodCallPos, hline, Bool.or_true, if_true]
    rfl
  simp only [e]

theorem r_callm1 {P : Params} {mg mb : Str → Option Value} (B : Base P mg mb gB) {xn name a1 : Str} {p1 p2 p3 p4 : Pos} {x C dx g : Addr} {sl : Array (Option Value)} {es : List DictEntry} {n : Nat} {f : List (Str × Value)} {v1 : Value} {Q : Value → Shared → Prop} (I : FIn gB O L m S tr s)
    (hself : m xn = some (.ref x)) (hx : s.heap.get? x = some ⟨.ref C, some dx, .plain, sl⟩) (hdx : s.heap.get? dx = some (dictOf es n)) (hf : FldO es f) (hl : f.lookup name = none)
    (hc : methIn (KH P) C name g = true) (h1 : m a1 = some v1) (h : wpAny (model prog w) A (call (.ref g) [.ref x, v1]) Q E s)
    (hL : env.locals = L := by rfl) (hk : env.scope.kind = .function := by rfl) (k0 : env.kindOf xn = some .local := by rfl) (k1 : env.kindOf a1 = some .local := by rfl) (d0 : (xn == ("__debug__" : Str)) = false := by decide) (d1 : (a1 == ("__debug__" : Str)) = false := by decide)
    (hline : (p2.endLine == p4.line) = true := by rfl) :
    wpAny (model prog w) A (eval (.Call (.Attribute (.Name xn p1) name p2) [.Name a1 p3] [] p4) env) Q E s := by
  have hc' := hc
  simp only [methIn, Bool.and_eq_true] at hc'
  refine MethodCall_ (r_loc I hself (r_meth B I hx hdx hf hl hc ?_) hL hk k0 d0) (eval_callm hline rfl rfl)
  refine callWith_K B.X hc'.2 (args_cons (r_loc I h1 (args_nil ⟨B.K I.wd, h⟩) hL hk k1 d1))
theorem r_callm2 {P : Params} {mg mb : Str → Option Value} (B : Base P mg mb gB) {xn name a1 a2 : Str} {p1 p2 p3 p5 p4 : Pos} {x C dx g : Addr} {sl : Array (Option Value)} {es : List DictEntry} {n : Nat} {f : List (Str × Value)} {v1 v2 : Value} {Q : Value → Shared → Prop} (I : FIn gB O L m S tr s)
    (hself : m xn = some (.ref x)) (hx : s.heap.get? x = some ⟨.ref C, some dx, .plain, sl⟩) (hdx : s.heap.get? dx = some (dictOf es n)) (hf : FldO es f) (hl : f.lookup name = none)
    (hc : methIn (KH P) C name g = true) (h1 : m a1 = some v1) (h2 : m a2 = some v2) (h : wpAny (model prog w) A (call (.ref g) [.ref x, v1, v2]) Q E s)
    (hL : env.locals = L := by rfl) (hk : env.scope.kind = .function := by rfl) (k0 : env.kindOf xn = some .local := by rfl) (k1 : env.kindOf a1 = some .local := by rfl) (k2 : env.kindOf a2 = some .local := by rfl)
    (d0 : (xn == ("__debug__" : Str)) = false := by decide) (d1 : (a1 == ("__debug__" : Str)) = false := by decide) (d2 : (a2 == ("__debug__" : Str)) = false := by decide)
    (hline : (p2.endLine == p4.line) = true := by rfl) :
    wpAny (model prog w) A (eval (.Call (.Attribute (.Name xn p1) name p2) [.Name a1 p3, .Name a2 p5] [] p4) env) Q E s := by
  have hc' := hc
  simp only [methIn, Bool.and_eq_true] at hc'
  refine MethodCall_ (r_loc I hself (r_meth B I hx hdx hf hl hc ?_) hL hk k0 d0) (eval_callm hline rfl rfl)
  refine callWith_K B.X hc'.2 (args_cons (r_loc I h1 (args_cons (r_loc I h2 (args_nil ⟨B.K I.wd, h⟩) hL hk k2 d2)) hL hk k1 d1))
theorem r_callm0 {P : Params} {mg mb : Str → Option Value} (B : Base P mg mb gB) {xn name : Str} {p1 p2 p4 : Pos} {x C dx g : Addr} {sl : Array (Option Value)} {es : List DictEntry} {n : Nat} {f : List (Str × Value)} {Q : Value → Shared → Prop} (I : FIn gB O L m S tr s)
    (hself : m xn = some (.ref x)) (hx : s.heap.get? x = some ⟨.ref C, some dx, .plain, sl⟩) (hdx : s.heap.get? dx = some (dictOf es n)) (hf : FldO es f) (hl : f.lookup name = none)
    (hc : methIn (KH P) C name g = true) (h : wpAny (model prog w) A (call (.ref g) [.ref x]) Q E s)
    (hL : env.locals = L := by rfl) (hk : env.scope.kind = .function := by rfl) (k0 : env.kindOf xn = some .local := by rfl) (d0 : (xn == ("__debug__" : Str)) = false := by decide)
    (hline : (p2.endLine == p4.line) = true := by rfl) :
    wpAny (model prog w) A (eval (.Call (.Attribute (.Name xn p1) name p2) [] [] p4) env) Q E s := by
  have hc' := hc
  simp only [methIn, Bool.and_eq_true] at hc'
  refine MethodCall_ (r_loc I hself (r_meth B I hx hdx hf hl hc ?_) hL hk k0 d0) (eval_callm hline rfl rfl)
  exact callWith_K0 (B.K I.wd) hc'.2 h
end
end Mine
end
section
open PySem PySem.W PySem.Calls PyProof.Rows
namespace Mine
section
variable {prog : Program} {w : World} {A : Around} {E : Value → Shared → Prop} {s : Shared} {env : Env}
theorem r_while {test : Expr} {body : List Stmt} {pos : Pos} {Q : Flow → Shared → Prop} (Inv : Nat → Shared → Prop)
    (turn : ∀ n s, Inv n s → wpAny (model prog w) A (isTrue test env (eval test env)) (fun b s₂ =>
      if b then wpAny (model prog w) A (execs body env) (fun f s₃ => match f with
        | .next | .cont => ∃ m, m < n ∧ Inv m s₃
        | .brk => Q .next s₃
        | .ret v => Q (.ret v) s₃) (fun _ _ => False) s₂
      else Q .next s₂) (fun _ _ => False) s) (n : Nat) (h : Inv n s) : wpAny (model prog w) A (exec (.While test body [] pos) env) Q E s := by
  refine wpAny_While (codeAny_whileLoop Inv (fun n s hI => wpAny_mono (turn n s hI) (fun b s₂ h₂ => ?_) fun _ _ x => x.elim) n h)
  cases b with
  | true => exact wpAny_mono h₂ (fun f s₃ h₃ => by cases f <;> exact h₃) fun _ _ x => x.elim
  | false => exact wpAny_execs_nil h₂
theorem isTrue_true {k : Nat} {pos : Pos} {Q : Bool → Shared → Prop} (h : Q true s) : wpAny (model prog w) A (isTrue (.Constant (.bool true) k pos) env (eval (.Constant (.bool true) k pos) env)) Q E s :=
  wpAny_isTrue_value (wpAny_Constant_bool (wpAny_truthy_bool h))
end

theorem r_chain2 {prog : Program} {w : World} {A : Around} {E : Value → Shared → Prop} {s : Shared} {pos : Pos} {a : Value} {op1 op2 : CmpOp} {r1 r2 : Sem Value} {c1 c2 : Bool} {Q : Bool → Shared → Prop} {P : Shared → Prop}
    (h1 : wpAny (model prog w) A r1 (fun b s1 => wpAny (model prog w) A (compareOp op1 a b) (fun c s2 => c = .bool c1 ∧ P s2 ∧ wpAny (model prog w) A r2 (fun b2 s3 => wpAny (model prog w) A (compareOp op2 b b2) (fun c s4 => c = .bool c2 ∧ P s4) E s3) E s2) E s1) E s)
    (h : ∀ s', P s' → Q (c1 && c2) s') : wpAny (model prog w) A (testChain pos a [op1, op2] [r1, r2]) Q E s := by
  refine test_link (wpAny_mono h1 (fun b s1 h1 => wpAny_mono h1 (fun c s2 h2 => ?_) fun _ _ x => x) fun _ _ x => x)
  obtain ⟨rfl, hp, h2⟩ := h2
  refine wpAny_truthy_bool ?_
  walk_at "q"
  cases c1 with
  | false => exact h s2 hp
  | true =>
    first | refine wifTb rfl ?_ | refine ifTb rfl ?_ | simp only [if_true]
    refine test_last (wpAny_mono h2 (fun b2 s3 h3 => wpAny_mono h3 (fun c s4 h4 => ?_) fun _ _ x => x) fun _ _ x => x)
    obtain ⟨rfl, hp⟩ := h4
    exact wpAny_truthy_bool (h s4 hp)

noncomputable abbrev lst (items : List Value) (n : Nat) : Obj := { cls := .type "list", data := .seq items.toArray n }
theorem lstO (items : List Value) (n : Nat) : LstO items (lst items n) := ⟨rfl, n, rfl⟩
section
variable {prog : Program} {w : World} {gB : Heap} {O : Og} {L : Addr} {m : Str → Option Value} {S : Addr → Obj → Prop} {tr : List (Addr × Obj)} {s : Shared} {A : Around} {E : Value → Shared → Prop} {env : Env} {mg mb : Str → Option Value}

theorem r_newlist {vs : List Value} {Q : Value → Shared → Prop} (I : FIn gB O L m S tr s) (h : ∀ a s', a = s.heap.objs.size → FIn gB O L m S ((a, lst vs 0) :: tr) s' → Q (.ref a) s') (hz : vs.length ≤ 1000 := by simp) : wpAny (model prog w) A (newList vs) Q E s :=
  wpAny_newObj_type (h _ _ rfl (I.push _ _)) (by show vs.toArray.size ≤ sizeLine; rw [List.size_toArray, sizeLine_eq]; exact oL ‹_› (by exact rfl))

theorem FIn.lst_at (I : FIn gB O L m S tr s) {i : Nat} {q : Addr} {items : List Value} {n : Nat} (h : tr[i]? = some (q, lst items n)) : IsL s.heap q items.toArray n := I.at h

theorem r_append {qn : Str} {p1 p2 p4 : Pos} {e : Expr} {q : Addr} {ql : Obj} {Q : Value → Shared → Prop} (I : FIn gB O L m S tr s) (hq : m qn = some (.ref q)) (hg : s.heap.get? q = some ql) (hc : ql.cls = .type "list") (hd : ql.dict = none)
    (h : wpAny (model prog w) A (eval e env) (fun v s₁ => ∃ m S tr i items n, FIn gB O L m S tr s₁ ∧ tr[i]? = some (q, lst items n) ∧ items.length ≤ 1000 ∧ ∀ s', FIn gB O L m S (tr.set i (q, lst (items ++ [v]) (n + 1))) s' → Q .none s') E s)
    (hL : env.locals = L := by rfl) (hk : env.scope.kind = .function := by rfl) (k0 : env.kindOf qn = some .local := by rfl) (d0 : (qn == ("__debug__" : Str)) = false := by decide)
    (hs : starEach [e] env = [(false, eval e env)] := by rfl) (hline : (p2.endLine == p4.line) = true := by rfl) :
    wpAny (model prog w) A (eval (.Call (.Attribute (.Name qn p1) "append" p2) [e] [] p4) env) Q E s := by
  refine MethodCall_ (r_loc I hq (getMethod_list_append hg hc hd ?_) hL hk k0 d0) (eval_callm hline rfl (by rw [hs]; rfl))
  rw [hs]
  refine P.append_list (wpAny_mono h (fun v s₁ h₁ => ?_) fun _ _ x => x)
  obtain ⟨m, S, tr, i, items, n, I, hi, hz, hQ⟩ := h₁
  refine ⟨items.toArray, n, by rw [List.size_toArray, sizeLine_eq]; exact oL ‹_› (by exact rfl), I.at hi, ?_⟩
  refine hQ _ (I.turn (h' := s₁.heap.update q (Obj.mapSeq fun xs => xs.push v)) (tk := s₁.toks) hi (Heap.SameBut.update ..) ?_)
  have := IsL.update (I.at hi) (fun xs => xs.push v)
  refine this.trans ?_
  simp

theorem r_pop0 {qn : Str} {p1 p2 p3 p4 : Pos} {k : Nat} {i : Nat} {q : Addr} {v : Value} {items : List Value} {n : Nat} {Q : Value → Shared → Prop} (I : FIn gB O L m S tr s) (hq : m qn = some (.ref q)) (hi : tr[i]? = some (q, lst (v :: items) n)) (hz : items.length ≤ 999)
    (h : ∀ s', FIn gB O L m S (tr.set i (q, lst items (n + 1))) s' → Q v s')
    (hL : env.locals = L := by rfl) (hk : env.scope.kind = .function := by rfl) (k0 : env.kindOf qn = some .local := by rfl) (d0 : (qn == ("__debug__" : Str)) = false := by decide) (hline : (p2.endLine == p4.line) = true := by rfl) :
    wpAny (model prog w) A (eval (.Call (.Attribute (.Name qn p1) "pop" p2) [.Constant (.int 0) k p3] [] p4) env) Q E s := by
  refine MethodCall_ (r_loc I hq (getMethod_builtin ⟨_, I.at hi, rfl⟩ F.plainAttrs_list F.slot_list_pop F.type_list_pop (fun a e => ⟨_, I.at (by cases e; exact hi), rfl⟩) ?_) hL hk k0 d0) (eval_callm hline rfl rfl)
  refine P.pop_at_list (x := eval (.Constant (.int 0) k p3) env >>= fun v => pure v) ?_
  refine wpAny_bind (wpAny_Constant_int (wpAny_pure ?_))
  walk_at "q"
  refine ⟨(v :: items).toArray, n, 0, s.toks, 0, v, by rw [List.size_toArray, sizeLine_eq, List.length_cons]; exact oM ‹_› (by exact rfl), rfl, I.at hi, by decide, ?_, by simp, ?_⟩
  · simp [seqIndex?]
  refine h _ (I.turn (h' := s.heap.update q (Obj.mapSeq fun xs => xs.eraseIdxIfInBounds 0)) (tk := s.toks + 1) hi (Heap.SameBut.update ..) ?_)
  have := IsL.update (I.at hi) (fun xs => xs.eraseIdxIfInBounds 0)
  refine this.trans ?_
  simp

theorem r_len {P : Params} (B : Base P mg mb gB) {qn : Str} {p1 p2 p3 : Pos} {q : Addr} {items : List Value} {lo : Obj} {Q : Value → Shared → Prop} (I : FIn gB O L m S tr s) (hq : m qn = some (.ref q)) (hg : s.heap.get? q = some lo) (hl : LstO items lo) (hz : items.length ≤ 1000)
    (hlen : nsIn (KH P) mainGlobals "len" = some none) (h : ∀ s' t, FIn gB O L m S tr s' → s'.heap = s.heap → Q (.int items.length t) s')
    (hL : env.locals = L := by rfl) (hG : env.globals = mainGlobals := by rfl) (hB : env.builtins = builtinsNs := by rfl) (hk : env.scope.kind = .function := by rfl) (k0 : env.kindOf qn = some .local := by rfl) (k1 : env.kindOf "len" = some .globalImplicit := by rfl) (d0 : (qn == ("__debug__" : Str)) = false := by decide)
    (he : eval (.Call (.Name "len" p1) [.Name qn p2] [] p3) env = (do callWith p3 (← eval (.Name "len" p1) env) [] (backTo p3 (starEach [.Name qn p2] env)) (backToKw p3 (keywordEach [] env))) := by rfl) :
    wpAny (model prog w) A (eval (.Call (.Name "len" p1) [.Name qn p2] [] p3) env) Q E s := by
  obtain ⟨h1, n, h2⟩ := hl
  refine PyProof.Rows.Call_ (r_blt B I hlen (v := .builtin "len") (by decide +kernel) (by decide) ?_ hG hB hk k1) he
  refine callWith_builtin rfl (evalArgs_plain (args_cons (r_loc I hq (args_nil ?_) hL hk k0 d0)))
  exact call_len_list ⟨lo, hg, h1, n, h2⟩ (by rw [List.size_toArray]; with_reducible exact o63 ‹_› (by with_unfolding_all exact rfl)) (by rw [List.size_toArray]; exact h _ _ (I.toks _) rfl)
end
end Mine
end
section
open PySem PySem.W PySem.Calls PyProof.Rows
namespace Mine
noncomputable def full (gB : Heap) (L : Addr) (h : Heap) : List (Addr × Obj) := (List.range h.objs.size).filterMap fun a => if a = L then none else if (gB.get? a).isSome then none else (h.get? a).map (a, ·)
section
variable {gB h : Heap} {L : Addr}
theorem mem_full {a : Addr} {o : Obj} : (a, o) ∈ full gB L h ↔ h.get? a = some o ∧ a ≠ L ∧ gB.get? a = none := by
  unfold full
  rw [List.mem_filterMap]
  constructor
  · intro hp1
    refine xa1_2 (hp1) fun b _ e => ?_
    split at e
    · cases e
    · rename_i hb
      split at e
      · cases e
      · rename_i hg
        refine xa1_2 (Option.map_eq_some_iff.mp e) fun x hx e => ?_
        cases e
        exact ⟨hx, hb, by simpa using hg⟩
  · intro hp2
    refine xa0_3 (hp2) fun h1 h2 h3 => ?_
    exact ⟨a, List.mem_range.mpr (Heap.lt_size h1), by rw [if_neg h2, h3, h1]; rfl⟩
theorem full_keys_nodup : ((full gB L h).map (·.1)).Nodup := by
  unfold full
  rw [List.map_filterMap]
  have : ∀ l : List Nat, l.Nodup → (l.filterMap fun a => ((if a = L then none else if (gB.get? a).isSome then none else (h.get? a).map (a, ·)) : Option (Addr × Obj)).map (·.1)).Nodup := by
    intro l
    have sub : ∀ (l : List Nat) (b : Addr), b ∈ (l.filterMap fun a => ((if a = L then none else if (gB.get? a).isSome then none else (h.get? a).map (a, ·)) : Option (Addr × Obj)).map (·.1)) → b ∈ l := by
      intro l b hb
      refine xa1_2 (List.mem_filterMap.mp hb) fun a ha e => ?_
      split at e
      · cases e
      · split at e
        · cases e
        · cases hx : h.get? a with
          | none => rw [hx] at e; cases e
          | some o => rw [hx] at e; cases e; exact ha
    induction l with
    | nil => intro _; exact List.nodup_nil
    | cons a l ih =>
      intro hn
      rw [List.nodup_cons] at hn
      rw [List.filterMap_cons]
      split
      · exact ih hn.2
      · rename_i b e
        refine List.nodup_cons.mpr ⟨fun hb => ?_, ih hn.2⟩
        have hb' := sub l b hb
        split at e
        · cases e
        · split at e
          · cases e
          · cases hx : h.get? a with
            | none => rw [hx] at e; cases e
            | some o => rw [hx] at e; cases e; exact hn.1 hb'
  exact this _ List.nodup_range
theorem full_split {d : Addr} {o : Obj} (hm : (d, o) ∈ full gB L h) : ∃ pre post, full gB L h = pre ++ (d, o) :: post ∧ (∀ p ∈ pre, p.1 ≠ d) ∧ ∀ p ∈ post, p.1 ≠ d := by
  refine xa2_1 (List.append_of_mem hm) fun pre post e => ?_
  have hn := full_keys_nodup (gB := gB) (L := L) (h := h)
  rw [e, List.map_append, List.map_cons, List.nodup_append] at hn
  refine xa0_3 (hn) fun _ h2 h3 => ?_
  refine ⟨pre, post, e, fun p hp q => ?_, fun p hp q => ?_⟩
  · exact h3 p.1 (List.mem_map_of_mem hp) d (.head _) q
  · exact (List.nodup_cons.mp h2).1 (q ▸ List.mem_map_of_mem (f := (·.1)) hp)
theorem news_full : News gB L h (full gB L h) := fun p hp => by
  have := mem_full.mp (show (p.1, p.2) ∈ full gB L h from hp)
  exact ⟨this.1, this.2.1, this.2.2⟩
end

noncomputable def storeIn (K : Frag) (C : Addr) (name : Str) : Bool :=
  (findIn K (.ref C) "__setattr__" == some (some (.builtin "object.__setattr__"))) && plainOver K C && (takerIn K C name == some none) && hasDictIn K C

section
variable {prog : Program} {w : World} {gB : Heap} {O : Og} {L : Addr} {m : Str → Option Value} {S : Addr → Obj → Prop} {tr : List (Addr × Obj)} {s : Shared} {A : Around} {E : Value → Shared → Prop} {env : Env} {mg mb : Str → Option Value}
theorem r_setattr (B : Base w.params mg mb gB) {x C dx : Addr} {sl : Array (Option Value)} {es : List DictEntry} {n i : Nat} {f : List (Str × Value)} {name : Str} {v : Value} {Q : Unit → Shared → Prop} (I : FIn gB O L m S tr s)
    (hx : s.heap.get? x = some ⟨.ref C, some dx, .plain, sl⟩) (hi : tr[i]? = some (dx, dictOf es n)) (hf : FldO es f) (hlen : es.length ≤ 19 ∨ (f.lookup name).isSome)
    (hc : storeIn (KH w.params) C name = true)
    (h : ∀ s' es' n', FIn gB O L m S (tr.set i (dx, dictOf es' n')) s' → FldO es' ((name, v) :: f) → (es.length ≤ 19 → es'.length ≤ es.length + 1) → Q () s') : wpAny (model prog w) A (setAttr (.ref x) name v) Q E s := by
  simp only [storeIn, Bool.and_eq_true, beq_iff_eq] at hc
  refine xa0_2 (hc) fun hp3 c4 => ?_
  refine xa0_2 (hp3) fun hp4 c3 => ?_
  refine xa0_2 (hp4) fun c1 c2 => ?_
  have hd := I.at hi
  have hdn := I.new hi
  have hm : (dx, dictOf es n) ∈ full gB L s.heap := mem_full.mpr ⟨hd, I.neL hi, by
    cases q : gB.get? dx with
    | none => rfl
    | some o => exact absurd (Heap.lt_size q) (Nat.not_lt.mpr hdn)⟩
  refine xa2_3 (full_split hm) fun pre post e a b => ?_
  have hfl : FldO (putL name (PyData.keyHash w.params name) (.str name (s.toks + 1)) v es) ((name, v) :: f) := hf.putE name _ _ v hlen
  have hN : News gB L s.heap (pre ++ (dx, dictOf es n) :: post) := e ▸ news_full
  refine set_plain (od := some (dictOf es n)) (B.K I.wd) ⟨hx, rfl, rfl, hd⟩ c1 (osa_dict (s := { s with toks := s.toks + 1 }) I.fr hN (B.K I.wd) ⟨hx, rfl, rfl, hd⟩ rfl c2 c3 c4 ?_ a b
    (putName_dict ..) rfl (Nat.le_trans hfl.len (by omega)) fun h' F' N' => ?_)
  · rw [lookIn_dict, hf.get]; rfl
  have keep : ∀ b o, b ≠ dx → b ≠ L → s.heap.get? b = some o → h'.get? b = some o := by
    intro y o h1 h2 h3
    cases q : gB.get? y with
    | some z =>
      have := I.wd.ext y z q
      rw [h3] at this
      cases this
      exact F'.keep y o q
    | none =>
      have hy : (y, o) ∈ pre ++ (dx, dictOf es n) :: post := e ▸ mem_full.mpr ⟨h3, h2, q⟩
      have hy' : (y, o) ∈ pre ++ (dx, dictOf (putL name (PyData.keyHash w.params name) (.str name (s.toks + 1)) v es) (putN name es n)) :: post := by
        rcases List.mem_append.mp hy with hy | hy
        · exact List.mem_append_left _ hy
        · rcases List.mem_cons.mp hy with hy | hy
          · cases hy; exact absurd rfl h1
          · exact List.mem_append_right _ (.tail _ hy)
      exact (N' _ hy').1
  have hdx' : h'.get? dx = some (dictOf (putL name (PyData.keyHash w.params name) (.str name (s.toks + 1)) v es) (putN name es n)) := (N' (dx, _) (List.mem_append_right _ (.head _))).1
  have hmap := map_fst_set (o' := dictOf (putL name (PyData.keyHash w.params name) (.str name (s.toks + 1)) v es) (putN name es n)) hi
  refine h { s with heap := h', toks := s.toks + 1 + 1 } _ _ ⟨?_, F'.ns, I.lL, fun y o hS => ?_, fun p hp => ?_, by rw [hmap]; exact I.nd, I.bare, I.os⟩ hfl fun h19 => ?_
  · refine ⟨F'.keep, fun q hq => ?_, Nat.le_of_lt (Nat.lt_of_le_of_lt I.lL F'.ns.lt), I.wd.big⟩
    refine xa1_2 (I.wd.tb q hq) fun ps h1 h2 => ?_
    exact ⟨ps, keep q _ (fun e => I.wd.notTab hdn (e ▸ hq)) (fun e => I.wd.notTab I.lL (e ▸ hq)) h1, h2⟩
  · refine xa0_4 (I.st y o hS) fun a1 a2 a3 a4 => ?_
    exact ⟨keep y o (fun e => a4 (e ▸ List.mem_map.mpr ⟨_, List.mem_of_getElem? hi, rfl⟩)) a2 a1, a2, a3, by rw [hmap]; exact a4⟩
  · refine xa1_1 (List.mem_iff_getElem?.mp hp) fun j hj => ?_
    by_cases hij : i = j
    · subst hij
      rw [List.getElem?_set, if_pos rfl, if_pos (List.getElem?_eq_some_iff.mp hi).1] at hj
      cases hj
      exact ⟨hdx', I.neL hi, hdn⟩
    · rw [List.getElem?_set, if_neg hij] at hj
      refine xa0_3 (I.tk p (List.mem_of_getElem? hj)) fun a1 a2 a3 => ?_
      exact ⟨keep _ _ (fun e => hij (nodup_inj I.nd hi hj e.symm)) a2 a1, a2, a3⟩
  · clear hfl
    have : ∀ es : List DictEntry, (putL name (PyData.keyHash w.params name) (.str name (s.toks + 1)) v es).length ≤ es.length + 1 := by
      intro es
      induction es with
      | nil => simp [putL]
      | cons e r ih => unfold putL; split <;> simp; assumption
    exact this es
end
end Mine
end
section
open PySem PySem.W PySem.Calls PyProof.Rows
namespace Mine
noncomputable abbrev tup (vs : List Value) : Obj := { cls := .type "tuple", data := .seq vs.toArray }
noncomputable def And1 (S : Addr → Obj → Prop) (a : Addr) (o : Obj) : Addr → Obj → Prop := fun b x => S b x ∨ (b = a ∧ x = o)
theorem And1.old {S : Addr → Obj → Prop} {a : Addr} {o : Obj} : ∀ b x, S b x → And1 S a o b x := fun _ _ h => .inl h
theorem And1.new {S : Addr → Obj → Prop} {a : Addr} {o : Obj} : And1 S a o a o := .inr ⟨rfl, rfl⟩

section
variable {prog : Program} {w : World} {gB : Heap} {O : Og} {L : Addr} {m : Str → Option Value} {S : Addr → Obj → Prop} {tr : List (Addr × Obj)} {s : Shared} {A : Around} {E : Value → Shared → Prop} {env : Env} {mg mb : Str → Option Value}

theorem r_newtup {vs : List Value} {Q : Value → Shared → Prop} (I : FIn gB O L m S tr s) (h : ∀ a s', a = s.heap.objs.size → FIn gB O L m (And1 S a (tup vs)) tr s' → Q (.ref a) s') (hz : vs.length ≤ 1000 := by simp) : wpAny (model prog w) A (newTuple vs) Q E s :=
  wpAny_newTuple (h _ _ rfl (I.push _ s.toks).settle) (by rw [sizeLine_eq]; exact oL ‹_› (by exact rfl))

theorem r_newdict {pos : Pos} {Q : Value → Shared → Prop} (I : FIn gB O L m S tr s) (h : ∀ a s', a = s.heap.objs.size → FIn gB O L m S ((a, { cls := .type "dict", data := .dict #[] }) :: tr) s' → Q (.ref a) s') :
    wpAny (model prog w) A (eval (.Dict [] [] pos) env) Q E s :=
  wpAny_Dict_empty (h _ _ rfl (I.push _ s.toks))

theorem r_clear {β : Type} {R : Value → β → Prop} {i : Nat} {d : Addr} {od : Obj} {S₁ : Addr → Obj → Prop} {Q : Value → Shared → Prop} (I : FIn gB O L m S tr s) (hi : tr[i]? = some (d, od)) (hD : DicR prog w S₁ R od [])
    (h : ∀ s' od', FIn gB O L m S (tr.set i (d, od')) s' → (∀ {β : Type} {R : Value → β → Prop} {S₁ : Addr → Obj → Prop}, DicR prog w S₁ R od' []) → Q .none s') :
    wpAny (model prog w) A (call (.builtin "dict.clear") [.ref d]) Q E s := by
  refine xa1_2 (hD) fun xs hp1 hR => ?_
  obtain ⟨hE, es, ep, hd, he, _, _⟩ := hp1
  have hm : s.heap.DictOf (intKind prog w) d ([] : List (Int × Value)) := by
    have hx : xs = [] := List.length_eq_zero_iff.mp (by rw [hR.length]; rfl)
    subst hx
    have hes : es = #[] := by
      have : es.toList = [] := he
      exact Array.toList_eq_nil_iff.mp this
    subst hes
    refine xi3_6 od (#[]) ep (I.at hi) hE hd (fun _ he => by simp at he) Pairs.nil List.nodup_nil
  refine call_meetsIn PySem.F.slot_dict_clear hm.typeIs PySem.F.entry_dict_clear (PySem.F.args_dict_clear_1 _) (meets_dict_clear (intKind prog w) d) ⟨[], hm, Nat.zero_le _, fun h' hm' hs => ?_⟩
  refine xa3_6 (hm') fun od' es' ep' ho' hE' hd' hk' hp' hn' => ?_
  refine h _ od' (I.turn (tk := s.toks) hi hs ho') (fun {β R S₁} => DicR.nil hE' (ep := ep') ?_)
  have : es'.toList.length = 0 := by have := hp'.length; simpa using this
  have hes : es' = #[] := Array.toList_eq_nil_iff.mp (List.length_eq_zero_iff.mp this)
  rw [hd', hes]

theorem ExactDict.new : Obj.ExactDict ({ cls := .type "dict", data := .dict #[] } : Obj) := ⟨rfl, rfl, rfl⟩

theorem r_augint {x : Str} {p1 p2 p3 : Pos} {n : Nat} {i : Int} {t : Tok} {Q : Flow → Shared → Prop} (I : FIn gB O L m S tr s) (hx : m x = some (.int i t))
    (h : ∀ s' t', FIn gB O L (fun y => if y = x then some (.int (i + 1) t') else m y) S tr s' → Q .next s')
    (hL : env.locals = L := by rfl) (hk : env.scope.kind = .function := by rfl) (hl : env.kindOf x = some .local := by rfl) :
    wpAny (model prog w) A (exec (.AugAssign (.Name x p1) .Add (.Constant (.int 1) n p2) p3) env) Q E s := by
  subst hL
  refine wpAny_AugAssign_Name (wpAny_loadName_local hk hl I.ns hx (wpAny_Constant_int (PyProof.Rows.iadd_int ?_)))
  walk_at "q"
  exact wpAny_storeName_local hl (I.toks _).ns (fun h' hn hs => h _ _ ((I.toks _).store hn hs)) (by rw [hk]; rfl)

theorem r_unpack2 {e1 e2 : Expr} {k : Nat} {pos : Pos} {t : Addr} {o : Obj} {v1 v2 : Value} {n : Nat} {Q : Unit → Shared → Prop} (hh : A.handled = none) (I : FIn gB O L m S tr s) (ht : s.heap.get? t = some o) (hc : o.cls = .type "tuple") (hd : o.data = .seq #[v1, v2] n)
    (h : ∀ s', FIn gB O L m S tr s' → wpAny (model prog w) A (assign e1 env v1) (fun _ s₂ => wpAny (model prog w) A (assign e2 env v2) Q E s₂) E s')
    (he : assignEach [e1, e2] env = [(false, assign e1 env), (false, assign e2 env)] := by rfl) :
    wpAny (model prog w) A (assign (.Tuple [e1, e2] k pos) env (.ref t)) Q E s := by
  refine assign_Tuple_tuple (items := #[v1, v2]) hh ⟨o, ht, hc, n, hd⟩ (by rw [he]; rfl) (by rw [he]; rfl) fun h' hx => ?_
  rw [he]
  have I' := I.keeps (h' := h') (tk := s.toks) fun b o e => hx b o (Nat.ne_of_lt (Heap.lt_size e)) e
  exact assignInOrder_cons (wpAny_mono (h _ I') (fun _ s₂ h₂ => assignInOrder_cons (wpAny_mono h₂ (fun _ s₃ h₃ => assignInOrder_nil h₃) fun _ _ x => x)) fun _ _ x => x)
end
end Mine
end
section
namespace Mine
section
variable {K β : Type} [DecidableEq K]
theorem get_nil (k : K) : get ([] : List (K × β)) k = none := rfl
theorem get_cons (p : K × β) (ps : List (K × β)) (k : K) : get (p :: ps) k = if p.1 = k then some p.2 else get ps k := by
  by_cases h : p.1 = k <;> simp [get, h]
theorem get_append (ps qs : List (K × β)) (k : K) : get (ps ++ qs) k = (get ps k).or (get qs k) := by
  induction ps with
  | nil => simp [get_nil]
  | cons p ps ih => rw [List.cons_append, get_cons, get_cons]; split <;> simp [ih]
theorem get_map_put (ps : List (K × β)) (k : K) (b : β) (k' : K) : get (ps.map fun p => if p.1 = k then (p.1, b) else p) k' = if k' = k then (get ps k).map fun _ => b else get ps k' := by
  induction ps with
  | nil => simp [get_nil]
  | cons p ps ih =>
    rw [List.map_cons, get_cons, get_cons, get_cons, ih]
    by_cases h1 : p.1 = k
    · by_cases h2 : k' = k
      · subst h2; simp [h1]
      · have h3 : ¬ k = k' := fun e => h2 e.symm
        simp [h1, h2, h3]
    · by_cases h2 : k' = k
      · subst h2; simp [h1]
      · simp [h1, h2]
theorem get_put (ps : List (K × β)) (k : K) (b : β) (k' : K) : get (put ps k b) k' = if k' = k then some b else get ps k' := by
  unfold put
  split
  · rename_i h
    rw [get_map_put]
    refine xa1_1 (Option.isSome_iff_exists.mp h) fun x hx => ?_
    split <;> simp [hx]
  · rename_i h
    have hn : get ps k = none := by simpa using h
    rw [get_append, get_cons, get_nil]
    by_cases h2 : k' = k
    · subst h2; simp [hn]
    · have h3 : ¬ k = k' := fun e => h2 e.symm
      simp [h2, h3]
theorem get_put_self (ps : List (K × β)) (k : K) (b : β) : get (put ps k b) k = some b := by rw [get_put]; simp
theorem get_put_ne (ps : List (K × β)) {k k' : K} (b : β) (h : k' ≠ k) : get (put ps k b) k' = get ps k' := by rw [get_put]; simp [h]
theorem put_length_le (ps : List (K × β)) (k : K) (b : β) : (put ps k b).length ≤ ps.length + 1 := by
  unfold put; split <;> simp
theorem put_length_of (ps : List (K × β)) {k : K} (b : β) (h : (get ps k).isSome) : (put ps k b).length = ps.length := by
  unfold put; rw [if_pos h]; simp
theorem put_keys_of (ps : List (K × β)) {k : K} (b : β) (h : (get ps k).isSome) : (put ps k b).map (·.1) = ps.map (·.1) := by
  unfold put; rw [if_pos h, List.map_map]
  refine List.map_congr_left fun p _ => ?_
  by_cases h : p.1 = k <;> simp [h]
theorem get_isSome_iff (ps : List (K × β)) (k : K) : (get ps k).isSome = true ↔ k ∈ ps.map (·.1) := by
  induction ps with
  | nil => simp [get_nil]
  | cons p ps ih =>
    rw [get_cons]
    by_cases h : p.1 = k
    · subst h; simp
    · have h' : ¬ k = p.1 := fun e => h e.symm
      rw [if_neg h, ih]; simp [h']
theorem get_mem {ps : List (K × β)} {k : K} {b : β} (h : get ps k = some b) : (k, b) ∈ ps := by
  induction ps with
  | nil => cases h
  | cons p ps ih =>
    rw [get_cons] at h
    split at h
    · rename_i e; cases h; subst e; exact .head _
    · exact .tail _ (ih h)
theorem get_of_mem {ps : List (K × β)} (hn : (ps.map (·.1)).Nodup) {k : K} {b : β} (h : (k, b) ∈ ps) : get ps k = some b := by
  induction ps with
  | nil => cases h
  | cons p ps ih =>
    rw [List.map_cons, List.nodup_cons] at hn
    rw [get_cons]
    cases h with
    | head => simp
    | tail _ h =>
      have hne : ¬ p.1 = k := fun e => hn.1 (by rw [e]; exact List.mem_map_of_mem (f := (·.1)) h)
      rw [if_neg hne]; exact ih hn.2 h
theorem put_nodup {ps : List (K × β)} (hn : (ps.map (·.1)).Nodup) (k : K) (b : β) : ((put ps k b).map (·.1)).Nodup := by
  by_cases h : (get ps k).isSome
  · rw [put_keys_of ps b h]; exact hn
  · unfold put; rw [if_neg h, List.map_append, List.nodup_append]
    refine ⟨hn, by simp, fun x hx y hy e => ?_⟩
    simp only [List.map_cons, List.map_nil, List.mem_singleton] at hy
    subst e hy
    exact h ((get_isSome_iff ps x).mpr hx)
end

section
variable {K : Type} [DecidableEq K] {adj : List (K × List K)} {rf : Int}

noncomputable def Grows (adj : List (K × List K)) (n : Nat) (σ : HK K) (b : Bool) (σ' : HK K) : Prop :=
  (b = false → σ'.pl = σ.pl ∧ σ'.pr = σ.pr) ∧ σ'.pl.length ≤ σ.pl.length + n ∧ σ'.pr.length ≤ σ.pr.length + n ∧
    ((∀ k, (get adj k).isSome → (get σ.ds k).isSome) → (∀ k, (get adj k).isSome → (get σ'.ds k).isSome) ∧ σ'.ds.length = σ.ds.length)

theorem dfsRow_len {self : K → HK K → Option (Bool × HK K)} {n : Nat} (hself : ∀ o σ b σ', self o σ = some (b, σ') → Grows adj n σ b σ') {l : K} (hl : (get adj l).isSome) :
    ∀ (rs : List K) (σ : HK K) (b : Bool) (σ' : HK K), dfsRow adj rf self l rs σ = some (b, σ') → Grows adj (n + 1) σ b σ' := by
  intro rs
  induction rs with
  | nil =>
    intro σ b σ' h
    simp only [dfsRow, Option.some.injEq, Prod.mk.injEq] at h
    refine xa0_2 (h) fun he1 he2 => ?_
    obtain rfl := he1
    obtain rfl := he2
    refine ⟨fun _ => ⟨rfl, rfl⟩, Nat.le_add_right _ _, Nat.le_add_right _ _, fun hd => ⟨fun k hk => ?_, put_length_of _ _ (hd l hl)⟩⟩
    show (get (put σ.ds l (-1)) k).isSome
    rw [get_put]; split <;> simp [hd k hk]
  | cons r rs ih =>
    intro σ b σ' h
    have swap : ∀ σ : HK K, Grows adj (n + 1) σ true (swapLR σ l r) := fun σ =>
      ⟨fun e => (nomatch e), Nat.le_trans (put_length_le _ _ _) (by omega), Nat.le_trans (put_length_le _ _ _) (by omega), fun hd => ⟨hd, rfl⟩⟩
    rw [dfsRow] at h
    cases hr : get σ.pr r with
    | none =>
      rw [hr] at h
      refine xa1_2 (Option.bind_eq_some_iff.mp h) fun d _ h => ?_
      split at h
      · simp only [Option.some.injEq, Prod.mk.injEq] at h
        refine xa0_2 (h) fun he3 he4 => ?_
        obtain rfl := he3
        obtain rfl := he4
        exact swap σ
      · exact ih _ _ _ h
    | some o =>
      rw [hr] at h
      refine xa1_2 (Option.bind_eq_some_iff.mp h) fun d' _ h => ?_
      refine xa1_2 (Option.bind_eq_some_iff.mp h) fun d _ h => ?_
      split at h
      · refine xa1_2 (Option.bind_eq_some_iff.mp h) fun hp5 hs h => ?_
        obtain ⟨b₁, σ₁⟩ := hp5
        refine xa0_4 (hself _ _ _ _ hs) fun g1 g2 g3 g4 => ?_
        dsimp only at h
        cases b₁ with
        | true =>
          simp only [if_true, Option.some.injEq, Prod.mk.injEq] at h
          refine xa0_2 (h) fun he6 he7 => ?_
          obtain rfl := he6
          obtain rfl := he7
          refine ⟨fun e => (nomatch e), Nat.le_trans (put_length_le _ _ _) (by exact Nat.succ_le_succ ‹_›), Nat.le_trans (put_length_le _ _ _) (by exact Nat.succ_le_succ ‹_›), fun hd => g4 hd⟩
        | false =>
          simp only [Bool.false_eq_true, if_false] at h
          refine xa0_4 (ih _ _ _ h) fun i1 i2 i3 i4 => ?_
          refine xa0_2 (g1 rfl) fun e1 e2 => ?_
          rw [e1] at i2
          rw [e2] at i3
          refine ⟨fun e => ?_, i2, i3, fun hd => ?_⟩
          · refine xa0_2 (i1 e) fun a1 a2 => ?_
            exact ⟨a1.trans e1, a2.trans e2⟩
          · refine xa0_2 (g4 hd) fun d1 d2 => ?_
            refine xa0_2 (i4 d1) fun d3 d4 => ?_
            exact ⟨d3, d4.trans d2⟩
      · exact ih _ _ _ h

theorem dfs_len : ∀ (n : Nat) (l : K) (σ : HK K) (b : Bool) (σ' : HK K), dfs adj rf n l σ = some (b, σ') → Grows adj n σ b σ' := by
  intro n
  induction n with
  | zero => intro l σ b σ' h; cases h
  | succ n ih =>
    intro l σ b σ' h
    unfold dfs at h
    refine xa1_2 (Option.bind_eq_some_iff.mp h) fun rs hrs h => ?_
    exact dfsRow_len ih (by rw [hrs]; rfl) rs σ b σ' h
end
end Mine
end
section
namespace Mine
section
variable {K : Type} [DecidableEq K] {adj : List (K × List K)} {pr : List (K × K)}

noncomputable def SameK {β : Type} (a b : List (K × β)) : Prop := b.map (·.1) = a.map (·.1)
theorem SameK.refl {β : Type} (a : List (K × β)) : SameK a a := rfl
theorem SameK.trans {β : Type} {a b c : List (K × β)} (x : SameK a b) (y : SameK b c) : SameK a c := Eq.trans y x
theorem SameK.put {β : Type} {a : List (K × β)} {k : K} {b : β} (h : (get a k).isSome) : SameK a (put a k b) := put_keys_of a b h
theorem SameK.isSome {β : Type} {a b : List (K × β)} (x : SameK a b) (k : K) : (get b k).isSome = (get a k).isSome := by
  have h1 := get_isSome_iff a k
  have h2 := get_isSome_iff b k
  rw [show b.map (·.1) = a.map (·.1) from x] at h2
  cases ha : (get a k).isSome <;> cases hb : (get b k).isSome <;> simp_all
theorem SameK.length {β : Type} {a b : List (K × β)} (x : SameK a b) : b.length = a.length := by
  have := congrArg List.length (show b.map (·.1) = a.map (·.1) from x)
  simpa using this

theorem bfsInit_keys {pl : List (K × K)} : ∀ (ls q : List K) (ds : List (K × Int)), (∀ l ∈ ls, (get ds l).isSome) → SameK ds (bfsInit pl ls q ds).2
  | [], _, _, _ => rfl
  | l :: ls, q, ds, h => by
    rw [bfsInit]
    have h1 := h l (.head _)
    split
    · exact (SameK.put h1).trans (bfsInit_keys ls _ _ fun x hx => by rw [(SameK.put h1).isSome]; exact h x (.tail _ hx))
    · exact (SameK.put h1).trans (bfsInit_keys ls _ _ fun x hx => by rw [(SameK.put h1).isSome]; exact h x (.tail _ hx))
theorem bfsRow_keys {x : K} : ∀ (rs q : List K) (ds : List (K × Int)) (rf : Int) {z}, bfsRow pr x rs q ds rf = some z → SameK ds z.2.1
  | [], q, ds, rf, z, h => by
    simp only [bfsRow, Option.some.injEq] at h
    subst h; rfl
  | r :: rs, q, ds, rf, z, h => by
    rw [bfsRow] at h
    cases hr : get pr r with
    | none =>
      rw [hr] at h
      dsimp only at h
      split at h
      · refine xa1_2 (Option.bind_eq_some_iff.mp h) fun d _ h => ?_
        exact bfsRow_keys rs _ _ _ h
      · exact bfsRow_keys rs _ _ _ h
    | some o =>
      rw [hr] at h
      refine xa1_2 (Option.bind_eq_some_iff.mp h) fun d' hd' h => ?_
      split at h
      · refine xa1_2 (Option.bind_eq_some_iff.mp h) fun d _ h => ?_
        exact (SameK.put (by rw [hd']; rfl)).trans (bfsRow_keys rs _ _ _ h)
      · exact bfsRow_keys rs _ _ _ h
theorem bfsLoop_keys : ∀ (n : Nat) (q : List K) (ds : List (K × Int)) (rf : Int) {z}, bfsLoop adj pr n q ds rf = some z → SameK ds z.1
  | 0, _, _, _, _, h => nomatch h
  | n + 1, [], ds, rf, z, h => by
    simp only [bfsLoop, Option.some.injEq] at h
    subst h; rfl
  | n + 1, x :: q, ds, rf, z, h => by
    rw [bfsLoop] at h
    refine xa1_2 (Option.bind_eq_some_iff.mp h) fun d _ h => ?_
    split at h
    · exact bfsLoop_keys n _ _ _ h
    · split at h
      · exact bfsLoop_keys n _ _ _ h
      · refine xa1_2 (Option.bind_eq_some_iff.mp h) fun rs _ h => ?_
        refine xa1_2 (Option.bind_eq_some_iff.mp h) fun y hy h => ?_
        exact (bfsRow_keys _ _ _ _ hy).trans (bfsLoop_keys n _ _ _ h)
theorem bfs_keys {n : Nat} {σ : HK K} {z} (h : bfs adj n σ = some z) (hd : ∀ k, (get adj k).isSome → (get σ.ds k).isSome) : SameK σ.ds z.1 := by
  unfold bfs at h
  exact (bfsInit_keys (pl := σ.pl) _ [] _ fun l hl => hd l ((get_isSome_iff adj l).mpr hl)).trans (bfsLoop_keys _ _ _ _ h)
end
end Mine
end
section
namespace Mine
noncomputable def addAdj (adj : List (List Int × List (List Int))) (t h : List Int) : List (List Int × List (List Int)) :=
  if (get adj t).isSome then adj.map (fun p => if p.1 = t then (p.1, p.2 ++ [h]) else p) else adj ++ [(t, [h])]
noncomputable def adjOf (E : List (Int × Int)) : List (List Int × List (List Int)) := E.foldl (fun adj e => addAdj adj [0, e.1] [1, e.2]) []
theorem adjOf_take {E : List (Int × Int)} {k : Nat} {e : Int × Int} (h : E[k]? = some e) : adjOf (E.take (k + 1)) = addAdj (adjOf (E.take k)) [0, e.1] [1, e.2] := by
  unfold adjOf
  rw [List.take_add_one, h, List.foldl_append]; rfl
theorem addAdj_length (adj : List (List Int × List (List Int))) (t h : List Int) : (addAdj adj t h).length ≤ adj.length + 1 := by
  unfold addAdj; split <;> simp
theorem adjOf_length (E : List (Int × Int)) : ∀ k, (adjOf (E.take k)).length ≤ k := by
  intro k
  induction k with
  | zero => simp [adjOf]
  | succ k ih =>
    cases h : E[k]? with
    | none =>
      have hk : E.length ≤ k := by simpa using h
      rw [List.take_of_length_le (by exact Nat.le_succ_of_le ‹_›)]
      rw [List.take_of_length_le hk] at ih
      exact Nat.le_succ_of_le ‹_›
    | some e =>
      rw [adjOf_take h]
      have := addAdj_length (adjOf (E.take k)) [0, e.1] [1, e.2]
      omega
theorem addAdj_rows {adj : List (List Int × List (List Int))} {n : Nat} (h : ∀ p ∈ adj, p.2.length ≤ n) (t x : List Int) : ∀ p ∈ addAdj adj t x, p.2.length ≤ n + 1 := by
  intro p hp
  unfold addAdj at hp
  split at hp
  · obtain ⟨q, hq, rfl⟩ := List.mem_map.mp hp
    have := h q hq
    split
    · simp; assumption
    · exact Nat.le_succ_of_le ‹_›
  · rcases List.mem_append.mp hp with hp | hp
    · have := h p hp; exact Nat.le_succ_of_le ‹_›
    · simp only [List.mem_singleton] at hp; subst hp; simp
theorem adjOf_rows (E : List (Int × Int)) : ∀ k, ∀ p ∈ adjOf (E.take k), p.2.length ≤ k := by
  intro k
  induction k with
  | zero => simp [adjOf]
  | succ k ih =>
    cases h : E[k]? with
    | none =>
      have hk : E.length ≤ k := by simpa using h
      rw [List.take_of_length_le (by exact Nat.le_succ_of_le ‹_›)]
      rw [List.take_of_length_le hk] at ih
      exact fun p hp => Nat.le_succ_of_le (ih p hp)
    | some e =>
      rw [adjOf_take h]
      exact addAdj_rows ih _ _
theorem addAdj_nodup {adj : List (List Int × List (List Int))} (h : (adj.map (·.1)).Nodup) (t x : List Int) : ((addAdj adj t x).map (·.1)).Nodup := by
  unfold addAdj
  split
  · rw [List.map_map]
    have : ((fun p : List Int × List (List Int) => p.1) ∘ fun p => if p.1 = t then (p.1, p.2 ++ [x]) else p) = fun p => p.1 := by
      funext p; simp only [Function.comp]; split <;> rfl
    rw [this]; exact h
  · rename_i hn
    rw [List.map_append, List.nodup_append]
    refine ⟨h, by simp, fun a ha b hb e => ?_⟩
    simp only [List.map_cons, List.map_nil, List.mem_singleton] at hb
    subst e hb
    exact hn ((get_isSome_iff adj a).mpr ha)
theorem adjOf_nodup (E : List (Int × Int)) : ((adjOf E).map (·.1)).Nodup := by
  unfold adjOf
  have : ∀ (E : List (Int × Int)) (adj : List (List Int × List (List Int))), (adj.map (·.1)).Nodup → ((E.foldl (fun adj e => addAdj adj [0, e.1] [1, e.2]) adj).map (·.1)).Nodup := by
    intro E
    induction E with
    | nil => intro adj h; exact h
    | cons e E ih => intro adj h; exact ih _ (addAdj_nodup h _ _)
  exact this E [] List.nodup_nil
end Mine
end
section
open PySem PySem.W PySem.Calls PyProof.Rows
namespace Mine
noncomputable def p0 : Params := { strHash := fun _ => 0, shareClass := fun a => a, mergeTok := fun t => t, idOf := fun a => a, idOfShared := fun n _ => n, followText := fun _ => false, idOfImm := fun _ => 0 }
noncomputable def fnAt (f : Addr) : FuncData := match (KH p0).lookup f with | some ⟨_, _, .func fd, _⟩ => fd | _ => default
noncomputable def bodyAt (f : Addr) : List Stmt := match (fnAt f).body with | .stmts b => b | _ => []
structure DefAt (P : Params) (f : Addr) : Prop where
  k : (KH P).lookup f = some ⟨.type "function", none, .func (fnAt f), #[]⟩
  b : (fnAt f).body = .stmts (bodyAt f)
  c : codeIn (KH P) (fnAt f).code (fnAt f).qualname = true
  co : (fnAt f).scope.isCoroutine = false
  gen : (fnAt f).scope.isGenerator = false
  kd : (fnAt f).scope.kind = .function
noncomputable def noCell (f : Addr) : Prop := ∀ x ∈ (fnAt f).scope.names, x.2 ≠ .cell
section
variable {prog : Program} {w : World} {mg mb : Str → Option Value} {gB : Heap} {A : Around} {E : Value → Shared → Prop} {s : Shared}
noncomputable abbrev envAt (f L : Addr) : Env := callEnv (fnAt f) L f
theorem call_at (B : Base w.params mg mb gB) (W : Pre gB s) {f : Addr} (D : DefAt w.params f) (hcell : noCell f) {vals : List Value} (binds : List (Str × Value)) {Q : Value → Shared → Prop}
    (foot : List (Addr × Obj)) (hfoot : ∀ p ∈ foot, s.heap.get? p.1 = some p.2 ∧ gB.objs.size ≤ p.1) (hnd : (foot.map (·.1)).Nodup) (hroom : A.depth < recursionLimit)
    (hbind : bindArgs (fnAt f) ⟨vals, []⟩ = pure binds) (hloc : (binds.all fun x => decide ((fnAt f).scope.names.lookup x.1 = some .local)) = true)
    (h : ∀ s₁ L, L = s.heap.objs.size → FIn gB (og s) L (fun x => binds.reverse.lookup x) (Froz L foot s) foot s₁ →
      wpAny (model prog w) (A.deeper (envAt f L)) (execs (bodyAt f) (envAt f L)) (fun fl s' => (∃ m' S' tr', FIn gB (og s) L m' S' tr' s' ∧ (∀ a o, Froz L foot s a o → S' a o)) ∧
        (Post gB (foot.map (·.1)) s s' → Q (match fl with | .ret v => v | _ => .none) s')) (fun _ _ => False) s₁) :
    wpAny (model prog w) A (call (.ref f) vals) Q E s :=
  wpAny_call (call_fn B W foot hfoot hnd D.k D.b D.c hroom (BindsTo.of_eq hbind) hcell (locs hloc) h D.co D.gen D.kd)
theorem FIn.abs {O : Og} {L : Addr} {m : Str → Option Value} {S : Addr → Obj → Prop} {tr : List (Addr × Obj)} (I : FIn gB O L m S tr s) {G : Prop} (k : ∀ S', S = S' → FIn gB O L m S' tr s → G) : G := k S rfl I
theorem call_atQ (B : Base w.params mg mb gB) (W : Pre gB s) {f : Addr} (D : DefAt w.params f) (hcell : noCell f) {vals : List Value} (binds : List (Str × Value)) {Q : Value → Shared → Prop}
    (foot : List (Addr × Obj)) (hfoot : ∀ p ∈ foot, s.heap.get? p.1 = some p.2 ∧ gB.objs.size ≤ p.1) (hnd : (foot.map (·.1)).Nodup) (hroom : A.depth < recursionLimit)
    (hbind : bindArgs (fnAt f) ⟨vals, []⟩ = pure binds) (hloc : (binds.all fun x => decide ((fnAt f).scope.names.lookup x.1 = some .local)) = true)
    (h : ∀ (s₁ : Shared) (L : Addr) (Sf : Addr → Obj → Prop) (qx : Flow → Shared → Prop) (O : Og) (A' : Around), Froz L foot s = Sf → L = s.heap.objs.size → og s = O → A.deeper (envAt f L) = A' → FIn gB O L (fun x => binds.reverse.lookup x) Sf foot s₁ →
      (∀ fl s', (∃ m' S' tr', FIn gB O L m' S' tr' s' ∧ (∀ a o, Sf a o → S' a o)) ∧ (Post gB (foot.map (·.1)) s s' → Q (match fl with | .ret v => v | _ => .none) s') → qx fl s') →
      wpAny (model prog w) A' (execs (bodyAt f) (envAt f L)) qx (fun _ _ => False) s₁) :
    wpAny (model prog w) A (call (.ref f) vals) Q E s :=
  call_at B W D hcell binds foot hfoot hnd hroom hbind hloc fun s₁ L hL I => h s₁ L _ _ _ _ rfl hL rfl rfl I fun _ _ x => x
end
theorem at35 (P : Params) : DefAt P 35 := ⟨by kernel_rfl, by kernel_rfl, by kernel_rfl, by kernel_rfl, by kernel_rfl, by kernel_rfl⟩
theorem at42 (P : Params) : DefAt P 42 := ⟨by kernel_rfl, by kernel_rfl, by kernel_rfl, by kernel_rfl, by kernel_rfl, by kernel_rfl⟩
theorem at49 (P : Params) : DefAt P 49 := ⟨by kernel_rfl, by kernel_rfl, by kernel_rfl, by kernel_rfl, by kernel_rfl, by kernel_rfl⟩
theorem at56 (P : Params) : DefAt P 56 := ⟨by kernel_rfl, by kernel_rfl, by kernel_rfl, by kernel_rfl, by kernel_rfl, by kernel_rfl⟩
theorem at63 (P : Params) : DefAt P 63 := ⟨by kernel_rfl, by kernel_rfl, by kernel_rfl, by kernel_rfl, by kernel_rfl, by kernel_rfl⟩
theorem at70 (P : Params) : DefAt P 70 := ⟨by kernel_rfl, by kernel_rfl, by kernel_rfl, by kernel_rfl, by kernel_rfl, by kernel_rfl⟩
theorem at77 (P : Params) : DefAt P 77 := ⟨by kernel_rfl, by kernel_rfl, by kernel_rfl, by kernel_rfl, by kernel_rfl, by kernel_rfl⟩
theorem at98 (P : Params) : DefAt P 98 := ⟨by kernel_rfl, by kernel_rfl, by kernel_rfl, by kernel_rfl, by kernel_rfl, by kernel_rfl⟩
theorem at105 (P : Params) : DefAt P 105 := ⟨by kernel_rfl, by kernel_rfl, by kernel_rfl, by kernel_rfl, by kernel_rfl, by kernel_rfl⟩
theorem at175 (P : Params) : DefAt P 175 := ⟨by kernel_rfl, by kernel_rfl, by kernel_rfl, by kernel_rfl, by kernel_rfl, by kernel_rfl⟩
theorem at182 (P : Params) : DefAt P 182 := ⟨by kernel_rfl, by kernel_rfl, by kernel_rfl, by kernel_rfl, by kernel_rfl, by kernel_rfl⟩
theorem at189 (P : Params) : DefAt P 189 := ⟨by kernel_rfl, by kernel_rfl, by kernel_rfl, by kernel_rfl, by kernel_rfl, by kernel_rfl⟩
theorem at196 (P : Params) : DefAt P 196 := ⟨by kernel_rfl, by kernel_rfl, by kernel_rfl, by kernel_rfl, by kernel_rfl, by kernel_rfl⟩
theorem at210 (P : Params) : DefAt P 210 := ⟨by kernel_rfl, by kernel_rfl, by kernel_rfl, by kernel_rfl, by kernel_rfl, by kernel_rfl⟩
theorem f80_graph_left (P : Params) : fieldIn (KH P) 80 "_graph_left" = true := by kernel_rfl
theorem f80_reference_distance (P : Params) : fieldIn (KH P) 80 "_reference_distance" = true := by kernel_rfl
theorem f80_pair_left (P : Params) : fieldIn (KH P) 80 "_pair_left" = true := by kernel_rfl
theorem f80_pair_right (P : Params) : fieldIn (KH P) 80 "_pair_right" = true := by kernel_rfl
theorem f80_left (P : Params) : fieldIn (KH P) 80 "_left" = true := by kernel_rfl
theorem f80_dist_left (P : Params) : fieldIn (KH P) 80 "_dist_left" = true := by kernel_rfl
theorem f199_edges (P : Params) : fieldIn (KH P) 199 "_edges" = true := by kernel_rfl
theorem f199_left (P : Params) : fieldIn (KH P) 199 "_left" = true := by kernel_rfl
theorem f199_right (P : Params) : fieldIn (KH P) 199 "_right" = true := by kernel_rfl
theorem f199_graph (P : Params) : fieldIn (KH P) 199 "_graph" = true := by kernel_rfl
theorem m80_run_hopcroft_karp (P : Params) : methIn (KH P) 80 "_run_hopcroft_karp" 42 = true := by kernel_rfl
theorem m80get_maximum_matching (P : Params) : methIn (KH P) 80 "get_maximum_matching" 49 = true := by kernel_rfl
theorem m80get_maximum_matching_num (P : Params) : methIn (KH P) 80 "get_maximum_matching_num" 56 = true := by kernel_rfl
theorem m80_bfs_hopcroft_karp (P : Params) : methIn (KH P) 80 "_bfs_hopcroft_karp" 63 = true := by kernel_rfl
theorem m80_swap_lr (P : Params) : methIn (KH P) 80 "_swap_lr" 70 = true := by kernel_rfl
theorem m80_dfs_hopcroft_karp (P : Params) : methIn (KH P) 80 "_dfs_hopcroft_karp" 77 = true := by kernel_rfl
theorem m199_find_matching (P : Params) : methIn (KH P) 199 "find_matching" 175 = true := by kernel_rfl
theorem m199_without_nodes (P : Params) : methIn (KH P) 199 "without_nodes" 182 = true := by kernel_rfl
theorem m199_without_edge (P : Params) : methIn (KH P) 199 "without_edge" 189 = true := by kernel_rfl
theorem m199_limited_to (P : Params) : methIn (KH P) 199 "limited_to" 196 = true := by kernel_rfl
theorem gFAKE_INFINITY (P : Params) : nsIn (KH P) mainGlobals "FAKE_INFINITY" = some (some (.int (-1) 197)) := by kernel_rfl

theorem nc35 : noCell 35 := by unfold noCell; decide +kernel
theorem nc42 : noCell 42 := by unfold noCell; decide +kernel
theorem nc49 : noCell 49 := by unfold noCell; decide +kernel
theorem nc56 : noCell 56 := by unfold noCell; decide +kernel
theorem nc63 : noCell 63 := by unfold noCell; decide +kernel
theorem nc70 : noCell 70 := by unfold noCell; decide +kernel
theorem nc77 : noCell 77 := by unfold noCell; decide +kernel
theorem nc98 : noCell 98 := by unfold noCell; decide +kernel
theorem nc105 : noCell 105 := by unfold noCell; decide +kernel
theorem nc175 : noCell 175 := by unfold noCell; decide +kernel
theorem nc210 : noCell 210 := by unfold noCell; decide +kernel
theorem s80_graph_left (P : Params) : storeIn (KH P) 80 "_graph_left" = true := by kernel_rfl
theorem s80_reference_distance (P : Params) : storeIn (KH P) 80 "_reference_distance" = true := by kernel_rfl
theorem s80_pair_left (P : Params) : storeIn (KH P) 80 "_pair_left" = true := by kernel_rfl
theorem s80_pair_right (P : Params) : storeIn (KH P) 80 "_pair_right" = true := by kernel_rfl
theorem s80_left (P : Params) : storeIn (KH P) 80 "_left" = true := by kernel_rfl
theorem s80_dist_left (P : Params) : storeIn (KH P) 80 "_dist_left" = true := by kernel_rfl
theorem s199_edges (P : Params) : storeIn (KH P) 199 "_edges" = true := by kernel_rfl
theorem s199_left (P : Params) : storeIn (KH P) 199 "_left" = true := by kernel_rfl
theorem s199_right (P : Params) : storeIn (KH P) 199 "_right" = true := by kernel_rfl
theorem s199_graph (P : Params) : storeIn (KH P) 199 "_graph" = true := by kernel_rfl
theorem g_len (P : Params) : nsIn (KH P) mainGlobals "len" = some none := by kernel_rfl
theorem g_list (P : Params) : nsIn (KH P) mainGlobals "list" = some none := by kernel_rfl
theorem g_set (P : Params) : nsIn (KH P) mainGlobals "set" = some none := by kernel_rfl
theorem g_sorted (P : Params) : nsIn (KH P) mainGlobals "sorted" = some none := by kernel_rfl
theorem g_dict (P : Params) : nsIn (KH P) mainGlobals "dict" = some none := by kernel_rfl
theorem g_isinstance (P : Params) : nsIn (KH P) mainGlobals "isinstance" = some none := by kernel_rfl
theorem g_tuple (P : Params) : nsIn (KH P) mainGlobals "tuple" = some none := by kernel_rfl
theorem g_all (P : Params) : nsIn (KH P) mainGlobals "all" = some none := by kernel_rfl
end Mine
end
section
open PySem PySem.W PySem.Calls PyProof.Rows
namespace Mine
section
variable {prog : Program} {w : World} {mg mb : Str → Option Value} {gB : Heap} {A : Around} {E : Value → Shared → Prop} {s : Shared}

noncomputable abbrev mkC (C : Addr) (args : Args) : Code := .builtin "type.__call__" ⟨.ref C :: args.pos, args.kw⟩
theorem Room.making {d u : Nat} (R : Room A (d + 1) (u + 1)) (C : Addr) (args : Args) : Room (A.under (mkC C args)) d u :=
  ⟨R.hh, by
    have := R.dp
    show A.depth + Code.weight (mkC C args) + d < recursionLimit
    have : Code.weight (mkC C args) ≤ 1 := by
      show (0 + (if Code.isCreation (mkC C args) then 1 else 0) + (if Code.isGuard (mkC C args) then 1 else 0) + (if Code.isCaller (mkC C args) then _ else 0) : Nat) ≤ 1
      have h1 : Code.isGuard (mkC C args) = false := by show guardIds.contains "type.__call__" = false; decide +kernel
      have h2 : Code.isCaller (mkC C args) = false := rfl
      rw [h1, h2]
      split <;> simp
    omega, by
    have := R.un
    show A.units + Code.cUnits (mkC C args) + u < cLine
    have : Code.cUnits (mkC C args) = 1 := rfl
    omega⟩

structure ClassAt (P : Params) (C fI : Addr) : Prop where
  m : makesIn (KH P) C = true
  i : findIn (KH P) (.ref C) "__init__" = some (some (.ref fI))
  f : typeIn (KH P) (.ref fI) = some (.type "function")

theorem r_make (B : Base w.params mg mb gB) (W : Pre gB s) {C fI : Addr} (D : ClassAt w.params C fI) {args : Args} {Q : Value → Shared → Prop}
    (h : ∀ s₁ dx, dx = s.heap.objs.size → s₁ = { s with heap := (s.heap.push emptyDict).push (instObj C dx) } → Pre gB s₁ →
      codeAny (model prog w) (A.under (mkC C args)) (.call (.ref fI) ⟨.ref (dx + 1) :: args.pos, args.kw⟩) (fun r s' => match r with
        | .ok (.ret v) => v = .none ∧ Q (.ref (dx + 1)) s'
        | .ok _ => False
        | .error e => E e s') s₁) :
    wpAny (model prog w) A (call (.ref C) args.pos args.kw) Q E s := by
  have X := B.K W.wd
  obtain ⟨hh, g, d, t, os⟩ := s
  refine wpAny_call (make_core (makes_of X D.m) (looks_findIn X D.i) (fun self => bind_fn X self D.f) (.inl rfl) ?_)
  walk_at "q"
  have W' : Pre gB ⟨(hh.push emptyDict).push (instObj C hh.objs.size), g, d, t, os⟩ :=
    ⟨W.wd.keeps (fun b o e => Heap.get?_push_of_some _ (Heap.get?_push_of_some _ e)) (by
      rw [Heap.size_push, Heap.size_push]
      have := W.wd.sz
      exact Nat.le_succ_of_le (Nat.le_succ_of_le this)), W.bare⟩
  refine codeAny_mono (h _ hh.objs.size rfl rfl W') fun r s' z => ?_
  rcases r with e | (v | _ | _ | _) <;> exact z

theorem code_at (B : Base w.params mg mb gB) (W : Pre gB s) {f : Addr} (D : DefAt w.params f) (hcell : noCell f) {args : Args} (binds : List (Str × Value)) {Q : Value → Shared → Prop}
    (foot : List (Addr × Obj)) (hfoot : ∀ p ∈ foot, s.heap.get? p.1 = some p.2 ∧ gB.objs.size ≤ p.1) (hnd : (foot.map (·.1)).Nodup) (hroom : A.depth < recursionLimit)
    (hbind : BindsTo s (fnAt f) args binds) (hloc : (binds.all fun x => decide ((fnAt f).scope.names.lookup x.1 = some .local)) = true)
    (h : ∀ s₁ L, L = s.heap.objs.size → FIn gB (og s) L (fun x => binds.reverse.lookup x) (Froz L foot s) foot s₁ →
      wpAny (model prog w) (A.deeper (envAt f L)) (execs (bodyAt f) (envAt f L)) (fun fl s' => (∃ m' S' tr', FIn gB (og s) L m' S' tr' s' ∧ (∀ a o, Froz L foot s a o → S' a o)) ∧
        (Post gB (foot.map (·.1)) s s' → Q (match fl with | .ret v => v | _ => .none) s')) (fun _ _ => False) s₁) :
    codeAny (model prog w) A (.call (.ref f) args) (fun r s' => match r with | .ok (.ret v) => Q v s' | .ok _ => False | .error e => E e s') s :=
  call_fn B W foot hfoot hnd D.k D.b D.c hroom hbind hcell (locs hloc) h D.co D.gen D.kd
theorem code_atQ (B : Base w.params mg mb gB) (W : Pre gB s) {f : Addr} (D : DefAt w.params f) (hcell : noCell f) {args : Args} (binds : List (Str × Value)) {Q : Value → Shared → Prop}
    (foot : List (Addr × Obj)) (hfoot : ∀ p ∈ foot, s.heap.get? p.1 = some p.2 ∧ gB.objs.size ≤ p.1) (hnd : (foot.map (·.1)).Nodup) (hroom : A.depth < recursionLimit)
    (hbind : BindsTo s (fnAt f) args binds) (hloc : (binds.all fun x => decide ((fnAt f).scope.names.lookup x.1 = some .local)) = true)
    (h : ∀ (s₁ : Shared) (L : Addr) (Sf : Addr → Obj → Prop) (qx : Flow → Shared → Prop) (O : Og) (A' : Around), Froz L foot s = Sf → L = s.heap.objs.size → og s = O → A.deeper (envAt f L) = A' → FIn gB O L (fun x => binds.reverse.lookup x) Sf foot s₁ →
      (∀ fl s', (∃ m' S' tr', FIn gB O L m' S' tr' s' ∧ (∀ a o, Sf a o → S' a o)) ∧ (Post gB (foot.map (·.1)) s s' → Q (match fl with | .ret v => v | _ => .none) s') → qx fl s') →
      wpAny (model prog w) A' (execs (bodyAt f) (envAt f L)) qx (fun _ _ => False) s₁) :
    codeAny (model prog w) A (.call (.ref f) args) (fun r s' => match r with | .ok (.ret v) => Q v s' | .ok _ => False | .error e => E e s') s :=
  code_at B W D hcell binds foot hfoot hnd hroom hbind hloc fun s₁ L hL I => h s₁ L _ _ _ _ rfl hL rfl rfl I fun _ _ x => x
theorem cl80 (P : Params) : ClassAt P 80 35 := ⟨by kernel_rfl, by kernel_rfl, by kernel_rfl⟩
theorem cl199 (P : Params) : ClassAt P 199 98 := ⟨by kernel_rfl, by kernel_rfl, by kernel_rfl⟩
end
end Mine
end
section
open PySem PySem.W PySem.Calls PyProof.Rows
open Sem (wp)
namespace Mine
noncomputable def RawD (S : Addr → Obj → Prop) (d : Addr) (es : Array DictEntry) (ep : Nat) : Prop := ∃ od, S d od ∧ od.cls = .type "dict" ∧ od.data = .dict es ep

namespace F
theorem slot_keys_iter : Slot "dict_keys" "__iter__" "dict_keys.__iter__" :=
  .of (owner := "dict_keys") (n := "__iter__") (by rw [typeLookup_type, builtinLookup_eq_fast]; kernel_rfl) (by decide +kernel) (by decide +kernel) (by decide +kernel) (.inl (by decide +kernel)) (by rw [isSubtype_type]; kernel_rfl)
theorem entry_keys_iter : entryFor table "dict_keys.__iter__" = some Builtin.«dict_keys.__iter__» := entryFor_of_tree (by kernel_rfl)
theorem args_keys_iter (a : Value) : argsOk "dict_keys.__iter__" ⟨[a], []⟩ := by unfold argsOk; kernel_rfl
end F

section
variable {prog : Program} {w : World} {gB : Heap} {O : Og} {L : Addr} {m : Str → Option Value} {S : Addr → Obj → Prop} {tr : List (Addr × Obj)} {s : Shared} {A : Around} {E : Value → Shared → Prop} {env : Env} {mg mb : Str → Option Value}
variable {d v it : Addr} {od ov io : Obj} {es : Array DictEntry} {ep : Nat}

noncomputable abbrev viewObj (ty : String) (d : Addr) : Obj := { cls := .type ty, data := .fields #[.ref d] }
noncomputable abbrev iterObj (ty : String) (d : Addr) (i n ep : Nat) : Obj := { cls := .type ty, data := .fields #[.ref d, .int i 0, .int n 0, .int ep 0] }

theorem r_keys {Q : Value → Shared → Prop} (I : FIn gB O L m S tr s) (hd : s.heap.get? d = some od) (hc : od.cls = .type "dict") (hn : gB.objs.size ≤ d)
    (h : ∀ a s', a = s.heap.objs.size → FIn gB O L m S ((a, viewObj "dict_keys" d) :: tr) s' → Q (.ref a) s') : wpAny (model prog w) A (call (.builtin "dict.keys") [.ref d]) Q E s := by
  have hT : s.TypeIs (.ref d) "dict" := ⟨od, hd, hc⟩
  refine wpAny_call_entry PySem.F.slot_dict_keys hT PySem.F.entry_dict_keys ?_ (PySem.F.args_dict_keys_1 _)
  refine wpAny_bind ?_
  walk_at "q"
  unfold Builtin.Dict.noArgs
  refine wpAny_bind (wpAny_notOrdered_dict hT ?_)
  walk_at "q"
  show wpAny _ _ (pure d) _ _ s
  refine wpAny_pure ?_
  walk_at "q"
  show wpAny _ _ (Builtin.Dict.showsAll d >>= _) _ _ s
  unfold Builtin.Dict.showsAll
  first | refine wifF (by rw [I.wd.notMod hn]; exact Bool.false_ne_true) ?_ | refine ifF (by rw [I.wd.notMod hn]; exact Bool.false_ne_true) ?_ | rw [if_neg (by rw [I.wd.notMod hn]; exact Bool.false_ne_true)]
  refine wpAny_bind (wpAny_pure ?_)
  walk_at "q"
  exact wpAny_bind (wpAny_newObj_type (wpAny_pure ⟨_, rfl, h _ _ rfl (I.push _ s.toks)⟩))

theorem r_values {Q : Value → Shared → Prop} (I : FIn gB O L m S tr s) (hd : s.heap.get? d = some od) (hc : od.cls = .type "dict") (hn : gB.objs.size ≤ d)
    (h : ∀ a s', a = s.heap.objs.size → FIn gB O L m S ((a, viewObj "dict_values" d) :: tr) s' → Q (.ref a) s') : wpAny (model prog w) A (call (.builtin "dict.values") [.ref d]) Q E s := by
  have hT : s.TypeIs (.ref d) "dict" := ⟨od, hd, hc⟩
  refine wpAny_call_entry PySem.F.slot_dict_values hT PySem.F.entry_dict_values ?_ (PySem.F.args_dict_values_1 _)
  refine wpAny_bind ?_
  walk_at "q"
  unfold Builtin.Dict.noArgs
  refine wpAny_bind (wpAny_notOrdered_dict hT ?_)
  walk_at "q"
  show wpAny _ _ (pure d) _ _ s
  refine wpAny_pure ?_
  walk_at "q"
  show wpAny _ _ (Builtin.Dict.showsAll d >>= _) _ _ s
  unfold Builtin.Dict.showsAll
  first | refine wifF (by rw [I.wd.notMod hn]; exact Bool.false_ne_true) ?_ | refine ifF (by rw [I.wd.notMod hn]; exact Bool.false_ne_true) ?_ | rw [if_neg (by rw [I.wd.notMod hn]; exact Bool.false_ne_true)]
  refine wpAny_bind (wpAny_pure ?_)
  walk_at "q"
  exact wpAny_bind (wpAny_newObj_type (wpAny_pure ⟨_, rfl, h _ _ rfl (I.push _ s.toks)⟩))

theorem r_items {Q : Value → Shared → Prop} (I : FIn gB O L m S tr s) (hd : s.heap.get? d = some od) (hc : od.cls = .type "dict") (hn : gB.objs.size ≤ d)
    (h : ∀ a s', a = s.heap.objs.size → FIn gB O L m S ((a, viewObj "dict_items" d) :: tr) s' → Q (.ref a) s') : wpAny (model prog w) A (call (.builtin "dict.items") [.ref d]) Q E s := by
  have hT : s.TypeIs (.ref d) "dict" := ⟨od, hd, hc⟩
  refine wpAny_call_entry PySem.F.slot_dict_items hT PySem.F.entry_dict_items ?_ (PySem.F.args_dict_items_1 _)
  refine wpAny_bind ?_
  walk_at "q"
  unfold Builtin.Dict.noArgs
  refine wpAny_bind (wpAny_notOrdered_dict hT ?_)
  walk_at "q"
  show wpAny _ _ (pure d) _ _ s
  refine wpAny_pure ?_
  walk_at "q"
  show wpAny _ _ (Builtin.Dict.showsAll d >>= _) _ _ s
  unfold Builtin.Dict.showsAll
  first | refine wifF (by rw [I.wd.notMod hn]; exact Bool.false_ne_true) ?_ | refine ifF (by rw [I.wd.notMod hn]; exact Bool.false_ne_true) ?_ | rw [if_neg (by rw [I.wd.notMod hn]; exact Bool.false_ne_true)]
  refine wpAny_bind (wpAny_pure ?_)
  walk_at "q"
  exact wpAny_bind (wpAny_newObj_type (wpAny_pure ⟨_, rfl, h _ _ rfl (I.push _ s.toks)⟩))

theorem iter_keys {Q : Value → Shared → Prop} (I : FIn gB O L m S tr s) (hv : s.heap.get? v = some (viewObj "dict_keys" d)) (hd : s.heap.get? d = some od) (hdat : od.data = .dict es ep)
    (h : ∀ a s', a = s.heap.objs.size → FIn gB O L m S ((a, iterObj "dict_keyiterator" d 0 es.size ep) :: tr) s' → Q (.ref a) s') : wpAny (model prog w) A (pyIter (.ref v)) Q E s := by
  have hT : s.TypeIs (.ref v) "dict_keys" := ⟨_, hv, rfl⟩
  refine wpAny_pyIter_slot hT F.slot_keys_iter (wpAny_call_entry F.slot_keys_iter hT F.entry_keys_iter ?_ (F.args_keys_iter _))
  unfold Builtin.«dict_keys.__iter__»
  refine wpAny_bind (wpAny_pure ?_)
  walk_at "q"
  refine wpAny_bind ?_
  walk_at "q"
  unfold Builtin.Dict_items.dictOf
  refine wpAny_bind (wpAny_field hv rfl (x := .ref d) rfl (wpAny_pure ?_))
  walk_at "q"
  refine wpAny_bind ?_
  walk_at "q"
  unfold Builtin.Dict_items.newIterator
  refine wpAny_bind (wpAny_dictEntries hd hdat ?_)
  walk_at "q"
  refine wpAny_bind (wpAny_dictEpoch hd hdat ?_)
  walk_at "q"
  have hown : Builtin.Dict_items.ownsTuple "dict_keyiterator" = false := by decide
  simp only [hown, Bool.false_eq_true, if_false]
  exact wpAny_newObj_type (wpAny_pure ⟨_, rfl, "dict_keyiterator", _, ⟨_, Heap.get?_push_size _ rfl, rfl⟩, PySem.F.slot_dict_keyiterator_next.lookup, h _ _ rfl (I.push _ s.toks)⟩)

theorem iter_values {Q : Value → Shared → Prop} (I : FIn gB O L m S tr s) (hv : s.heap.get? v = some (viewObj "dict_values" d)) (hd : s.heap.get? d = some od) (hdat : od.data = .dict es ep)
    (h : ∀ a s', a = s.heap.objs.size → FIn gB O L m S ((a, iterObj "dict_valueiterator" d 0 es.size ep) :: tr) s' → Q (.ref a) s') : wpAny (model prog w) A (pyIter (.ref v)) Q E s := by
  have hT : s.TypeIs (.ref v) "dict_values" := ⟨_, hv, rfl⟩
  refine wpAny_pyIter_slot hT PySem.F.slot_dict_values_iter (wpAny_call_entry PySem.F.slot_dict_values_iter hT PySem.F.entry_dict_values_iter ?_ (PySem.F.args_dict_values_iter_1 _))
  unfold Builtin.«dict_values.__iter__»
  refine wpAny_bind (wpAny_pure ?_)
  walk_at "q"
  refine wpAny_bind ?_
  walk_at "q"
  unfold Builtin.Dict_items.dictOf
  refine wpAny_bind (wpAny_field hv rfl (x := .ref d) rfl (wpAny_pure ?_))
  walk_at "q"
  refine wpAny_bind ?_
  walk_at "q"
  unfold Builtin.Dict_items.newIterator
  refine wpAny_bind (wpAny_dictEntries hd hdat ?_)
  walk_at "q"
  refine wpAny_bind (wpAny_dictEpoch hd hdat ?_)
  walk_at "q"
  have hown : Builtin.Dict_items.ownsTuple "dict_valueiterator" = false := by decide
  simp only [hown, Bool.false_eq_true, if_false]
  exact wpAny_newObj_type (wpAny_pure ⟨_, rfl, "dict_valueiterator", _, ⟨_, Heap.get?_push_size _ rfl, rfl⟩, PySem.F.slot_dict_valueiterator_next.lookup, h _ _ rfl (I.push _ s.toks)⟩)

theorem iter_dict {Q : Value → Shared → Prop} (I : FIn gB O L m S tr s) (hd : s.heap.get? d = some od) (hc : od.cls = .type "dict") (hdat : od.data = .dict es ep) (hn : gB.objs.size ≤ d)
    (h : ∀ a s', a = s.heap.objs.size → FIn gB O L m S ((a, iterObj "dict_keyiterator" d 0 es.size ep) :: tr) s' → Q (.ref a) s') : wpAny (model prog w) A (pyIter (.ref d)) Q E s := by
  have hT : s.TypeIs (.ref d) "dict" := ⟨od, hd, hc⟩
  refine wpAny_pyIter_slot hT PySem.F.slot_dict_iter (wpAny_call_entry PySem.F.slot_dict_iter hT PySem.F.entry_dict_iter ?_ (PySem.F.args_dict_iter_1 _))
  unfold Builtin.«dict.__iter__»
  refine wpAny_bind ?_
  walk_at "q"
  unfold Builtin.Dict.dictSlotNone
  refine wpAny_bind (wpAny_notOrdered_dict hT ?_)
  walk_at "q"
  show wpAny _ _ (pure (Value.ref d)) _ _ s
  refine wpAny_pure ?_
  walk_at "q"
  show wpAny _ _ (Builtin.Dict.showsAll d >>= _) _ _ s
  unfold Builtin.Dict.showsAll
  first | refine wifF (by rw [I.wd.notMod hn]; exact Bool.false_ne_true) ?_ | refine ifF (by rw [I.wd.notMod hn]; exact Bool.false_ne_true) ?_ | rw [if_neg (by rw [I.wd.notMod hn]; exact Bool.false_ne_true)]
  refine wpAny_bind (wpAny_pure ?_)
  walk_at "q"
  refine wpAny_bind (wpAny_dictEntries hd hdat ?_)
  walk_at "q"
  refine wpAny_bind (wpAny_dictEpoch hd hdat ?_)
  walk_at "q"
  exact wpAny_bind (wpAny_newObj_type (wpAny_pure ⟨_, rfl, "dict_keyiterator", _, ⟨_, Heap.get?_push_size _ rfl, rfl⟩, PySem.F.slot_dict_keyiterator_next.lookup, h _ _ rfl (I.push _ s.toks)⟩))

noncomputable def KIt (d : Addr) (n ep : Nat) (k : Nat) (io : Obj) : Prop := io.cls = .type "dict_keyiterator" ∧ io.data = .fields #[.ref d, .int k 0, .int n 0, .int ep 0]

theorem K_item {k : Nat} {Q : Option Value → Shared → Prop} (hi : s.heap.get? it = some io) (hI : KIt d es.size ep k io) (hod : s.heap.get? d = some od) (hdd : od.data = .dict es ep) (hlt : k < es.size)
    (hQ : ∀ h' io', h'.get? it = some io' → KIt d es.size ep (k + 1) io' → Heap.SameBut it s.heap h' → Q (some ((es[k]?.map (·.key)).getD .none)) { s with heap := h' }) : wpAny (model prog w) A (pyNext (.ref it)) Q E s := by
  refine xa0_2 (hI) fun hc hd => ?_
  have hT : s.TypeIs (.ref it) "dict_keyiterator" := ⟨io, hi, hc⟩
  unfold pyNext
  refine wpAny_bind (wpAny_attempt (wpAny_callSpecial?_slot (name := Str.ofString "__next__") hT PySem.F.slot_dict_keyiterator_next
    (wpAny_call_entry PySem.F.slot_dict_keyiterator_next hT PySem.F.entry_dict_keyiterator_next ?_ (PySem.F.args_dict_keyiterator_next_1 _))))
  refine wpAny_bind (wpAny_pure (wpAny_bind (wpAny_bind (wpAny_bind (wpAny_typeNameOfWhole_keyiter hT (wpAny_pure (wpAny_bind (wpAny_fieldsOf hi hd ?_))))))))
  walk_at "q"
  have hown : Builtin.Dict_items.ownsTuple "dict_keyiterator" = false := by decide
  simp only [hown, Bool.false_eq_true, if_false]
  show wpAny _ _ (if (Value.ref d == Value.none) = true then _ else _) _ _ s
  first | refine wifF (show ¬ ((Value.ref d == Value.none) = true) from Bool.false_ne_true) ?_ | refine ifF (show ¬ ((Value.ref d == Value.none) = true) from Bool.false_ne_true) ?_ | rw [if_neg (show ¬ ((Value.ref d == Value.none) = true) from Bool.false_ne_true)]
  refine wpAny_bind (wpAny_pure (wpAny_bind (wpAny_dictEntries hod hdd ?_)))
  walk_at "q"
  first | refine wifF Bool.false_ne_true ?_ | refine wifF (by simp) ?_ | refine ifF (by simp) ?_ | rw [if_neg (by simp)]
  refine wpAny_bind (wpAny_pure (wpAny_bind (wpAny_dictEpoch hod hdd ?_)))
  walk_at "q"
  first | refine wifF Bool.false_ne_true ?_ | refine wifF (by simp) ?_ | refine ifF (by simp) ?_ | rw [if_neg (by simp)]
  refine wpAny_pure ?_
  walk_at "q"
  simp only [show ¬ ((k : Int) < 0) from by omega, if_false, Int.toNat_natCast, Array.getElem?_eq_getElem hlt]
  refine wpAny_bind (wpAny_bind (wpAny_typeNameOfWhole_keyiter hT (wpAny_pure (wpAny_bind (wpAny_isOneOf_keyiter hT ?_)))))
  walk_at "q"
  show wpAny _ _ (setField (.ref it) 1 (rawInt ((k : Int) + 1)) >>= _) _ _ s
  refine wpAny_bind (wpAny_setField hi hd (by simp) ?_)
  walk_at "q"
  have hg := Heap.get?_update_self (h := s.heap) (Obj.mapFields (·.setIfInBounds 1 (rawInt ((k : Int) + 1)))) hi (Obj.isFreed_of_fields (Obj.data_mapFields hd _))
  have hI' : KIt d es.size ep (k + 1) (Obj.mapFields (·.setIfInBounds 1 (rawInt ((k : Int) + 1))) io) := ⟨(Obj.cls_mapFields ..).trans hc, by rw [Obj.data_mapFields hd]; simp [rawInt]⟩
  have hT' : Shared.TypeIs { s with heap := s.heap.update it (Obj.mapFields (·.setIfInBounds 1 (rawInt ((k : Int) + 1)))) } (.ref it) "dict_keyiterator" := ⟨_, hg, hI'.1⟩
  refine wpAny_bind (wpAny_holding (wpAny_bind (wpAny_isOneOf_keyiter hT' ?_)))
  walk_at "q"
  
  show wpAny _ _ (pure es[k].key) _ _ _
  exact wpAny_pure (wpAny_pure ⟨_, rfl, wpAny_pure (by
    have := hQ _ _ hg hI' (Heap.SameBut.update ..)
    rwa [Array.getElem?_eq_getElem hlt] at this)⟩)

theorem K_end {k : Nat} {Q : Option Value → Shared → Prop} (hh : A.handled = none) (hi : s.heap.get? it = some io) (hI : KIt d es.size ep k io) (hod : s.heap.get? d = some od) (hdd : od.data = .dict es ep) (hge : es.size ≤ k)
    (hQ : ∀ h', Heap.ExtBut it s.heap h' → Q none { s with heap := h' }) : wpAny (model prog w) A (pyNext (.ref it)) Q E s := by
  refine xa0_2 (hI) fun hc hd => ?_
  have hT : s.TypeIs (.ref it) "dict_keyiterator" := ⟨io, hi, hc⟩
  unfold pyNext
  refine wpAny_bind (wpAny_attempt (wpAny_callSpecial?_slot (name := Str.ofString "__next__") hT PySem.F.slot_dict_keyiterator_next
    (wpAny_call_entry PySem.F.slot_dict_keyiterator_next hT PySem.F.entry_dict_keyiterator_next ?_ (PySem.F.args_dict_keyiterator_next_1 _))))
  refine wpAny_bind (wpAny_pure (wpAny_bind (wpAny_bind (wpAny_bind (wpAny_typeNameOfWhole_keyiter hT (wpAny_pure (wpAny_bind (wpAny_fieldsOf hi hd ?_))))))))
  walk_at "q"
  have hown : Builtin.Dict_items.ownsTuple "dict_keyiterator" = false := by decide
  simp only [hown, Bool.false_eq_true, if_false]
  show wpAny _ _ (if (Value.ref d == Value.none) = true then _ else _) _ _ s
  first | refine wifF (show ¬ ((Value.ref d == Value.none) = true) from Bool.false_ne_true) ?_ | refine ifF (show ¬ ((Value.ref d == Value.none) = true) from Bool.false_ne_true) ?_ | rw [if_neg (show ¬ ((Value.ref d == Value.none) = true) from Bool.false_ne_true)]
  refine wpAny_bind (wpAny_pure (wpAny_bind (wpAny_dictEntries hod hdd ?_)))
  walk_at "q"
  first | refine wifF Bool.false_ne_true ?_ | refine wifF (by simp) ?_ | refine ifF (by simp) ?_ | rw [if_neg (by simp)]
  refine wpAny_bind (wpAny_pure (wpAny_bind (wpAny_dictEpoch hod hdd ?_)))
  walk_at "q"
  first | refine wifF Bool.false_ne_true ?_ | refine wifF (by simp) ?_ | refine ifF (by simp) ?_ | rw [if_neg (by simp)]
  refine wpAny_pure ?_
  walk_at "q"
  simp only [show ¬ ((k : Int) < 0) from by omega, if_false, Int.toNat_natCast, Array.getElem?_eq_none hge]
  refine wpAny_bind (wpAny_bind (wpAny_typeNameOfWhole_keyiter hT (wpAny_pure ?_)))
  walk_at "q"
  show wpAny _ _ (setField (.ref it) 0 .none >>= _) _ _ s
  refine wpAny_bind (wpAny_setField hi hd (by simp) ?_)
  walk_at "q"
  show wpAny _ _ (newExc (.type "StopIteration") [] >>= _) _ _ _
  refine wpAny_bind ?_
  walk_at "q"
  simp only [newExc, newTuple]
  refine wpAny_bind (wpAny_newObj_type ?_ (by size_fits))
  refine wpAny_bind (m := firstArgMember _ _) (wpAny_of_eq (a := Value.none) (by first | rfl | (simp only [firstArgMember]; rfl)) ?_)
  walk_at "q"
  refine wpAny_newObj_type ?_ (by size_fits)
  simp only [raiseNew]
  refine wpAny_bind (wpAny_handled ?_)
  walk_at "q"
  rw [show A.in1.handled = none from hh]
  refine wpAny_bind (wpAny_pure (wpAny_throw ?_))
  walk_at "q"
  refine wpAny_bind (wpAny_isInstance (T := "StopIteration") (b := true) ⟨_, Heap.get?_push_size _ rfl, rfl⟩ isSubtype_stop ?_)
  refine wpAny_pure ?_
  walk_at "q"
  exact hQ _ (((Heap.SameBut.update ..).extBut.push _).push _)

theorem KIter : Iter prog w gB it es.size (fun k => ((es[k]?.map (·.key)).getD .none)) (KIt d es.size ep) (fun S => RawD S d es ep) where
  next := fun {A O L m S tr s E io k Q} hk I hP hS h => by
    refine xa1_3 (hS) fun od h1 h2 h3 => ?_
    exact K_item (I.tk _ (.head _)).1 hP (I.get h1) h3 hk fun h' io' hi' hI' hs => h io' _ hI' (FIn.turn (i := 0) (tk := s.toks) I rfl hs hi')
  stop := fun {A O L m S tr s E io Q} hh I hP hS h => by
    refine xa1_3 (hS) fun od h1 h2 h3 => ?_
    exact K_end hh (I.tk _ (.head _)).1 hP (I.get h1) h3 (Nat.le_refl _) fun h' hs => h _ (I.waste hs)
  go := fun {A O L m S tr s E io k Q} target v I hP h => go_plain (I.tk _ (.head _)).1 hP.1 (by decide) h

noncomputable def VIt (d : Addr) (n ep : Nat) (k : Nat) (io : Obj) : Prop := io.cls = .type "dict_valueiterator" ∧ io.data = .fields #[.ref d, .int k 0, .int n 0, .int ep 0]

theorem V_item {k : Nat} {Q : Option Value → Shared → Prop} (hi : s.heap.get? it = some io) (hI : VIt d es.size ep k io) (hod : s.heap.get? d = some od) (hdd : od.data = .dict es ep) (hlt : k < es.size)
    (hQ : ∀ h' io', h'.get? it = some io' → VIt d es.size ep (k + 1) io' → Heap.SameBut it s.heap h' → Q (some ((es[k]?.map (·.val)).getD .none)) { s with heap := h' }) : wpAny (model prog w) A (pyNext (.ref it)) Q E s := by
  refine xa0_2 (hI) fun hc hd => ?_
  have hT : s.TypeIs (.ref it) "dict_valueiterator" := ⟨io, hi, hc⟩
  unfold pyNext
  refine wpAny_bind (wpAny_attempt (wpAny_callSpecial?_slot (name := Str.ofString "__next__") hT PySem.F.slot_dict_valueiterator_next
    (wpAny_call_entry PySem.F.slot_dict_valueiterator_next hT PySem.F.entry_dict_valueiterator_next ?_ (PySem.F.args_dict_valueiterator_next_1 _))))
  refine wpAny_bind (wpAny_pure (wpAny_bind (wpAny_bind (wpAny_bind (wpAny_typeNameOfWhole_valiter hT (wpAny_pure (wpAny_bind (wpAny_fieldsOf hi hd ?_))))))))
  walk_at "q"
  have hown : Builtin.Dict_items.ownsTuple "dict_valueiterator" = false := by decide
  simp only [hown, Bool.false_eq_true, if_false]
  show wpAny _ _ (if (Value.ref d == Value.none) = true then _ else _) _ _ s
  first | refine wifF (show ¬ ((Value.ref d == Value.none) = true) from Bool.false_ne_true) ?_ | refine ifF (show ¬ ((Value.ref d == Value.none) = true) from Bool.false_ne_true) ?_ | rw [if_neg (show ¬ ((Value.ref d == Value.none) = true) from Bool.false_ne_true)]
  refine wpAny_bind (wpAny_pure (wpAny_bind (wpAny_dictEntries hod hdd ?_)))
  walk_at "q"
  first | refine wifF Bool.false_ne_true ?_ | refine wifF (by simp) ?_ | refine ifF (by simp) ?_ | rw [if_neg (by simp)]
  refine wpAny_bind (wpAny_pure (wpAny_bind (wpAny_dictEpoch hod hdd ?_)))
  walk_at "q"
  first | refine wifF Bool.false_ne_true ?_ | refine wifF (by simp) ?_ | refine ifF (by simp) ?_ | rw [if_neg (by simp)]
  refine wpAny_pure ?_
  walk_at "q"
  simp only [show ¬ ((k : Int) < 0) from by omega, if_false, Int.toNat_natCast, Array.getElem?_eq_getElem hlt]
  refine wpAny_bind (wpAny_bind (wpAny_typeNameOfWhole_valiter hT (wpAny_pure (wpAny_bind (wpAny_isOneOf_valiter hT ?_)))))
  walk_at "q"
  show wpAny _ _ (setField (.ref it) 1 (rawInt ((k : Int) + 1)) >>= _) _ _ s
  refine wpAny_bind (wpAny_setField hi hd (by simp) ?_)
  walk_at "q"
  have hg := Heap.get?_update_self (h := s.heap) (Obj.mapFields (·.setIfInBounds 1 (rawInt ((k : Int) + 1)))) hi (Obj.isFreed_of_fields (Obj.data_mapFields hd _))
  have hI' : VIt d es.size ep (k + 1) (Obj.mapFields (·.setIfInBounds 1 (rawInt ((k : Int) + 1))) io) := ⟨(Obj.cls_mapFields ..).trans hc, by rw [Obj.data_mapFields hd]; simp [rawInt]⟩
  have hT' : Shared.TypeIs { s with heap := s.heap.update it (Obj.mapFields (·.setIfInBounds 1 (rawInt ((k : Int) + 1)))) } (.ref it) "dict_valueiterator" := ⟨_, hg, hI'.1⟩
  refine wpAny_bind (wpAny_holding (wpAny_bind (wpAny_isOneOf_valiter hT' ?_)))
  walk_at "q"
  refine wpAny_bind (wpAny_isOneOf_valiter hT' ?_)
  walk_at "q"
  show wpAny _ _ (pure es[k].val) _ _ _
  exact wpAny_pure (wpAny_pure ⟨_, rfl, wpAny_pure (by
    have := hQ _ _ hg hI' (Heap.SameBut.update ..)
    rwa [Array.getElem?_eq_getElem hlt] at this)⟩)

theorem V_end {k : Nat} {Q : Option Value → Shared → Prop} (hh : A.handled = none) (hi : s.heap.get? it = some io) (hI : VIt d es.size ep k io) (hod : s.heap.get? d = some od) (hdd : od.data = .dict es ep) (hge : es.size ≤ k)
    (hQ : ∀ h', Heap.ExtBut it s.heap h' → Q none { s with heap := h' }) : wpAny (model prog w) A (pyNext (.ref it)) Q E s := by
  refine xa0_2 (hI) fun hc hd => ?_
  have hT : s.TypeIs (.ref it) "dict_valueiterator" := ⟨io, hi, hc⟩
  unfold pyNext
  refine wpAny_bind (wpAny_attempt (wpAny_callSpecial?_slot (name := Str.ofString "__next__") hT PySem.F.slot_dict_valueiterator_next
    (wpAny_call_entry PySem.F.slot_dict_valueiterator_next hT PySem.F.entry_dict_valueiterator_next ?_ (PySem.F.args_dict_valueiterator_next_1 _))))
  refine wpAny_bind (wpAny_pure (wpAny_bind (wpAny_bind (wpAny_bind (wpAny_typeNameOfWhole_valiter hT (wpAny_pure (wpAny_bind (wpAny_fieldsOf hi hd ?_))))))))
  walk_at "q"
  have hown : Builtin.Dict_items.ownsTuple "dict_valueiterator" = false := by decide
  simp only [hown, Bool.false_eq_true, if_false]
  show wpAny _ _ (if (Value.ref d == Value.none) = true then _ else _) _ _ s
  first | refine wifF (show ¬ ((Value.ref d == Value.none) = true) from Bool.false_ne_true) ?_ | refine ifF (show ¬ ((Value.ref d == Value.none) = true) from Bool.false_ne_true) ?_ | rw [if_neg (show ¬ ((Value.ref d == Value.none) = true) from Bool.false_ne_true)]
  refine wpAny_bind (wpAny_pure (wpAny_bind (wpAny_dictEntries hod hdd ?_)))
  walk_at "q"
  first | refine wifF Bool.false_ne_true ?_ | refine wifF (by simp) ?_ | refine ifF (by simp) ?_ | rw [if_neg (by simp)]
  refine wpAny_bind (wpAny_pure (wpAny_bind (wpAny_dictEpoch hod hdd ?_)))
  walk_at "q"
  first | refine wifF Bool.false_ne_true ?_ | refine wifF (by simp) ?_ | refine ifF (by simp) ?_ | rw [if_neg (by simp)]
  refine wpAny_pure ?_
  walk_at "q"
  simp only [show ¬ ((k : Int) < 0) from by omega, if_false, Int.toNat_natCast, Array.getElem?_eq_none hge]
  refine wpAny_bind (wpAny_bind (wpAny_typeNameOfWhole_valiter hT (wpAny_pure ?_)))
  walk_at "q"
  show wpAny _ _ (setField (.ref it) 0 .none >>= _) _ _ s
  refine wpAny_bind (wpAny_setField hi hd (by simp) ?_)
  walk_at "q"
  show wpAny _ _ (newExc (.type "StopIteration") [] >>= _) _ _ _
  refine wpAny_bind ?_
  walk_at "q"
  simp only [newExc, newTuple]
  refine wpAny_bind (wpAny_newObj_type ?_ (by size_fits))
  refine wpAny_bind (m := firstArgMember _ _) (wpAny_of_eq (a := Value.none) (by first | rfl | (simp only [firstArgMember]; rfl)) ?_)
  walk_at "q"
  refine wpAny_newObj_type ?_ (by size_fits)
  simp only [raiseNew]
  refine wpAny_bind (wpAny_handled ?_)
  walk_at "q"
  rw [show A.in1.handled = none from hh]
  refine wpAny_bind (wpAny_pure (wpAny_throw ?_))
  walk_at "q"
  refine wpAny_bind (wpAny_isInstance (T := "StopIteration") (b := true) ⟨_, Heap.get?_push_size _ rfl, rfl⟩ isSubtype_stop ?_)
  refine wpAny_pure ?_
  walk_at "q"
  exact hQ _ (((Heap.SameBut.update ..).extBut.push _).push _)

theorem VIter : Iter prog w gB it es.size (fun k => ((es[k]?.map (·.val)).getD .none)) (VIt d es.size ep) (fun S => RawD S d es ep) where
  next := fun {A O L m S tr s E io k Q} hk I hP hS h => by
    refine xa1_3 (hS) fun od h1 h2 h3 => ?_
    exact V_item (I.tk _ (.head _)).1 hP (I.get h1) h3 hk fun h' io' hi' hI' hs => h io' _ hI' (FIn.turn (i := 0) (tk := s.toks) I rfl hs hi')
  stop := fun {A O L m S tr s E io Q} hh I hP hS h => by
    refine xa1_3 (hS) fun od h1 h2 h3 => ?_
    exact V_end hh (I.tk _ (.head _)).1 hP (I.get h1) h3 (Nat.le_refl _) fun h' hs => h _ (I.waste hs)
  go := fun {A O L m S tr s E io k Q} target v I hP h => go_plain (I.tk _ (.head _)).1 hP.1 (by decide) h
end
end Mine
end
section
open PySem PySem.W PySem.Calls PyProof.Rows
open Sem (wp)
namespace Mine
section
variable {prog : Program} {w : World} {gB : Heap} {O : Og} {L : Addr} {m : Str → Option Value} {S : Addr → Obj → Prop} {tr : List (Addr × Obj)} {s : Shared} {A : Around} {E : Value → Shared → Prop} {env : Env} {mg mb : Str → Option Value}
variable {d v it : Addr} {od ov io : Obj} {es : Array DictEntry} {ep : Nat}

theorem FIn.seq {i n : Nat} {q : Addr} {items : List Value} (I : FIn gB O L m S tr s) (hi : tr[i]? = some (q, lst items n)) (f : Array Value → Array Value) {items' : List Value} (hf : f items.toArray = items'.toArray) (tk : Nat) :
    ∃ c, FIn gB O L m S (tr.set i (q, lst items' c)) { s with heap := s.heap.update q (Obj.mapSeq f), toks := tk } := by
  have hq : IsL s.heap q items.toArray n := I.at hi
  have := IsL.update hq f
  rw [hf] at this
  exact ⟨_, I.turn hi (Heap.SameBut.update s.heap q (Obj.mapSeq f)) this⟩

theorem extend_loop {n : Nat} {item : Nat → Value} {ItP : Nat → Obj → Prop} {Src : (Addr → Obj → Prop) → Prop} {q : Addr} {R : Result → Shared → Prop} (J : Iter prog w gB it n item ItP Src) (hh : A.handled = none) (hS : Src S) (hn : n ≤ 1000)
    (hR : ∀ s' c', FIn gB O L m S ((q, lst ((List.range n).map item) c') :: tr) s' → R (.ok (.ret .none)) s') :
    ∀ (j k : Nat) (s : Shared) (io : Obj) (c : Nat), n - k = j → k ≤ n → FIn gB O L m S ((it, io) :: (q, lst ((List.range k).map item) c) :: tr) s → ItP k io →
      codeAny (model prog w) A (.builtin "list.extend.loop" ⟨[.ref q, .ref it, .none], []⟩) R s := by
  intro j
  induction j with
  | zero =>
    intro k s io c hj hk I hP
    obtain rfl : k = n := by omega
    refine codeAny_builtin PySem.F.entry_extend_loop ?_
    rw [Around.under_plainId PySem.F.plain_extend_loop _]
    show wpAny _ A.in1 (pyNext (.ref it) >>= _) _ _ s
    exact wpAny_bind (J.stop hh I hP hS fun s' I' => wpAny_pure (hR s' c I'))
  | succ j ih =>
    intro k s io c hj hk I hP
    have hlt : k < n := by exact oS1 ‹_›
    refine codeAny_builtin PySem.F.entry_extend_loop ?_
    rw [Around.under_plainId PySem.F.plain_extend_loop _]
    show wpAny _ A.in1 (pyNext (.ref it) >>= _) _ _ s
    refine wpAny_bind (J.next hlt I hP hS fun io' s' hP' I' => ?_)
    walk_at "q"
    show wpAny _ A.in1 (updateSeq q (·.push (item k)) >>= _) _ _ _
    have hq := I'.at (i := 1) rfl
    obtain ⟨c', I''⟩ := I'.seq (i := 1) rfl (·.push (item k)) (items' := (List.range k).map item ++ [item k]) (by simp) s'.toks
    refine wpAny_bind (wpAny_updateSeq hq rfl (wpAny_pure ⟨plainId_quiet PySem.F.plain_extend_loop _, ih (k + 1) _ io' c' (by exact oS ‹_›) hlt ?_ hP'⟩) ?_ ?_)
    · rw [List.range_succ, List.map_append]
      exact I''
    · show ((List.range k).map item).toArray.size ≤ sizeLine
      rw [List.size_toArray, List.length_map, List.length_range, sizeLine_eq]; exact oK ‹_› ‹_› (by exact rfl)
    · rw [Array.size_push, List.size_toArray, List.length_map, List.length_range, sizeLine_eq]; exact oK1 ‹_› ‹_› (by exact rfl)

namespace F
theorem lookup_keys_len : typeLookup (.type "dict_keys") "__len__" = pure (some (.builtin "dict_keys.__len__")) := by rw [typeLookup_type, builtinLookup_eq_fast]; kernel_rfl
theorem split_keys_len : splitId "dict_keys.__len__" = some ("dict_keys", "__len__") := by decide +kernel
theorem sub_keys : isSubtype (.type "dict_keys") (.type "dict_keys") = pure true := by rw [isSubtype_type]; kernel_rfl
end F
theorem r_list_keys {Q : Value → Shared → Prop} (hh : A.handled = none) (I : FIn gB O L m S tr s) (hvS : S v (viewObj "dict_keys" d)) (hD : RawD S d es ep) (hz : es.size ≤ 1000)
    (h : ∀ a s' c, a = s.heap.objs.size → FIn gB O L m S ((a, lst (es.toList.map (·.key)) c) :: tr) s' → Q (.ref a) s') : wpAny (model prog w) A (call (.type "list") [.ref v]) Q E s := by
  obtain ⟨od, hd1, hd2, hd3⟩ := id hD
  have hv := I.get hvS
  have hT : s.TypeIs (.ref v) "dict_keys" := ⟨_, hv, rfl⟩
  refine callType_codes (Q₁ := fun obj s₁ => obj = .ref s.heap.objs.size ∧ s₁ = { s with heap := s.heap.push { cls := .type "list", data := .seq #[] } }) PySem.F.called_list (PySem.F.typeCall_list_1 _) PySem.F.entry_list_init
    (code_list_new _ ⟨rfl, rfl⟩) fun obj s₁ h₁ => ?_
  obtain ⟨rfl, rfl⟩ := h₁
  have I₁ := I.push (lst [] 0) s.toks
  have hv₁ : (s.heap.push (lst [] 0)).get? v = some (viewObj "dict_keys" d) := Heap.get?_push_of_some _ hv
  refine ⟨⟨_, I₁.at (i := 0) rfl, rfl⟩, PySem.F.args_list_init_2 _ _, ?_⟩
  have hne : v ≠ s.heap.objs.size := Nat.ne_of_lt (Heap.lt_size hv)
  generalize hq : s.heap.objs.size = q at *
  generalize hs₁ : ({ s with heap := s.heap.push { cls := .type "list", data := .seq #[] } } : Shared) = s₁
  have I₁ : FIn gB O L m S ((q, lst [] 0) :: tr) s₁ := hs₁ ▸ I₁
  have hv₁ : s₁.heap.get? v = some (viewObj "dict_keys" d) := hs₁ ▸ hv₁
  clear hs₁ hT hv
  show wpAny _ _ (do let old ← Builtin.List.listItems (.ref q); Builtin.List.listUpdate (.ref q) (fun _ => #[]); letGo old.toList.reverse; Builtin.List.listExtendWith (.ref q) (.ref v) .none) _ _ s₁
  refine wpAny_bind ?_
  walk_at "q"
  unfold Builtin.List.listItems
  refine wpAny_bind (wpAny_seqItems (I₁.at (i := 0) rfl) rfl (wpAny_pure ?_))
  walk_at "q"
  show wpAny _ _ (updateSeq q (fun _ => #[]) >>= fun _ => letGo (#[] : Array Value).toList.reverse >>= fun _ => Builtin.List.listExtendWith (.ref q) (.ref v) .none) _ _ s₁
  have hq₁ := I₁.at (i := 0) rfl
  refine wpAny_bind (wpAny_updateSeq hq₁ rfl ?_)
  walk_at "q"
  obtain ⟨c₂, I₂⟩ := I₁.seq (i := 0) rfl (fun _ => (#[] : Array Value)) (items' := []) rfl s₁.toks
  replace I₂ : FIn gB O L m S ((q, lst [] c₂) :: tr) _ := I₂
  have hv₂ : (s₁.heap.update q (Obj.mapSeq (fun _ => (#[] : Array Value)))).get? v = some (viewObj "dict_keys" d) := ((Heap.SameBut.update s₁.heap q _).2 v hne).trans hv₁
  generalize hs₂ : ({ s₁ with heap := s₁.heap.update q (Obj.mapSeq (fun _ => (#[] : Array Value))) } : Shared) = s₂ at I₂ ⊢
  have hv₂ : s₂.heap.get? v = some (viewObj "dict_keys" d) := hs₂ ▸ hv₂
  clear hs₂ hq₁ hv₁
  refine wpAny_bind (wpAny_letGo ?_)
  walk_at "q"
  have hT₂ : s₂.TypeIs (.ref v) "dict_keys" := ⟨_, hv₂, rfl⟩
  unfold Builtin.List.listExtendWith
  refine wpAny_bind (wpAny_typeOf hT₂ ?_)
  walk_at "q"
  have h1 : Builtin.List.listSameRef (.ref q) (.ref v) = false := by simp [Builtin.List.listSameRef, Ne.symm hne]
  have h2 : (Value.type "dict_keys" == Value.type "list") = false := by decide
  have h3 : (Value.type "dict_keys" == Value.type "tuple") = false := by decide
  simp only [h1, h2, h3, Bool.or_false, Bool.false_eq_true, if_false]
  refine wpAny_bind (iter_keys I₂ hv₂ (I₂.get hd1) hd3 fun it s₃ hit I₃ => ?_)
  walk_at "q"
  have hT₃ : s₃.TypeIs (.ref v) "dict_keys" := ⟨_, I₃.get hvS, rfl⟩
  refine wpAny_bind (wpAny_holding ?_)
  walk_at "q"
  unfold Builtin.List.listLengthHint
  refine wpAny_bind (wpAny_specialOf hT₃ F.lookup_keys_len ?_)
  walk_at "q"
  dsimp only
  simp only [F.split_keys_len]
  refine wpAny_bind (wpAny_isInstance hT₃ F.sub_keys ?_)
  walk_at "q"
  first | refine wifFb rfl ?_ | refine ifFb rfl ?_ | simp only [Bool.not_true, Bool.false_eq_true, if_false]
  refine wpAny_bind (wpAny_typeOf hT₃ ?_)
  walk_at "q"
  refine wpAny_pure ?_
  walk_at "q"
  show wpAny _ _ (rule "list.extend.makes-room" >>= fun _ => Builtin.List.listTouch (.ref q) >>= fun _ =>
    again (.builtin "list.extend.loop" ⟨[.ref q, .ref it, .none], []⟩)) _ _ _
  refine wpAny_bind (wpAny_rule (wpAny_bind ?_))
  walk_at "q"
  show wpAny _ _ (updateSeq q (·.push .none) >>= fun _ => updateSeq q (·.pop)) _ _ _
  have hq₃ := I₃.at (i := 1) rfl
  obtain ⟨c₄, I₄⟩ := I₃.seq (i := 1) rfl (·.push .none) (items' := [.none]) rfl s₃.toks
  refine wpAny_bind (wpAny_updateSeq hq₃ rfl ?_)
  walk_at "q"
  have hq₄ := I₄.at (i := 1) rfl
  obtain ⟨c₅, I₅⟩ := I₄.seq (i := 1) rfl (·.pop) (items' := []) rfl s₃.toks
  refine wpAny_updateSeq (hz := by simp [sizeLine_eq]) hq₄ rfl ?_
  walk_at "q"
  refine wpAny_pure ⟨plainId_quiet PySem.F.plain_extend_loop _, ?_⟩
  refine extend_loop (q := q) KIter (A := A.in1) hh hD hz (fun s' c' I' => ⟨rfl, h q s' c' rfl ?_⟩) es.size 0 _ _ c₅ rfl (Nat.zero_le _) I₅ ⟨rfl, rfl⟩
  have e : (List.range es.size).map (fun k => (es[k]?.map (·.key)).getD Value.none) = es.toList.map (·.key) := by
    apply List.ext_getElem
    · simp
    · intro i h1 h2
      simp at h1
      simp [h1]
  rw [← e]
  exact I'

namespace F
theorem lookup_values_len : typeLookup (.type "dict_values") "__len__" = pure (some (.builtin "dict_values.__len__")) := by rw [typeLookup_type, builtinLookup_eq_fast]; kernel_rfl
theorem split_values_len : splitId "dict_values.__len__" = some ("dict_values", "__len__") := by decide +kernel
theorem sub_values : isSubtype (.type "dict_values") (.type "dict_values") = pure true := by rw [isSubtype_type]; kernel_rfl
end F
theorem r_list_values {Q : Value → Shared → Prop} (hh : A.handled = none) (I : FIn gB O L m S tr s) (hvS : S v (viewObj "dict_values" d)) (hD : RawD S d es ep) (hz : es.size ≤ 1000)
    (h : ∀ a s' c, a = s.heap.objs.size → FIn gB O L m S ((a, lst (es.toList.map (·.val)) c) :: tr) s' → Q (.ref a) s') : wpAny (model prog w) A (call (.type "list") [.ref v]) Q E s := by
  obtain ⟨od, hd1, hd2, hd3⟩ := id hD
  have hv := I.get hvS
  have hT : s.TypeIs (.ref v) "dict_values" := ⟨_, hv, rfl⟩
  refine callType_codes (Q₁ := fun obj s₁ => obj = .ref s.heap.objs.size ∧ s₁ = { s with heap := s.heap.push { cls := .type "list", data := .seq #[] } }) PySem.F.called_list (PySem.F.typeCall_list_1 _) PySem.F.entry_list_init
    (code_list_new _ ⟨rfl, rfl⟩) fun obj s₁ h₁ => ?_
  obtain ⟨rfl, rfl⟩ := h₁
  have I₁ := I.push (lst [] 0) s.toks
  have hv₁ : (s.heap.push (lst [] 0)).get? v = some (viewObj "dict_values" d) := Heap.get?_push_of_some _ hv
  refine ⟨⟨_, I₁.at (i := 0) rfl, rfl⟩, PySem.F.args_list_init_2 _ _, ?_⟩
  have hne : v ≠ s.heap.objs.size := Nat.ne_of_lt (Heap.lt_size hv)
  generalize hq : s.heap.objs.size = q at *
  generalize hs₁ : ({ s with heap := s.heap.push { cls := .type "list", data := .seq #[] } } : Shared) = s₁
  have I₁ : FIn gB O L m S ((q, lst [] 0) :: tr) s₁ := hs₁ ▸ I₁
  have hv₁ : s₁.heap.get? v = some (viewObj "dict_values" d) := hs₁ ▸ hv₁
  clear hs₁ hT hv
  show wpAny _ _ (do let old ← Builtin.List.listItems (.ref q); Builtin.List.listUpdate (.ref q) (fun _ => #[]); letGo old.toList.reverse; Builtin.List.listExtendWith (.ref q) (.ref v) .none) _ _ s₁
  refine wpAny_bind ?_
  walk_at "q"
  unfold Builtin.List.listItems
  refine wpAny_bind (wpAny_seqItems (I₁.at (i := 0) rfl) rfl (wpAny_pure ?_))
  walk_at "q"
  show wpAny _ _ (updateSeq q (fun _ => #[]) >>= fun _ => letGo (#[] : Array Value).toList.reverse >>= fun _ => Builtin.List.listExtendWith (.ref q) (.ref v) .none) _ _ s₁
  have hq₁ := I₁.at (i := 0) rfl
  refine wpAny_bind (wpAny_updateSeq hq₁ rfl ?_)
  walk_at "q"
  obtain ⟨c₂, I₂⟩ := I₁.seq (i := 0) rfl (fun _ => (#[] : Array Value)) (items' := []) rfl s₁.toks
  replace I₂ : FIn gB O L m S ((q, lst [] c₂) :: tr) _ := I₂
  have hv₂ : (s₁.heap.update q (Obj.mapSeq (fun _ => (#[] : Array Value)))).get? v = some (viewObj "dict_values" d) := ((Heap.SameBut.update s₁.heap q _).2 v hne).trans hv₁
  generalize hs₂ : ({ s₁ with heap := s₁.heap.update q (Obj.mapSeq (fun _ => (#[] : Array Value))) } : Shared) = s₂ at I₂ ⊢
  have hv₂ : s₂.heap.get? v = some (viewObj "dict_values" d) := hs₂ ▸ hv₂
  clear hs₂ hq₁ hv₁
  refine wpAny_bind (wpAny_letGo ?_)
  walk_at "q"
  have hT₂ : s₂.TypeIs (.ref v) "dict_values" := ⟨_, hv₂, rfl⟩
  unfold Builtin.List.listExtendWith
  refine wpAny_bind (wpAny_typeOf hT₂ ?_)
  walk_at "q"
  have h1 : Builtin.List.listSameRef (.ref q) (.ref v) = false := by simp [Builtin.List.listSameRef, Ne.symm hne]
  have h2 : (Value.type "dict_values" == Value.type "list") = false := by decide
  have h3 : (Value.type "dict_values" == Value.type "tuple") = false := by decide
  simp only [h1, h2, h3, Bool.or_false, Bool.false_eq_true, if_false]
  refine wpAny_bind (iter_values I₂ hv₂ (I₂.get hd1) hd3 fun it s₃ hit I₃ => ?_)
  walk_at "q"
  have hT₃ : s₃.TypeIs (.ref v) "dict_values" := ⟨_, I₃.get hvS, rfl⟩
  refine wpAny_bind (wpAny_holding ?_)
  walk_at "q"
  unfold Builtin.List.listLengthHint
  refine wpAny_bind (wpAny_specialOf hT₃ F.lookup_values_len ?_)
  walk_at "q"
  dsimp only
  simp only [F.split_values_len]
  refine wpAny_bind (wpAny_isInstance hT₃ F.sub_values ?_)
  walk_at "q"
  first | refine wifFb rfl ?_ | refine ifFb rfl ?_ | simp only [Bool.not_true, Bool.false_eq_true, if_false]
  refine wpAny_bind (wpAny_typeOf hT₃ ?_)
  walk_at "q"
  refine wpAny_pure ?_
  walk_at "q"
  show wpAny _ _ (rule "list.extend.makes-room" >>= fun _ => Builtin.List.listTouch (.ref q) >>= fun _ =>
    again (.builtin "list.extend.loop" ⟨[.ref q, .ref it, .none], []⟩)) _ _ _
  refine wpAny_bind (wpAny_rule (wpAny_bind ?_))
  walk_at "q"
  show wpAny _ _ (updateSeq q (·.push .none) >>= fun _ => updateSeq q (·.pop)) _ _ _
  have hq₃ := I₃.at (i := 1) rfl
  obtain ⟨c₄, I₄⟩ := I₃.seq (i := 1) rfl (·.push .none) (items' := [.none]) rfl s₃.toks
  refine wpAny_bind (wpAny_updateSeq hq₃ rfl ?_)
  walk_at "q"
  have hq₄ := I₄.at (i := 1) rfl
  obtain ⟨c₅, I₅⟩ := I₄.seq (i := 1) rfl (·.pop) (items' := []) rfl s₃.toks
  refine wpAny_updateSeq (hz := by simp [sizeLine_eq]) hq₄ rfl ?_
  walk_at "q"
  refine wpAny_pure ⟨plainId_quiet PySem.F.plain_extend_loop _, ?_⟩
  refine extend_loop (q := q) VIter (A := A.in1) hh hD hz (fun s' c' I' => ⟨rfl, h q s' c' rfl ?_⟩) es.size 0 _ _ c₅ rfl (Nat.zero_le _) I₅ ⟨rfl, rfl⟩
  have e : (List.range es.size).map (fun k => (es[k]?.map (·.val)).getD Value.none) = es.toList.map (·.val) := by
    apply List.ext_getElem
    · simp
    · intro i h1 h2
      simp at h1
      simp [h1]
  rw [← e]
  exact I'
end
end Mine
end
section
open PySem PySem.W PySem.Calls PyProof.Rows
open Sem (wp)
namespace Mine
noncomputable abbrev onlyTup (S : Addr → Obj → Prop) : Addr → Obj → Prop := fun a o => S a o ∧ o.cls = .type "tuple" ∧ ∃ vs n, o.data = .seq vs n
structure Itr (prog : Program) (w : World) (gB : Heap) (it : Addr) (n : Nat) (Itm : (Addr → Obj → Prop) → Nat → Value → Prop) (ItP : (Addr → Obj → Prop) → Nat → Obj → Prop) (Src : (Addr → Obj → Prop) → Prop) : Prop where
  mono : ∀ {S S' : Addr → Obj → Prop} {k : Nat} {io : Obj}, (∀ a o, S a o → S' a o) → ItP S k io → ItP S' k io
  smono : ∀ {S S' : Addr → Obj → Prop}, (∀ a o, S a o → S' a o) → Src S → Src S'
  tupd : ∀ {S : Addr → Obj → Prop} {k : Nat} {io : Obj}, ItP S k io → ItP (onlyTup S) k io
  notup : ∀ {S : Addr → Obj → Prop} {k : Nat} {io : Obj}, ItP S k io → io.cls ≠ .type "tuple"
  next : ∀ {A : Around} {O : Og} {L : Addr} {m : Str → Option Value} {S : Addr → Obj → Prop} {tr : List (Addr × Obj)} {s : Shared} {E : Value → Shared → Prop} {io : Obj} {k : Nat} {Q : Option Value → Shared → Prop},
    k < n → FIn gB O L m S ((it, io) :: tr) s → ItP S k io → Src S → (∀ v io' S' s', (∀ a o, S a o → S' a o) → Itm S' k v → ItP S' (k + 1) io' → FIn gB O L m S' ((it, io') :: tr) s' → Q (some v) s') → wpAny (model prog w) A (pyNext (.ref it)) Q E s
  stop : ∀ {A : Around} {O : Og} {L : Addr} {m : Str → Option Value} {S : Addr → Obj → Prop} {tr : List (Addr × Obj)} {s : Shared} {E : Value → Shared → Prop} {io : Obj} {Q : Option Value → Shared → Prop},
    A.handled = none → FIn gB O L m S ((it, io) :: tr) s → ItP S n io → Src S → (∀ s', FIn gB O L m S tr s' → Q none s') → wpAny (model prog w) A (pyNext (.ref it)) Q E s
  self : ∀ {A : Around} {O : Og} {L : Addr} {m : Str → Option Value} {S : Addr → Obj → Prop} {tr : List (Addr × Obj)} {s : Shared} {E : Value → Shared → Prop} {io : Obj} {k : Nat} {Q : Value → Shared → Prop},
    FIn gB O L m S ((it, io) :: tr) s → ItP S k io → Q (.ref it) s → wpAny (model prog w) A (pyIter (.ref it)) Q E s
  go : ∀ {A : Around} {O : Og} {L : Addr} {m : Str → Option Value} {S : Addr → Obj → Prop} {tr : List (Addr × Obj)} {s : Shared} {E : Value → Shared → Prop} {io : Obj} {k : Nat} {Q : Unit → Shared → Prop} (target : Expr) (v : Value),
    FIn gB O L m S ((it, io) :: tr) s → ItP S k io → (∀ io' s', ItP S k io' → FIn gB O L m S ((it, io') :: tr) s' → Q () s') → wpAny (model prog w) A (letOwnedTupleGo target (.ref it) v) Q E s

section
variable {prog : Program} {w : World} {gB : Heap} {O : Og} {L : Addr} {m : Str → Option Value} {S : Addr → Obj → Prop} {tr : List (Addr × Obj)} {s : Shared} {A : Around} {E : Value → Shared → Prop} {env : Env} {mg mb : Str → Option Value}
variable {d v it : Addr} {od ov io : Obj} {es : Array DictEntry} {ep : Nat}

theorem wpAny_loadIfAlive {M : Model} {a : Addr} {o : Obj} {Q : Option Obj → Shared → Prop} (ho : s.heap.get? a = some o) (h : Q (some o) s) : wpAny M A (loadIfAlive a) Q E s := fun Γ p hΓ => by
  unfold loadIfAlive
  rw [Sem.wp_loadIfAlive, ho]
  exact (wpAny_pure (M := M) (A := A) (E := E) h) Γ p hΓ

theorem Iter.itr {n : Nat} {item : Nat → Value} {ItP : Nat → Obj → Prop} {Src : (Addr → Obj → Prop) → Prop} (J : Iter prog w gB it n item ItP Src) (hs : ∀ {S S' : Addr → Obj → Prop}, (∀ a o, S a o → S' a o) → Src S → Src S')
    (hn : ∀ {k io}, ItP k io → io.cls ≠ .type "tuple")
    (hself : ∀ {A : Around} {s : Shared} {E : Value → Shared → Prop} {io : Obj} {k : Nat} {Q : Value → Shared → Prop}, s.heap.get? it = some io → ItP k io → Q (.ref it) s → wpAny (model prog w) A (pyIter (.ref it)) Q E s) : Itr prog w gB it n (fun _ k v => v = item k) (fun _ k io => ItP k io) Src where
  mono := fun _ h => h
  smono := hs
  tupd := fun h => h
  notup := hn
  next := fun hk I hP hS h => J.next hk I hP hS fun io' s' hP' I' => h _ io' _ s' (fun _ _ x => x) rfl hP' I'
  stop := fun hh I hP hS h => J.stop hh I hP hS h
  self := fun I hP h => hself (I.at (i := 0) rfl) hP h
  go := fun target v I hP h => J.go target v I hP (h _ _ hP I)

theorem RawD.mono {S' : Addr → Obj → Prop} (hs : ∀ a o, S a o → S' a o) (h : RawD S d es ep) : RawD S' d es ep := let ⟨o, a, r⟩ := h; ⟨o, hs _ _ a, r⟩
theorem keysItr : Itr prog w gB it es.size (fun _ k v => v = (es[k]?.map (·.key)).getD .none) (fun _ k io => KIt d es.size ep k io) (fun S => RawD S d es ep) :=
  KIter.itr (fun hs h => h.mono hs) (fun h e => by rw [h.1] at e; exact absurd e (by decide)) fun {A s E io k Q} hi hP h => by
    have hT : s.TypeIs (.ref it) "dict_keyiterator" := ⟨io, hi, hP.1⟩
    refine wpAny_pyIter_slot hT PySem.F.slot_dict_keyiterator_iter (wpAny_call_entry PySem.F.slot_dict_keyiterator_iter hT PySem.F.entry_dict_keyiterator_iter ?_ (PySem.F.args_dict_keyiterator_iter_1 _))
    show wpAny _ _ (ret (.ref it)) _ _ s
    exact wpAny_pure ⟨_, rfl, "dict_keyiterator", _, hT, PySem.F.slot_dict_keyiterator_next.lookup, h⟩

theorem F.entry_items_iter : entryFor table "dict_itemiterator.__iter__" = some Builtin.«dict_keyiterator.__iter__» :=
  entryFor_alias (id' := "dict_keyiterator.__iter__") (by kernel_rfl) rfl (by decide +kernel) (by kernel_rfl)

noncomputable abbrev itemObj (x0 x1 : Value) (d : Addr) (k n ep : Nat) (ok ov : Value) : Obj := { cls := .type "dict_itemiterator", data := .fields #[x0, x1, .ref d, .int k 0, .int n 0, .int ep 0, ok, ov] }
noncomputable def IIt (d : Addr) (n ep : Nat) (S : Addr → Obj → Prop) (k : Nat) (io : Obj) : Prop := ∃ x0 x1 ok ov, io = itemObj x0 x1 d k n ep ok ov ∧ (x0 = .none ∨ ∃ (a : Nat) (o : Obj), x0 = .int a 0 ∧ onlyTup S a o)

theorem iter_items {Q : Value → Shared → Prop} (I : FIn gB O L m S tr s) (hv : s.heap.get? v = some (viewObj "dict_items" d)) (hd : s.heap.get? d = some od) (hdat : od.data = .dict es ep)
    (h : ∀ a s', a = s.heap.objs.size → FIn gB O L m S ((a, itemObj .none (.bool false) d 0 es.size ep .none .none) :: tr) s' → Q (.ref a) s') : wpAny (model prog w) A (pyIter (.ref v)) Q E s := by
  have hT : s.TypeIs (.ref v) "dict_items" := ⟨_, hv, rfl⟩
  refine wpAny_pyIter_slot hT PySem.F.slot_dict_items_iter (wpAny_call_entry PySem.F.slot_dict_items_iter hT PySem.F.entry_dict_items_iter ?_ (PySem.F.args_dict_items_iter_1 _))
  unfold Builtin.«dict_items.__iter__»
  refine wpAny_bind (wpAny_pure (wpAny_bind ?_))
  walk_at "q"
  unfold Builtin.Dict_items.dictOf
  refine wpAny_bind (wpAny_field hv rfl (x := .ref d) rfl (wpAny_pure (wpAny_bind ?_)))
  walk_at "q"
  unfold Builtin.Dict_items.newIterator
  refine wpAny_bind (wpAny_dictEntries hd hdat (wpAny_bind (wpAny_dictEpoch hd hdat ?_)))
  walk_at "q"
  have hown : Builtin.Dict_items.ownsTuple "dict_itemiterator" = true := by decide
  first | refine wifTb hown ?_ | refine ifTb hown ?_ | simp only [hown, if_true]
  exact wpAny_newObj_type (wpAny_pure ⟨_, rfl, "dict_itemiterator", _, ⟨_, Heap.get?_push_size _ rfl, rfl⟩, PySem.F.slot_dict_itemiterator_next.lookup, h _ _ rfl (I.push _ s.toks)⟩)
    (by simp only [sizeOk, Builtin.Dict_items.ownedTupleFields, List.size_toArray, List.length_append, List.length_cons, List.length_nil, sizeLine_eq]; omega)

theorem r_setField {vs : Array Value} {cls : Value} {k : Nat} {x : Value} {Q : Unit → Shared → Prop} (I : FIn gB O L m S ((it, { cls := cls, data := .fields vs }) :: tr) s) (hk : k < vs.size)
    (h : ∀ s', FIn gB O L m S ((it, { cls := cls, data := .fields (vs.setIfInBounds k x) }) :: tr) s' → Q () s') : wpAny (model prog w) A (setField (.ref it) k x) Q E s :=
  wpAny_setField_rec (I.at (i := 0) rfl) hk fun h' hg hs => h _ (I.turn (i := 0) (tk := s.toks) rfl hs hg)

theorem items_next {k : Nat} {Q : Option Value → Shared → Prop} (hlt : k < es.size) (I : FIn gB O L m S ((it, io) :: tr) s) (hP : IIt d es.size ep S k io) (hS : RawD S d es ep)
    (h : ∀ v io' S' s', (∀ a o, S a o → S' a o) → (∃ a, v = .ref a ∧ S' a (tup [(es[k]?.map (·.key)).getD .none, (es[k]?.map (·.val)).getD .none])) → IIt d es.size ep S' (k + 1) io' → FIn gB O L m S' ((it, io') :: tr) s' → Q (some v) s') :
    wpAny (model prog w) A (pyNext (.ref it)) Q E s := by
  refine xa4_2 (hP) fun x0 x1 ok ov he1 hx0 => ?_
  obtain rfl := he1
  refine xa1_3 (hS) fun od hod' hcd hdd => ?_
  have hod := I.get hod'
  have hi := I.at (i := 0) rfl
  have hT : s.TypeIs (.ref it) "dict_itemiterator" := ⟨_, hi, rfl⟩
  unfold pyNext
  refine wpAny_bind (wpAny_attempt (wpAny_callSpecial?_slot (name := Str.ofString "__next__") hT PySem.F.slot_dict_itemiterator_next
    (wpAny_call_entry PySem.F.slot_dict_itemiterator_next hT PySem.F.entry_dict_itemiterator_next ?_ (PySem.F.args_dict_itemiterator_next_1 _))))
  refine wpAny_bind (wpAny_pure (wpAny_bind (wpAny_bind (wpAny_bind (wpAny_typeNameOfWhole_itemiter hT (wpAny_pure (wpAny_bind (wpAny_fieldsOf hi rfl ?_))))))))
  walk_at "q"
  have hown : Builtin.Dict_items.ownsTuple "dict_itemiterator" = true := by decide
  first | refine wifTb hown ?_ | refine ifTb hown ?_ | simp only [hown, if_true]
  show wpAny _ _ (if (Value.ref d == Value.none) = true then _ else _) _ _ s
  first | refine wifF (show ¬ ((Value.ref d == Value.none) = true) from Bool.false_ne_true) ?_ | refine ifF (show ¬ ((Value.ref d == Value.none) = true) from Bool.false_ne_true) ?_ | rw [if_neg (show ¬ ((Value.ref d == Value.none) = true) from Bool.false_ne_true)]
  refine wpAny_bind (wpAny_pure (wpAny_bind (wpAny_dictEntries hod hdd ?_)))
  walk_at "q"
  first | refine wifF Bool.false_ne_true ?_ | refine wifF (by simp) ?_ | refine ifF (by simp) ?_ | rw [if_neg (by simp)]
  refine wpAny_bind (wpAny_pure (wpAny_bind (wpAny_dictEpoch hod hdd ?_)))
  walk_at "q"
  first | refine wifF Bool.false_ne_true ?_ | refine wifF (by simp) ?_ | refine ifF (by simp) ?_ | rw [if_neg (by simp)]
  refine wpAny_pure ?_
  walk_at "q"
  rw [Array.getElem?_eq_getElem hlt] at h
  simp only [show ¬ ((k : Int) < 0) from by omega, if_false, Int.toNat_natCast, Array.getElem?_eq_getElem hlt]
  refine wpAny_bind (wpAny_bind (wpAny_typeNameOfWhole_itemiter hT (wpAny_pure (wpAny_bind (wpAny_isOneOf_itemiter hT ?_)))))
  walk_at "q"
  show wpAny _ _ (setField (.ref it) 3 (rawInt ((k : Int) + 1)) >>= _) _ _ s
  refine wpAny_bind (r_setField I (by simp) fun s₁ I => ?_)
  walk_at "q"
  have e : ((k + 1 : Nat) : Int) = (k : Int) + 1 := by omega
  replace I : FIn gB O L m S ((it, itemObj x0 x1 d (k + 1) es.size ep ok ov) :: tr) s₁ := by
    unfold itemObj; rw [e]; simpa [rawInt] using I
  have hT₁ : s₁.TypeIs (.ref it) "dict_itemiterator" := ⟨_, I.at (i := 0) rfl, rfl⟩
  refine wpAny_bind (wpAny_holding (wpAny_bind (wpAny_isOneOf_itemiter hT₁ (wpAny_bind (wpAny_isOneOf_itemiter hT₁ ?_)))))
  walk_at "q"
  show wpAny _ _ (Builtin.Dict_items.pairFromOwner (.ref it) 6 es[k].key es[k].val) _ _ s₁
  unfold Builtin.Dict_items.pairFromOwner
  refine wpAny_bind (r_newtup I fun a s₂ ha I => ?_)
  walk_at "q"
  have hS' : ∀ b o, S b o → And1 S a (tup [es[k].key, es[k].val]) b o := fun b o x => .inl x
  refine wpAny_bind ?_
  walk_at "q"
  unfold Builtin.Dict_items.ownedTupleIsFree
  refine wpAny_bind (wpAny_field (I.at (i := 0) rfl) rfl (x := x0) rfl ?_)
  walk_at "q"
  rcases hx0 with rfl | ⟨a₀, o₀, rfl, ho₀⟩
  · refine wpAny_pure ?_
    walk_at "q"
    first | refine wifTb rfl ?_ | refine ifTb rfl ?_ | simp only [if_true]
    refine wpAny_bind (wpAny_field (I.at (i := 0) rfl) rfl (x := ok) rfl (wpAny_bind (wpAny_field (I.at (i := 0) rfl) rfl (x := ov) rfl ?_)))
    walk_at "q"
    refine wpAny_bind (r_setField I (by simp) fun s₃ I => wpAny_bind (r_setField I (by simp) fun s₄ I => wpAny_bind (r_setField I (by simp) fun s₅ I => wpAny_bind (r_setField I (by simp) fun s₆ I => ?_))))
    walk_at "q"
    refine wpAny_bind (wpAny_letGo (wpAny_pure (wpAny_pure ⟨_, rfl, wpAny_pure ?_⟩)))
    refine h (.ref a) _ _ s₆ hS' ⟨a, rfl, .inr ⟨rfl, rfl⟩⟩ ⟨rawInt a, .bool false, es[k].key, es[k].val, rfl, .inr ⟨a, _, rfl, .inr ⟨rfl, rfl⟩, rfl, _, _, rfl⟩⟩ ?_
    unfold itemObj; rw [e]; simpa using I
  · show wpAny _ _ (loadIfAlive ((a₀ : Int).toNat) >>= _) _ _ s₂
    rw [Int.toNat_natCast]
    have hal := I.get (hS' _ _ ho₀.1)
    refine wpAny_bind (wpAny_loadIfAlive hal ?_)
    walk_at "q"
    simp only [Option.isNone_some, Bool.false_eq_true, if_false]
    refine wpAny_bind (wpAny_field (I.at (i := 0) rfl) rfl (x := x1) rfl ?_)
    walk_at "q"
    have fin : ∀ {x1 : Value} {s₃ : Shared}, FIn gB O L m (And1 S a (tup [es[k].key, es[k].val])) ((it, itemObj (.int a₀ 0) x1 d (k + 1) es.size ep ok ov) :: tr) s₃ → Q (some (.ref a)) s₃ := fun {x1 s₃} I =>
      h (.ref a) _ _ s₃ hS' ⟨a, rfl, .inr ⟨rfl, rfl⟩⟩ ⟨.int a₀ 0, x1, ok, ov, rfl, .inr ⟨a₀, o₀, rfl, .inl ho₀.1, ho₀.2⟩⟩ I
    split
    · refine wpAny_bind (r_setField I (by simp) fun s₃ I => wpAny_pure ?_)
      walk_at "q"
      first | refine wifFb rfl ?_ | refine ifFb rfl ?_ | simp only [Bool.false_eq_true, if_false]
      refine wpAny_pure (wpAny_pure ⟨_, rfl, wpAny_pure (fin (x1 := .bool true) ?_)⟩)
      unfold itemObj; rw [e]; simpa using I
    · refine wpAny_pure ?_
      walk_at "q"
      first | refine wifFb rfl ?_ | refine ifFb rfl ?_ | simp only [Bool.false_eq_true, if_false]
      exact wpAny_pure (wpAny_pure ⟨_, rfl, wpAny_pure (fin I)⟩)

theorem items_end {Q : Option Value → Shared → Prop} (hh : A.handled = none) (I : FIn gB O L m S ((it, io) :: tr) s) (hP : IIt d es.size ep S es.size io) (hS : RawD S d es ep)
    (h : ∀ s', FIn gB O L m S tr s' → Q none s') : wpAny (model prog w) A (pyNext (.ref it)) Q E s := by
  refine xa4_2 (hP) fun x0 x1 ok ov he2 hx0 => ?_
  obtain rfl := he2
  refine xa1_3 (hS) fun od hod' hcd hdd => ?_
  have hod := I.get hod'
  have hi := I.at (i := 0) rfl
  have hT : s.TypeIs (.ref it) "dict_itemiterator" := ⟨_, hi, rfl⟩
  unfold pyNext
  refine wpAny_bind (wpAny_attempt (wpAny_callSpecial?_slot (name := Str.ofString "__next__") hT PySem.F.slot_dict_itemiterator_next
    (wpAny_call_entry PySem.F.slot_dict_itemiterator_next hT PySem.F.entry_dict_itemiterator_next ?_ (PySem.F.args_dict_itemiterator_next_1 _))))
  refine wpAny_bind (wpAny_pure (wpAny_bind (wpAny_bind (wpAny_bind (wpAny_typeNameOfWhole_itemiter hT (wpAny_pure (wpAny_bind (wpAny_fieldsOf hi rfl ?_))))))))
  walk_at "q"
  have hown : Builtin.Dict_items.ownsTuple "dict_itemiterator" = true := by decide
  first | refine wifTb hown ?_ | refine ifTb hown ?_ | simp only [hown, if_true]
  show wpAny _ _ (if (Value.ref d == Value.none) = true then _ else _) _ _ s
  first | refine wifF (show ¬ ((Value.ref d == Value.none) = true) from Bool.false_ne_true) ?_ | refine ifF (show ¬ ((Value.ref d == Value.none) = true) from Bool.false_ne_true) ?_ | rw [if_neg (show ¬ ((Value.ref d == Value.none) = true) from Bool.false_ne_true)]
  refine wpAny_bind (wpAny_pure (wpAny_bind (wpAny_dictEntries hod hdd ?_)))
  walk_at "q"
  first | refine wifF Bool.false_ne_true ?_ | refine wifF (by simp) ?_ | refine ifF (by simp) ?_ | rw [if_neg (by simp)]
  refine wpAny_bind (wpAny_pure (wpAny_bind (wpAny_dictEpoch hod hdd ?_)))
  walk_at "q"
  first | refine wifF Bool.false_ne_true ?_ | refine wifF (by simp) ?_ | refine ifF (by simp) ?_ | rw [if_neg (by simp)]
  refine wpAny_pure ?_
  walk_at "q"
  simp only [show ¬ ((es.size : Int) < 0) from by omega, if_false, Int.toNat_natCast, Array.getElem?_eq_none (Nat.le_refl es.size)]
  refine wpAny_bind (wpAny_bind (wpAny_typeNameOfWhole_itemiter hT (wpAny_pure ?_)))
  walk_at "q"
  show wpAny _ _ (setField (.ref it) 2 .none >>= _) _ _ s
  refine wpAny_bind (wpAny_setField hi rfl (by simp) ?_)
  walk_at "q"
  show wpAny _ _ (newExc (.type "StopIteration") [] >>= _) _ _ _
  refine wpAny_bind ?_
  walk_at "q"
  simp only [newExc, newTuple]
  refine wpAny_bind (wpAny_newObj_type ?_ (by size_fits))
  refine wpAny_bind (m := firstArgMember _ _) (wpAny_of_eq (a := Value.none) (by first | rfl | (simp only [firstArgMember]; rfl)) ?_)
  walk_at "q"
  refine wpAny_newObj_type ?_ (by size_fits)
  simp only [raiseNew]
  refine wpAny_bind (wpAny_handled ?_)
  walk_at "q"
  rw [show A.in1.handled = none from hh]
  refine wpAny_bind (wpAny_pure (wpAny_throw ?_))
  walk_at "q"
  refine wpAny_bind (wpAny_isInstance (T := "StopIteration") (b := true) ⟨_, Heap.get?_push_size _ rfl, rfl⟩ isSubtype_stop ?_)
  refine wpAny_pure ?_
  walk_at "q"
  exact h _ (I.waste (((Heap.SameBut.update ..).extBut.push _).push _))

theorem items_go {k : Nat} {Q : Unit → Shared → Prop} (target : Expr) (v : Value) (I : FIn gB O L m S ((it, io) :: tr) s) (hP : IIt d es.size ep S k io)
    (h : ∀ io' s', IIt d es.size ep S k io' → FIn gB O L m S ((it, io') :: tr) s' → Q () s') : wpAny (model prog w) A (letOwnedTupleGo target (.ref it) v) Q E s := by
  refine xa4_2 (hP) fun x0 x1 ok ov he3 hx0 => ?_
  obtain rfl := he3
  have stay : Q () s := h _ _ ⟨x0, x1, ok, ov, rfl, hx0⟩ I
  have go : ∀ a : Addr, wpAny (model prog w) A (do
      let o ← load it
      match o.cls, o.data with
      | .type n, .fields vs =>
        if ["enumerate", "zip", "dict_itemiterator", "dict_reverseitemiterator", "odict_iterator", "itertools.zip_longest", "itertools.pairwise"].contains n && vs[0]? == some (rawInt a) then
          rule "for.unpacks-the-owned-tuple"
          updateField it 0 .none
      | _, _ => pure ()) Q E s := by
    intro a
    refine wpAny_bind (wpAny_load (I.at (i := 0) rfl) ?_)
    walk_at "q"
    dsimp only
    split
    · refine wpAny_bind (wpAny_rule ?_)
      walk_at "q"
      show wpAny _ _ (setField (.ref it) 0 .none) _ _ _
      refine r_setField I (by simp) fun s₁ I => h _ _ ⟨.none, x1, ok, ov, rfl, .inl rfl⟩ ?_
      walk_at "q"
      unfold itemObj; simpa using I
    · exact wpAny_pure stay
  unfold letOwnedTupleGo
  split
  · cases v <;> first | exact go _ | exact wpAny_pure stay
  · cases v <;> first | exact go _ | exact wpAny_pure stay
  · exact wpAny_pure stay

theorem itemsItr : Itr prog w gB it es.size (fun S k v => ∃ a, v = .ref a ∧ S a (tup [(es[k]?.map (·.key)).getD .none, (es[k]?.map (·.val)).getD .none])) (IIt d es.size ep) (fun S => RawD S d es ep) where
  mono := fun hs ⟨x0, x1, ok, ov, e, h⟩ => ⟨x0, x1, ok, ov, e, h.imp id fun ⟨a, o, e, h⟩ => ⟨a, o, e, hs _ _ h.1, h.2⟩⟩
  tupd := fun ⟨x0, x1, ok, ov, e, h⟩ => ⟨x0, x1, ok, ov, e, h.imp id fun ⟨a, o, e, h⟩ => ⟨a, o, e, h, h.2⟩⟩
  smono := fun hs h => h.mono hs
  notup := fun ⟨x0, x1, ok, ov, e, _⟩ q => by
    rw [e] at q
    have q' : ("dict_itemiterator" : String) = "tuple" := by injection q
    exact absurd q' (by decide)
  next := fun hk I hP hS h => items_next hk I hP hS h
  stop := fun hh I hP hS h => items_end hh I hP hS h
  self := fun {A O L m S tr s E io k Q} I hP h => by
    refine xa4_2 (hP) fun x0 x1 ok ov he4 _ => ?_
    obtain rfl := he4
    have hT : s.TypeIs (.ref it) "dict_itemiterator" := ⟨_, I.at (i := 0) rfl, rfl⟩
    refine wpAny_pyIter_slot hT PySem.F.slot_dict_itemiterator_iter (wpAny_call_entry PySem.F.slot_dict_itemiterator_iter hT F.entry_items_iter ?_ (PySem.F.args_dict_itemiterator_iter_1 _))
    show wpAny _ _ (ret (.ref it)) _ _ s
    exact wpAny_pure ⟨_, rfl, "dict_itemiterator", _, hT, PySem.F.slot_dict_itemiterator_next.lookup, h⟩
  go := fun target v I hP h => items_go target v I hP h
end
end Mine
end
section
open PySem PySem.W PySem.Calls PyProof.Rows
open Sem (wp)
namespace Mine
noncomputable def Still (C it : Addr) (s : Shared) (a : Addr) (o : Obj) : Prop := s.heap.get? a = some o ∧ a ≠ C ∧ a ∉ tabP ∧ a ≠ it

structure GenSpec (prog : Program) (w : World) (gB : Heap) where
  it : Addr
  C : Addr
  n : Nat
  Itm : (Addr → Obj → Prop) → Nat → Value → Prop
  ItP : (Addr → Obj → Prop) → Nat → Obj → Prop
  Src : (Addr → Obj → Prop) → Prop
  pz : Nat → Bool
  F : Nat → Value → (Addr → Obj → Prop) → Prop
  elt : Expr
  target : Expr
  iter : Expr
  ifs : List Expr
  scope : Scope
  pos : Pos
  cenv : Env

section
variable {prog : Program} {w : World} {gB : Heap} {O : Og} {L : Addr} {m : Str → Option Value} {S : Addr → Obj → Prop} {tr : List (Addr × Obj)} {s : Shared} {A : Around} {E : Value → Shared → Prop} {env : Env} {mg mb : Str → Option Value}

noncomputable abbrev GenSpec.expr (G : GenSpec prog w gB) : Expr := .GeneratorExp G.elt [⟨G.target, G.iter, G.ifs, 0⟩] G.scope G.pos
noncomputable abbrev GenSpec.loop (G : GenSpec prog w gB) : Code := .compLoop G.expr 0 (.ref G.it) .none G.cenv
noncomputable abbrev GenSpec.start (G : GenSpec prog w gB) : Code := .compStart G.expr 0 (.ref G.it) .none G.cenv
noncomputable abbrev GenSpec.list (G : GenSpec prog w gB) : List Nat := passing G.pz G.n 0

noncomputable abbrev testsOf (cenv : Env) (ifs : List Expr) : Sem Bool := forIn ifs true fun c r => if r = true then do let ok ← isTrue c cenv (eval c cenv); pure (ForInStep.yield ok) else pure (ForInStep.yield r)

structure GenSpec.Ok (G : GenSpec prog w gB) (d u : Nat) : Prop where
  J : Itr prog w gB G.it G.n G.Itm G.ItP G.Src
  fmono : ∀ {i v} {S S' : Addr → Obj → Prop}, (∀ a o, S a o → S' a o) → G.F i v S → G.F i v S'
  loc : G.cenv.locals = G.C
  ne : G.C ≠ G.it
  co : G.cenv.scope.isCoroutine = false
  body : ∀ (A : Around) (O : Og) (m : Str → Option Value) (S : Addr → Obj → Prop) (s : Shared) (E : Value → Shared → Prop) (io : Obj) (i : Nat) (v : Value), Room A d u → i < G.n → FIn gB O G.C m S [(G.it, io)] s → G.Src S → G.Itm S i v →
    wpAny (model prog w) A (assign G.target G.cenv v) (fun _ s₂ => wpAny (model prog w) A (testsOf G.cenv G.ifs) (fun ok s₃ => ok = G.pz i ∧
      (ok = false → ∃ m' S', FIn gB O G.C m' S' [(G.it, io)] s₃ ∧ (∀ a o, S a o → S' a o)) ∧
      (ok = true → wpAny (model prog w) A (eval G.elt G.cenv) (fun y s₄ => ∃ m' S', FIn gB O G.C m' S' [(G.it, io)] s₄ ∧ (∀ a o, S a o → S' a o) ∧ G.F i y (onlyTup S')) E s₃)) E s₂) E s

theorem compTurn_any (elt target iter : Expr) (ifs : List Expr) (scope : Scope) (pos : Pos) (it acc : Value) (env : Env) :
    compTurn (.GeneratorExp elt [⟨target, iter, ifs, 0⟩] scope pos) 0 it acc env = (do
      standAt iter.pos
      match ← pyNext it with
      | none => pure (.done .next)
      | some v =>
        letOwnedTupleGo target it v
        assign target env v
        let ok ← testsOf env ifs
        if ok then
          (do let v ← eval elt env; standAt elt.pos; let _ ← yieldOut env v)
        again (.compLoop (.GeneratorExp elt [⟨target, iter, ifs, 0⟩] scope pos) 0 it acc env)) := by rfl

noncomputable def GenSpec.proto (G : GenSpec prog w gB) : Protocol := fun k s₀ v s kap =>
  ∃ i m' S' io', G.list[G.list.length - 1 - k]? = some i ∧ FIn gB (og s₀) G.C m' S' [(G.it, io')] s ∧ (∀ a o, Still G.C G.it s₀ a o → S' a o) ∧ G.ItP S' (i + 1) io' ∧ G.F i v (onlyTup S') ∧ k = (passing G.pz G.n (i + 1)).length ∧
    (∀ (s'' : Shared) (S'' : Addr → Obj → Prop), FIn gB (og s'') G.C m' S'' [(G.it, io')] s'' → (∀ a o, Still G.C G.it s'' a o → S'' a o) → G.ItP S'' (i + 1) io' → G.Src S'' → kap (.send .none) s'')
noncomputable def GenSpec.fin (G : GenSpec prog w gB) (n : Nat) (s₀ s₁ : Shared) : Prop := n = 0 ∧ ∃ m' S', FIn gB (og s₀) G.C m' S' [] s₁ ∧ ∀ a o, Still G.C G.it s₀ a o → S' a o

theorem Room.over {d u : Nat} (R : Room A (d + 1) (u + 4)) {c : Code} (hw : c.weight ≤ 1) (hu : c.cUnits ≤ 3) (hm : (A.in1.over c []).handled = A.handled) : Room (A.in1.over c []) d u :=
  ⟨hm.trans R.hh, by
    have := R.dp
    show A.in1.depth + frameCount ([] : List (Code × Pos)) + c.weight + d < recursionLimit
    show A.depth + 0 + c.weight + d < recursionLimit
    omega, by
    have := R.un
    show A.in1.units + unitsOf ([] : List (Code × Pos)) + c.cUnits + u < cLine
    show A.units + 1 + 0 + c.cUnits + u < cLine
    omega⟩
theorem loop_weight (e it acc env) : Code.weight (.compLoop e 0 it acc env) ≤ 1 := by
  show Code.frames (.compLoop e 0 it acc env) + 0 + 0 + 0 ≤ 1
  show (if Code.isFrame (.compLoop e 0 it acc env) then 1 else 0) + 0 + 0 + 0 ≤ 1
  split <;> simp
theorem loop_units (e it acc env) : Code.cUnits (.compLoop e 0 it acc env) ≤ 3 := by
  show 3 * (if Code.isFrame (.compLoop e 0 it acc env) then 1 else 0) ≤ 3
  split <;> simp
theorem start_weight (e it acc env) : Code.weight (.compStart e 0 it acc env) ≤ 1 := by
  show (if Code.isFrame (.compStart e 0 it acc env) then 1 else 0) + 0 + 0 + 0 ≤ 1
  split <;> simp
theorem start_units (e it acc env) : Code.cUnits (.compStart e 0 it acc env) ≤ 3 := by
  show 3 * (if Code.isFrame (.compStart e 0 it acc env) then 1 else 0) ≤ 3
  split <;> simp

variable {G : GenSpec prog w gB} {d u : Nat}
theorem seg_loop (K : G.Ok d u) (R : Room A (d + 1) (u + 4)) :
    ∀ (k i : Nat) (s₀ s : Shared) (m : Str → Option Value) (S : Addr → Obj → Prop) (io : Obj), G.n - i = k → i ≤ G.n → FIn gB (og s₀) G.C m S [(G.it, io)] s → (∀ a o, Still G.C G.it s₀ a o → S a o) → G.ItP S i io → G.Src S →
      Seg (model prog w) A.in1 (fun n s₀ r s₁ => r = .ok .next ∧ G.fin n s₀ s₁) G.proto (passing G.pz G.n i).length s₀ G.loop ((model prog w).den G.loop) [] s := by
  have hover : (A.in1.over G.loop []).handled = A.handled := rfl
  have RB : Room (A.in1.over G.loop []) d u := R.over (loop_weight ..) (loop_units ..) hover
  intro k
  induction k with
  | zero =>
    intro i s₀ s m S io hk hi I hst hP hS
    obtain rfl : i = G.n := by omega
    show Seg _ A.in1 _ _ _ s₀ _ ((compTurn G.expr 0 (.ref G.it) .none G.cenv).onRaise (leaving G.cenv)) [] s
    rw [compTurn_any, Sem.onRaise_eq_wrap]
    refine seg_bind_wrap (wpAny_standAt ?_)
    walk_at "q"
    refine seg_bind_wrap (K.J.stop RB.hh I hP hS fun s' I' => ?_)
    refine seg_end (.ok .next) ⟨rfl, by rw [passing_end]; rfl, m, S, I', hst⟩
  | succ k ih =>
    intro i s₀ s m S io hk hi I hst hP hS
    have hlt : i < G.n := by exact oS1 ‹_›
    show Seg _ A.in1 _ _ _ s₀ _ ((compTurn G.expr 0 (.ref G.it) .none G.cenv).onRaise (leaving G.cenv)) [] s
    rw [compTurn_any, Sem.onRaise_eq_wrap]
    refine seg_bind_wrap (wpAny_standAt ?_)
    walk_at "q"
    refine seg_bind_wrap (K.J.next hlt I hP hS fun v io₁ S₁ s₁ h1 hv hP₁ I₁ => ?_)
    refine seg_bind_wrap (K.J.go _ _ I₁ hP₁ fun io₂ s₂ hP₂ I₂ => ?_)
    have hS₁ := K.J.smono h1 hS
    refine seg_bind_wrap (wpAny_mono (K.body _ _ _ _ _ (fun _ _ => False) _ i v RB hlt I₂ hS₁ hv) (fun _ s₃ h₃ => ?_) fun _ _ e => e.elim)
    refine seg_bind_wrap (wpAny_mono h₃ (fun ok s₄ h₄ => ?_) fun _ _ e => e.elim)
    refine xa0_3 (h₄) fun he1 hno hyes => ?_
    obtain rfl := he1
    cases hpz : G.pz i with
    | false =>
      refine xa2_2 (hno hpz) fun m' S' I' h2 => ?_
      rw [passing_false hlt hpz]
      first | refine wifFb rfl ?_ | refine ifFb rfl ?_ | simp only [Bool.false_eq_true, if_false]
      exact seg_again rfl (ih (i + 1) s₀ _ _ _ _ (by exact oS ‹_›) hlt I' (fun a o h => h2 _ _ (h1 _ _ (hst a o h))) (K.J.mono h2 hP₂) (K.J.smono h2 hS₁))
    | true =>
      rw [passing_true hlt hpz, List.length_cons]
      first | refine wifTb rfl ?_ | refine ifTb rfl ?_ | simp only [if_true]
      have hy : ∀ v, yieldOut G.cenv v = yieldValue v := fun v => by simp only [yieldOut, K.co, Bool.false_eq_true, if_false]
      simp only [hy]
      rw [Sem.bind_eq_wrap', Sem.bind_eq_wrap', Sem.wrap_wrap, Sem.wrap_wrap]
      refine seg_wrap (wpAny_mono (hyes hpz) (fun y s₅ h₅ => ?_) fun _ _ e => e.elim)
      refine xa2_3 (h₅) fun m' S' I' h2 hF => ?_
      refine seg_at (seg_yield rfl rfl rfl ⟨i, m', S', io₂, passing_here hlt hpz, I', fun a o h => h2 _ _ (h1 _ _ (hst a o h)), K.J.mono h2 hP₂, hF, rfl, fun s'' S'' I'' hst'' hP'' hS'' => ?_⟩)
      exact seg_again rfl (ih (i + 1) s'' s'' _ _ _ (by exact oS ‹_›) hlt I'' hst'' hP'' hS'')

theorem seg_start (K : G.Ok d u) (R : Room A (d + 1) (u + 4))
    (s₀ s : Shared) (m : Str → Option Value) (S : Addr → Obj → Prop) (io : Obj) (I : FIn gB (og s₀) G.C m S [(G.it, io)] s) (hst : ∀ a o, Still G.C G.it s₀ a o → S a o) (hP : G.ItP S 0 io) (hS : G.Src S) :
    Seg (model prog w) A.in1 (fun n s₀ r s₁ => r = .ok .next ∧ G.fin n s₀ s₁) G.proto (passing G.pz G.n 0).length s₀ G.start ((model prog w).den G.start) [] s := by
  show Seg _ A.in1 _ _ _ s₀ _ ((compStart G.expr 0 (.ref G.it) .none G.cenv).onRaise (leaving G.cenv)) [] s
  unfold compStart
  rw [Sem.onRaise_eq_wrap]
  show Seg _ A.in1 _ _ _ s₀ _ ((ask >>= _).wrap _ _ _ _) [] s
  refine seg_bind_wrap (wpAny_askSetting ?_)
  walk_at "q"
  split
  · exact seg_again rfl (seg_loop K R G.n 0 s₀ s m S io (Nat.sub_zero _) (Nat.zero_le _) I hst hP hS)
  · refine seg_bind_wrap (wpAny_rule ?_)
    walk_at "q"
    show Seg _ A.in1 _ _ _ s₀ _ ((standAt G.iter.pos >>= _).wrap _ _ _ _) [] s
    exact seg_bind_wrap (wpAny_standAt (seg_bind_wrap (K.J.self I hP (seg_again rfl (seg_loop K R G.n 0 s₀ _ m S io (Nat.sub_zero _) (Nat.zero_le _) I hst hP hS)))))

noncomputable def GenSpec.At (G : GenSpec prog w gB) (A : Around) (i : Nat) (m₀ : Str → Option Value) (io : Obj) (gs : GenState) : Prop :=
  ∀ (s'' : Shared) (S'' : Addr → Obj → Prop), FIn gB (og s'') G.C m₀ S'' [(G.it, io)] s'' → (∀ a o, Still G.C G.it s'' a o → S'' a o) → G.ItP S'' i io → G.Src S'' →
    gs.Goes (model prog w) A.in1 (fun n s₀ r s₁ => r = .ok .next ∧ G.fin n s₀ s₁) G.proto (passing G.pz G.n i).length (.send .none) s''
theorem GenSpec.at0 (K : G.Ok d u) (R : Room A (d + 1) (u + 4)) (m₀ : Str → Option Value) (io : Obj) : G.At A 0 m₀ io (.fresh G.start) :=
  fun s'' S'' I hst hP hS => ⟨rfl, seg_start K R s'' s'' m₀ S'' io I hst hP hS⟩

noncomputable def OgStep (g : Nat) (O O' : Og) : Prop := O'.os = O.os ∧ ∀ (k : Nat) (x : GenState), k ≠ g → O.g[k]? = some x → O'.g[k]? = some x

theorem setGen_bare {g : Nat} {x : GenState} (h : AllBare s.gens) (hx : x.bare = true) : AllBare (s.setGen g x).gens := fun y hy => by
  obtain ⟨i, hi, e⟩ := Array.mem_iff_getElem.mp hy
  have e' : (s.setGen g x).gens[i]? = some y := by rw [Array.getElem?_eq_getElem hi, e]
  unfold Shared.setGen at e'
  by_cases q : g = i
  · subst q
    rw [Array.getElem?_setIfInBounds] at e'
    split at e'
    · split at e' <;> cases e'; exact hx
    · exact absurd rfl ‹_›
  · rw [Array.getElem?_setIfInBounds, if_neg q] at e'
    exact h y (Array.mem_of_getElem? e')

theorem FIn.around {fo io : Obj} {C it : Addr} {m' : Str → Option Value} {Sin : Addr → Obj → Prop} {s₀ s₁ : Shared} {tr₁ : List (Addr × Obj)} (I : FIn gB O L m S ((it, io) :: (C, fo) :: tr) s) (hs₀ : s₀.heap = s.heap)
    (J : FIn gB (og s₀) C m' Sin tr₁ s₁) (htr₁ : ∀ p ∈ tr₁, p.1 = it) (hst : ∀ a o, Still C it s₀ a o → Sin a o) (hnt : ∀ p ∈ tr, p.2.cls ≠ .type "tuple") {s' : Shared} (hk : ∀ b o, s₁.heap.get? b = some o → s'.heap.get? b = some o) (hbare : AllBare s'.gens)
    {O' : Og} (hO : OgOk O' s') (trN : List (Addr × Obj)) (h1 : ∀ p ∈ trN, p ∈ tr ∨ ((p.1 = C ∨ (p.1 = it ∧ Sin = Sin)) ∧ s'.heap.get? p.1 = some p.2)) (h2 : (trN.map (·.1)).Nodup) (hit : it ∈ trN.map (·.1) → it ∈ tr₁.map (·.1))
    (hsub : ∀ a ∈ trN.map (·.1), a ∈ it :: C :: tr.map (·.1)) :
    FIn gB O' L m (fun a o => S a o ∨ (onlyTup Sin a o ∧ a ≠ it)) trN s' := by
  have nd := I.nd
  simp only [List.map_cons, List.nodup_cons, List.mem_cons, not_or] at nd
  refine xa0_3 (nd) fun hp2 n3 n4 => ?_
  refine xa0_2 (hp2) fun n1 n2 => ?_
  have hLC : L ≠ C := fun e => (I.tk (C, fo) (.tail _ (.head _))).2.1 e.symm
  have hLit : L ≠ it := fun e => (I.tk (it, io) (.head _)).2.1 e.symm
  have keep : ∀ b o, s.heap.get? b = some o → b ≠ C → b ∉ tabP → b ≠ it → s₁.heap.get? b = some o := fun b o e a1 a2 a3 => (J.st b o (hst b o ⟨hs₀ ▸ e, a1, a2, a3⟩)).1
  have hLtab := I.wd.notTab I.lL
  have hns : s'.heap.Ns L m := (I.ns.at' fun o e => keep L o e hLC hLtab hLit).at' fun o e => hk _ _ e
  have trKeep : ∀ p ∈ tr, s₁.heap.get? p.1 = some p.2 := fun p hp => by
    have a := I.tk p (.tail _ (.tail _ hp))
    exact keep _ _ a.1 (fun e => n3 (e ▸ List.mem_map_of_mem (f := (·.1)) hp)) (I.wd.notTab a.2.2) (fun e => n2 (e ▸ List.mem_map_of_mem (f := (·.1)) hp))
  refine ⟨?_, hns, I.lL, fun a o h => ?_, fun p hp => ?_, h2, hbare, hO⟩
  · refine J.wd.keeps hk ?_
    exact Nat.le_of_lt (Nat.lt_of_le_of_lt I.lL hns.lt)
  · rcases h with h | ⟨⟨h, hc, vs, n, hd⟩, hait⟩
    · refine xa0_4 (I.st a o h) fun b1 b2 b3 b4 => ?_
      simp only [List.map_cons, List.mem_cons, not_or] at b4
      exact ⟨hk _ _ (keep a o b1 b4.2.1 b3 b4.1), b2, b3, fun e => by
        have := hsub a e
        simp only [List.mem_cons] at this
        rcases this with e | e | e
        · exact b4.1 e
        · exact b4.2.1 e
        · exact b4.2.2 e⟩
    · refine xa0_4 (J.st a o h) fun b1 b2 b3 b4 => ?_
      refine ⟨hk _ _ b1, fun e => ?_, b3, fun e => ?_⟩
      · refine xa3_3 (hns) fun o' es ep ho' hd' _ => ?_
        rw [← e, hk _ _ b1] at ho'
        cases ho'
        rw [hd] at hd'; cases hd'
      · have := hsub a e
        simp only [List.mem_cons] at this
        rcases this with e | e | e
        · exact hait e
        · exact b2 e
        · refine xa1_2 (List.mem_map.mp e) fun p hp e => ?_
          have := trKeep p hp
          rw [e, b1] at this
          cases this
          exact hnt p hp hc
  · rcases h1 p hp with hp | ⟨hp, hg⟩
    · have a := I.tk p (.tail _ (.tail _ hp))
      exact ⟨hk _ _ (trKeep p hp), a.2.1, a.2.2⟩
    · refine ⟨hg, ?_⟩
      rcases hp with e | ⟨e, _⟩
      · rw [e]; exact (I.tk (C, fo) (.tail _ (.head _))).2
      · rw [e]; exact (I.tk (it, io) (.head _)).2

theorem ogStep_of {g : Nat} {s₀ s₁ : Shared} {gs' : GenState} (I : OgOk O s) (J : OgOk (og (s.setGen g .running)) s₁) (hos : (s.setGen g .running).os = s.os := by rfl) : OgStep g O ⟨O.os, (s₁.setGen g gs').gens⟩ ∧ (s₁.setGen g gs').os = O.os := by
  refine ⟨⟨rfl, fun k x hk hx => ?_⟩, ?_⟩
  · have h1 := I.2 k x hx
    have h2 : (s.setGen g .running).gens[k]? = some x := by
      show (s.gens.setIfInBounds g .running)[k]? = some x
      rw [Array.getElem?_setIfInBounds, if_neg (Ne.symm hk)]; exact h1
    have h3 := J.2 k x h2
    show (s₁.gens.setIfInBounds g gs')[k]? = some x
    rw [Array.getElem?_setIfInBounds, if_neg (Ne.symm hk)]; exact h3
  · show s₁.os = O.os
    exact (J.1.trans hos).trans I.1

theorem gen_next (B : Base w.params mg mb gB) (K : G.Ok d u) {fo io : Obj} {ga : Addr} {g i j : Nat} {gs : GenState} {m₀ : Str → Option Value} {Q : Option Value → Shared → Prop} (hh : A.handled = none) (hroom : A.depth < recursionLimit)
    (I : FIn gB O L m S ((G.it, io) :: (G.C, fo) :: tr) s) (hg : s.heap.IsGen ga g) (hgs : O.g[g]? = some gs) (hns : s.heap.Ns G.C m₀) (hnt : ∀ p ∈ tr, p.2.cls ≠ .type "tuple")
    (hAt : G.At A i m₀ io gs) (hlen : (passing G.pz G.n i).length = G.list.length - j) (hj : j < G.list.length) (hP : G.ItP S i io) (hS : G.Src S)
    (h : ∀ v i' m₀' io' fo' gs' O' S' s', G.list[j]? = some i' → (∀ a o, S a o → S' a o) → G.F i' v S' → FIn gB O' L m S' ((G.it, io') :: (G.C, fo') :: tr) s' → OgStep g O O' → O'.g[g]? = some gs' → s'.heap.Ns G.C m₀' →
      G.At A (i' + 1) m₀' io' gs' → (passing G.pz G.n (i' + 1)).length = G.list.length - (j + 1) → G.ItP S' (i' + 1) io' → G.Src S' → Q (some v) s') :
    wpAny (model prog w) A (pyNext (.ref ga)) Q E s := by
  have hgs' := I.os.2 g gs hgs
  have nd := I.nd
  simp only [List.map_cons, List.nodup_cons, List.mem_cons, not_or] at nd
  have hSt : ∀ a o, S a o → Still G.C G.it (s.setGen g .running) a o := fun a o q => by
    refine xa0_4 (I.st a o q) fun b1 b2 b3 b4 => ?_
    simp only [List.map_cons, List.mem_cons, not_or] at b4
    exact ⟨b1, b4.2.1, b3, b4.1⟩
  have In : FIn gB (og (s.setGen g .running)) G.C m₀ (Still G.C G.it (s.setGen g .running)) [(G.it, io)] (s.setGen g .running) := by
    refine ⟨I.wd, hns, (I.tk (G.C, fo) (.tail _ (.head _))).2.2, fun a o q => ⟨q.1, q.2.1, q.2.2.1, by simp [q.2.2.2]⟩, fun p hp => ?_, by simp, setGen_bare I.bare rfl, OgOk.refl _⟩
    simp only [List.mem_cons, List.not_mem_nil, or_false] at hp
    subst hp
    exact ⟨(I.tk (G.it, io) (.head _)).1, fun e => nd.1.1 e, (I.tk (G.it, io) (.head _)).2.2⟩
  have hgo := hAt _ _ In (fun _ _ q => q) (K.J.mono hSt hP) (K.J.smono hSt hS)
  refine xa1_1 (oP hlen hj) fun n hn => ?_
  rw [hn] at hgo
  refine wpAny_pyNext_genexpQ (P := fun n s₀ s₁ => G.fin n s₀ s₁) hh (B.lim I.wd) hroom hg hgs' hgo (fun v s₁ gs' hbare hv => ?_) (fun s₁ hp h' hk => absurd hp.1 (Nat.succ_ne_zero n))
  refine xa4_7 (hv) fun i' m₀' Sin io' hi' J' hst' hP' hF' hlen' hkap => ?_
  have hidx : G.list.length - 1 - (n + 1 - 1) = j := oP2 hlen hn
  rw [hidx] at hi'
  refine xa0_2 (ogStep_of (gs' := gs') (s₀ := s) I.os J'.os) fun hstep hos => ?_
  refine xa3_2 (id J'.ns) fun fo' es' ep' hfo' hfd' => ?_
  have hrun : s₁.gens[g]? = some .running := J'.os.2 g _ (setGen_self (x := .running) hgs')
  have I' := I.around (trN := (G.it, io') :: (G.C, fo') :: tr) (s' := s₁.setGen g gs') (O' := ⟨O.os, (s₁.setGen g gs').gens⟩) (s₀ := s.setGen g .running) rfl J' (fun p hp => by simp only [List.mem_cons, List.not_mem_nil, or_false] at hp; rw [hp]) hst' hnt (fun _ _ e => e) (setGen_bare J'.bare hbare) ⟨hos, fun _ _ q => q⟩ (fun p hp => by
    simp only [List.mem_cons] at hp
    rcases hp with rfl | rfl | hp
    · exact .inr ⟨.inr ⟨rfl, rfl⟩, (J'.tk _ (.head _)).1⟩
    · exact .inr ⟨.inl rfl, hfo'⟩
    · exact .inl hp) I.nd (fun _ => by simp) (fun a ha => ha)
  have hFmono : ∀ a o, onlyTup Sin a o → (S a o ∨ (onlyTup Sin a o ∧ a ≠ G.it)) := fun a o q => .inr ⟨q, fun e => by
    have := (J'.st a o q.1).2.2.2
    simp [e] at this⟩
  have hmono : ∀ a o, S a o → (S a o ∨ (onlyTup Sin a o ∧ a ≠ G.it)) := fun a o q => .inl q
  refine h v i' m₀' io' fo' gs' _ _ _ hi' hmono (K.fmono hFmono hF') I' hstep (setGen_self (gs := .running) hrun) J'.ns ?_ (oP3 hlen' hlen hn) ?_ (K.J.smono hmono hS)
  · intro s'' S'' I'' h1 h2 h3
    have := hkap s'' S'' I'' h1 h2 h3
    have e : n = (passing G.pz G.n (i' + 1)).length := by rw [← hlen']; rfl
    rw [← e]
    exact this
  · exact K.J.mono hFmono (K.J.tupd hP')

theorem gen_stop (B : Base w.params mg mb gB) (K : G.Ok d u) {fo io : Obj} {ga : Addr} {g i : Nat} {gs : GenState} {m₀ : Str → Option Value} {Q : Option Value → Shared → Prop} (hh : A.handled = none) (hroom : A.depth < recursionLimit)
    (I : FIn gB O L m S ((G.it, io) :: (G.C, fo) :: tr) s) (hg : s.heap.IsGen ga g) (hgs : O.g[g]? = some gs) (hns : s.heap.Ns G.C m₀) (hnt : ∀ p ∈ tr, p.2.cls ≠ .type "tuple")
    (hAt : G.At A i m₀ io gs) (hlen : (passing G.pz G.n i).length = 0) (hP : G.ItP S i io) (hS : G.Src S)
    (h : ∀ O' s', FIn gB O' L m S tr s' → OgStep g O O' → Q none s') :
    wpAny (model prog w) A (pyNext (.ref ga)) Q E s := by
  have hgs' := I.os.2 g gs hgs
  have nd := I.nd
  simp only [List.map_cons, List.nodup_cons, List.mem_cons, not_or] at nd
  have hSt : ∀ a o, S a o → Still G.C G.it (s.setGen g .running) a o := fun a o q => by
    refine xa0_4 (I.st a o q) fun b1 b2 b3 b4 => ?_
    simp only [List.map_cons, List.mem_cons, not_or] at b4
    exact ⟨b1, b4.2.1, b3, b4.1⟩
  have In : FIn gB (og (s.setGen g .running)) G.C m₀ (Still G.C G.it (s.setGen g .running)) [(G.it, io)] (s.setGen g .running) := by
    refine ⟨I.wd, hns, (I.tk (G.C, fo) (.tail _ (.head _))).2.2, fun a o q => ⟨q.1, q.2.1, q.2.2.1, by simp [q.2.2.2]⟩, fun p hp => ?_, by simp, setGen_bare I.bare rfl, OgOk.refl _⟩
    simp only [List.mem_cons, List.not_mem_nil, or_false] at hp
    subst hp
    exact ⟨(I.tk (G.it, io) (.head _)).1, fun e => nd.1.1 e, (I.tk (G.it, io) (.head _)).2.2⟩
  have hgo := hAt _ _ In (fun _ _ q => q) (K.J.mono hSt hP) (K.J.smono hSt hS)
  rw [hlen] at hgo
  refine wpAny_pyNext_genexpQ (P := fun n s₀ s₁ => G.fin n s₀ s₁) hh (B.lim I.wd) hroom hg hgs' hgo (fun v s₁ gs' hbare hv => ?_) (fun s₁ hp h' hk => ?_)
  · refine xa4_7 (hv) fun i' m₀' Sin io' hi' J' hst' hP' hF' hlen' hkap => ?_
    exfalso
    refine hkap s₁ (Still G.C G.it s₁) ⟨J'.wd, J'.ns, J'.lL, fun a o q => ⟨q.1, q.2.1, q.2.2.1, by simp [q.2.2.2]⟩, J'.tk, J'.nd, J'.bare, OgOk.refl _⟩ (fun _ _ q => q) ?_ ?_
    · refine K.J.mono (fun a o q => ?_) hP'
      refine xa0_4 (J'.st a o q) fun b1 b2 b3 b4 => ?_
      exact ⟨b1, b2, b3, by simpa using b4⟩
    · refine K.J.smono (fun a o q => ?_) hS
      have := hst' a o (hSt a o q)
      refine xa0_4 (J'.st a o this) fun b1 b2 b3 b4 => ?_
      exact ⟨b1, b2, b3, by simpa using b4⟩
  · obtain ⟨_, m₀', Sin, J', hst'⟩ := hp
    refine xa0_2 (ogStep_of (gs' := .finished) (s₀ := s) I.os J'.os) fun hstep hos => ?_
    have nd2 := I.nd
    simp only [List.map_cons, List.nodup_cons] at nd2
    have I' := I.around (trN := tr) (s' := { s₁.setGen g .finished with heap := h' }) (O' := ⟨O.os, (s₁.setGen g .finished).gens⟩) (s₀ := s.setGen g .running) rfl J' (fun p hp => nomatch hp) hst' hnt hk (setGen_bare J'.bare rfl) ⟨hos, fun _ _ q => q⟩ (fun p hp => .inl hp) nd2.2.2 (fun e => absurd e (by
      intro q; exact nd2.1 (List.mem_cons_of_mem _ q))) (fun a ha => List.mem_cons_of_mem _ (List.mem_cons_of_mem _ ha))
    refine h _ _ ⟨I'.wd, I'.ns, I'.lL, fun a o q => I'.st a o (.inl q), I'.tk, I'.nd, I'.bare, I'.os⟩ hstep
end
end Mine
end
section
open PySem PySem.W PySem.Calls PyProof.Rows
open Sem (wp)
namespace Mine
section
variable {prog : Program} {w : World} {gB : Heap} {O O' : Og} {L : Addr} {m : Str → Option Value} {S : Addr → Obj → Prop} {tr : List (Addr × Obj)} {s : Shared} {A : Around} {E : Value → Shared → Prop} {env : Env} {mg mb : Str → Option Value}

theorem FIn.reO (I : FIn gB O' L m S tr s) (h1 : O'.os = O.os) (h2 : ∀ (k : Nat) (x : GenState), O.g[k]? = some x → O'.g[k]? = some x) : FIn gB O L m S tr s :=
  ⟨I.wd, I.ns, I.lL, I.st, I.tk, I.nd, I.bare, ⟨I.os.1.trans h1, fun k x h => I.os.2 k x (h2 k x h)⟩⟩
theorem FIn.pushGen (I : FIn gB O L m S tr s) (x : GenState) (hx : x.bare = true) (tk : Nat) : FIn gB O L m S tr { s with gens := s.gens.push x, toks := tk } :=
  ⟨I.wd, I.ns, I.lL, I.st, I.tk, I.nd, I.bare.push hx, ⟨I.os.1, fun k y h => by
    have := I.os.2 k y h
    have hlt : k < s.gens.size := by
      rcases Nat.lt_or_ge k s.gens.size with h' | h'
      · exact h'
      · rw [Array.getElem?_eq_none h'] at this; cases this
    show (s.gens.push x)[k]? = some y
    rw [Array.getElem?_push_lt hlt, ← Array.getElem?_eq_getElem hlt]; exact this⟩⟩
theorem FIn.swap {p q : Addr × Obj} (I : FIn gB O L m S (p :: q :: tr) s) : FIn gB O L m S (q :: p :: tr) s where
  wd := I.wd
  ns := I.ns
  lL := I.lL
  st := fun a o h => let ⟨a1, a2, a3, a4⟩ := I.st a o h; ⟨a1, a2, a3, fun e => a4 (by simp only [List.map_cons, List.mem_cons] at e ⊢; rcases e with e | e | e; exact .inr (.inl e); exact .inl e; exact .inr (.inr e))⟩
  tk := fun x hx => I.tk x (by simp only [List.mem_cons] at hx ⊢; rcases hx with e | e | e; exact .inr (.inl e); exact .inl e; exact .inr (.inr e))
  nd := by
    have := I.nd
    simp only [List.map_cons, List.nodup_cons, List.mem_cons, not_or] at this ⊢
    exact ⟨⟨fun e => this.1.1 e.symm, this.2.1⟩, this.1.2, this.2.2⟩
  bare := I.bare
  os := I.os
theorem FIn.now (I : FIn gB O L m S tr s) : FIn gB (og s) L m S tr s := ⟨I.wd, I.ns, I.lL, I.st, I.tk, I.nd, I.bare, OgOk.refl s⟩

theorem r_gencode (B : Base w.params mg mb gB) {c P : Addr} {pos : Pos} {qual : Str} {scope : Scope} {Q : Value → Shared → Prop} (I : FIn gB O L m S tr s) (hcode : env.code = .ref c) (hmem : (c, P) ∈ tabs)
    (h : ∀ code s', s'.gens = s.gens → FIn gB O L m S tr s' → Q code s') : wpAny (model prog w) A (genexprCode env pos qual scope) Q E s := by
  have hP : P ∈ tabP := by
    have : P ∈ tabs.map (·.2) := List.mem_map_of_mem (f := (·.2)) hmem
    exact this
  refine xa1_2 (I.wd.tb P hP) fun ps hps hok => ?_
  have hC := (B.C _ hmem).keeps I.wd.ext
  cases hf : codeAmong pos ps.toList with
  | some c' => exact wpAny_genexprCode_hit hcode (hC.code hps hok) hf (h _ _ rfl I)
  | none =>
    refine wpAny_genexprCodeX hcode (hC.code hps hok) (hC.tab hps) hf fun c' h' tk hx _ _ _ _ htab _ => ?_
    walk_at "q"
    refine h _ _ rfl (I.table B.hid hP hx htab.2 ?_)
    have hl : (ps ++ #[rawInt pos.line, rawInt pos.col, Value.ref c']).toList = ps.toList ++ [rawInt pos.line, rawInt pos.col, .ref c'] := by simp
    rw [hl]
    exact TriplesOk_snoc _ _ _ _ hok

noncomputable abbrev genObj (g : Nat) (nm qn : Value) : Obj := { cls := .type "generator", data := .fields #[.int g 0, nm, qn] }

theorem r_genexp (B : Base w.params mg mb gB) (hroom : A.depth < recursionLimit) {c P : Addr} {elt target iter : Expr} {ifs : List Expr} {scope : Scope} {cl : List (Str × Addr)} {pos : Pos} {Q : Value → Shared → Prop}
    (hcode : env.code = .ref c) (hmem : (c, P) ∈ tabs) (hgl : env.globals = mainGlobals) (hco : scope.isCoroutine = false) (hclos : closureFor scope env = pure cl) (hcell : ∀ y ∈ scope.names, y.2 ≠ .cell)
    (h0 : scope.names.lookup (".0" : Str) = some NameKind.local) (hkind : scope.kind = .function)
    (h : wpAny (model prog w) A (eval iter env) (fun xv s₁ => wpAny (model prog w) A (pyIter xv) (fun itv s₂ => ∃ it m S tr io O, itv = .ref it ∧ FIn gB O L m S ((it, io) :: tr) s₂ ∧
      ∀ code C ga g fo s' nm qn, FIn gB ⟨O.os, s'.gens⟩ L m (And1 S ga (genObj g nm qn)) ((it, io) :: (C, fo) :: tr) s' → (∀ n Itm ItP Src pz F, s'.gens[g]? = some (.fresh (GenSpec.start (GenSpec.mk (prog := prog) (w := w) (gB := gB) it C n Itm ItP Src pz F elt target iter ifs scope pos (genEnv scope cl C code builtinsNs env))))) →
        s'.heap.Ns C (fun y => if y = ".0" then some (.ref it) else none) → O.g[g]? = none → (∀ (k : Nat) (x : GenState), O.g[k]? = some x → s'.gens[k]? = some x) → Q (.ref ga) s') E s₁) E s)
    (hs : ∀ x, genFold iter env x = pure x) :
    wpAny (model prog w) A (eval (.GeneratorExp elt [⟨target, iter, ifs, 0⟩] scope pos) env) Q E s := by
  refine wpAny_GeneratorExp_make hco hclos hcell h0 hkind hroom (wpAny_mono h (fun xv s₁ h₁ => wpAny_mono h₁ (fun itv s₂ h₂ => ?_) fun _ _ e => e) fun _ _ e => e) hs
  refine xa6_3 (h₂) fun it m S tr io O he1 I hQ => ?_
  obtain rfl := he1
  refine ⟨B.lim I.wd, r_gencode B I hcode hmem fun code s₃ hg I => ?_⟩
  rw [hgl]
  refine xa2_6 (B.bi) fun bm ob hbm hne hob hcls hdict hdata => ?_
  refine wpAny_builtinsFor (B.g.keeps I.wd.ext) hbm hne (I.wd.ext _ _ hob) hcls hdict hdata ?_
  walk_at "q"
  intro h' hn' hs'
  have I₄ := I.push { cls := .type "frame", data := .dict #[] } s₃.toks
  refine xa3_2 (id hn') fun fo es' ep' hfo hfd => ?_
  have I₅ := I₄.turn (i := 0) (tk := s₃.toks) rfl hs' hfo
  have I₆ := (FIn.swap I₅).push (genObj s₃.gens.size (.str "<genexpr>" (s₃.toks + 1)) (.str (env.qual ++ "<genexpr>") (s₃.toks + 1 + 1))) s₃.toks
  have I₇ := I₆.settle
  have I₈ := (I₇.pushGen (.fresh (.compStart (.GeneratorExp elt [⟨target, iter, ifs, 0⟩] scope pos) 0 (.ref it) .none (genEnv scope cl s₃.heap.objs.size code builtinsNs env))) rfl (s₃.toks + 1 + 1 + 1))
  have hpre : ∀ (k : Nat) (x : GenState), O.g[k]? = some x → (s₃.gens.push (.fresh (.compStart (.GeneratorExp elt [⟨target, iter, ifs, 0⟩] scope pos) 0 (.ref it) .none (genEnv scope cl s₃.heap.objs.size code builtinsNs env))))[k]? = some x := I₈.os.2
  refine hQ code s₃.heap.objs.size h'.objs.size s₃.gens.size fo _ (.str "<genexpr>" (s₃.toks + 1)) (.str (env.qual ++ "<genexpr>") (s₃.toks + 1 + 1)) ?_ (fun n Itm ItP Src pz F => ?_) (hn'.push _) ?_ hpre
  · exact ⟨I₈.wd, I₈.ns, I₈.lL, I₈.st, I₈.tk, I₈.nd, I₈.bare, ⟨I₈.os.1, fun _ _ x => x⟩⟩
  · show (s₃.gens.push _)[s₃.gens.size]? = _
    rw [Array.getElem?_push_size]
  · cases q : O.g[s₃.gens.size]? with
    | none => rfl
    | some x =>
      have := I.os.2 _ _ q
      rw [Array.getElem?_eq_none (Nat.le_refl _)] at this; cases this

theorem entry_dict_loop : entryFor table "dict.update.loop" = some Builtin.«dict.update.loop» := entryFor_of_tree (by kernel_rfl)
theorem plain_dict_loop : plainId "dict.update.loop" = true := by decide +kernel

structure GenIn (G : GenSpec prog w gB) (A : Around) (O : Og) (S : Addr → Obj → Prop) (s : Shared) (ga : Addr) (g i j : Nat) (io : Obj) : Prop where
  gen : ∃ nm qn, S ga (genObj g nm qn)
  at' : ∃ gs m₀, O.g[g]? = some gs ∧ s.heap.Ns G.C m₀ ∧ G.At A i m₀ io gs
  len : (passing G.pz G.n i).length = G.list.length - j
  itp : G.ItP S i io
  src : G.Src S

variable {G : GenSpec prog w gB} {d u : Nat}
theorem GenIn.isGen {ga : Addr} {g i j : Nat} {io : Obj} (N : GenIn G A O S s ga g i j io) (I : FIn gB O L m S tr s) : s.heap.IsGen ga g :=
  let ⟨nm, qn, h⟩ := N.gen; ⟨_, nm, qn, I.get h, rfl, rfl, rfl⟩
theorem GenIn.on {ga : Addr} {g i j : Nat} {io fo : Obj} {S' : Addr → Obj → Prop} {s' : Shared} {tr' : List (Addr × Obj)} (N : GenIn G A O S s ga g i j io) (I : FIn gB O L m S ((G.it, io) :: (G.C, fo) :: tr) s) (I' : FIn gB O L m S' ((G.it, io) :: (G.C, fo) :: tr') s') (hS : ∀ a o, S a o → S' a o) (K : G.Ok d u) : GenIn G A O S' s' ga g i j io where
  gen := let ⟨nm, qn, h⟩ := N.gen; ⟨nm, qn, hS _ _ h⟩
  at' := let ⟨gs, m₀, a, b, c⟩ := N.at'; ⟨gs, m₀, a, b.at' fun o e => by
    have h1 := I.at (i := 1) rfl
    have h2 := I'.at (i := 1) rfl
    rw [h1] at e; cases e; exact h2, c⟩
  len := N.len
  itp := K.J.mono hS N.itp
  src := K.J.smono hS N.src

theorem gen_turn (B : Base w.params mg mb gB) (K : G.Ok d u) {fo io : Obj} {ga : Addr} {g i j : Nat} {Q : Option Value → Shared → Prop} (hh : A.handled = none) (hroom : A.depth < recursionLimit)
    (I : FIn gB O L m S ((G.it, io) :: (G.C, fo) :: tr) s) (N : GenIn G A O S s ga g i j io) (hnt : ∀ p ∈ tr, p.2.cls ≠ .type "tuple") (hj : j < G.list.length)
    (h : ∀ v i' io' fo' O' S' s', G.list[j]? = some i' → (∀ a o, S a o → S' a o) → G.F i' v S' → FIn gB O' L m S' ((G.it, io') :: (G.C, fo') :: tr) s' → OgStep g O O' → GenIn G A O' S' s' ga g (i' + 1) (j + 1) io' → Q (some v) s') :
    wpAny (model prog w) A (pyNext (.ref ga)) Q E s := by
  refine xa2_3 (N.at') fun gs m₀ h1 h2 h3 => ?_
  refine gen_next B K hh hroom I (N.isGen I) h1 h2 hnt h3 N.len hj N.itp N.src fun v i' m₀' io' fo' gs' O' S' s' a1 a2 a3 a4 a5 a6 a7 a8 a9 a10 a11 => ?_
  exact h v i' io' fo' O' S' s' a1 a2 a3 a4 a5 ⟨let ⟨nm, qn, h⟩ := N.gen; ⟨nm, qn, a2 _ _ h⟩, ⟨gs', m₀', a6, a7, a8⟩, a9, a10, a11⟩
theorem gen_done (B : Base w.params mg mb gB) (K : G.Ok d u) {fo io : Obj} {ga : Addr} {g i j : Nat} {Q : Option Value → Shared → Prop} (hh : A.handled = none) (hroom : A.depth < recursionLimit)
    (I : FIn gB O L m S ((G.it, io) :: (G.C, fo) :: tr) s) (N : GenIn G A O S s ga g i j io) (hnt : ∀ p ∈ tr, p.2.cls ≠ .type "tuple") (hj : G.list.length ≤ j)
    (h : ∀ O' s', FIn gB O' L m S tr s' → OgStep g O O' → Q none s') : wpAny (model prog w) A (pyNext (.ref ga)) Q E s := by
  refine xa2_3 (N.at') fun gs m₀ h1 h2 h3 => ?_
  exact gen_stop B K hh hroom I (N.isGen I) h1 h2 hnt h3 (by rw [N.len]; omega) N.itp N.src h

theorem dict_loop (B : Base w.params mg mb gB) (K : G.Ok d u) {dd ga : Addr} {g : Nat} {KV : Nat → Value → Value → (Addr → Obj → Prop) → Prop} {D : (Addr → Obj → Prop) → Nat → Obj → Prop} {R : Result → Shared → Prop} (hh : A.handled = none) (hroom : A.depth < recursionLimit) (hu : A.units + 3 < cLine)
    (hF : ∀ {i v S}, G.F i v S → ∃ a k x, v = .ref a ∧ S a (tup [k, x]) ∧ KV i k x S) (hnt : ∀ p ∈ tr, p.2.cls ≠ .type "tuple")
    (hDm : ∀ {S S' : Addr → Obj → Prop} {j od}, (∀ a o, S a o → S' a o) → D S j od → D S' j od) (hDc : ∀ {S j od}, D S j od → od.cls = .type "dict")
    (put : ∀ {A : Around} {O : Og} {S : Addr → Obj → Prop} {tr : List (Addr × Obj)} {s : Shared} {E : Value → Shared → Prop} {od : Obj} {j i idx : Nat} {k x : Value} {Q : Unit → Shared → Prop}, A.units + 1 < cLine → tr[idx]? = some (dd, od) → FIn gB O L m S tr s → D S j od → G.list[j]? = some i → KV i k x S →
      (∀ s' od', FIn gB O L m S (tr.set idx (dd, od')) s' → D S (j + 1) od' → Q () s') → wpAny (model prog w) A (dictSet dd k x) Q E s)
    (hR : ∀ O' S' s' od, (∀ a o, S a o → S' a o) → FIn gB O' L m S' ((dd, od) :: tr) s' → OgStep g O O' → D S' G.list.length od → R (.ok (.ret .none)) s') :
    ∀ (r j i : Nat) (O₁ : Og) (S₁ : Addr → Obj → Prop) (s : Shared) (io fo od : Obj), G.list.length - j = r → j ≤ G.list.length → OgStep g O O₁ → (∀ a o, S a o → S₁ a o) → FIn gB O₁ L m S₁ ((G.it, io) :: (G.C, fo) :: (dd, od) :: tr) s → GenIn G A.in1 O₁ S₁ s ga g i j io → D S₁ j od →
      codeAny (model prog w) A (.builtin "dict.update.loop" ⟨[.ref dd, .ref ga, .int j 0, .none], []⟩) R s := by
  intro r
  induction r with
  | zero =>
    intro j i O₁ S₁ s io fo od hr hj hO hS I N hD
    obtain rfl : j = G.list.length := by omega
    refine codeAny_builtin entry_dict_loop ?_
    rw [Around.under_plainId plain_dict_loop _]
    show wpAny _ A.in1 (pyNext (.ref ga) >>= _) _ _ s
    refine wpAny_bind (gen_done B K hh hroom I N ?_ (Nat.le_refl _) fun O' s' I' hO' => ?_)
    · intro p hp
      rcases List.mem_cons.mp hp with rfl | hp
      · rw [hDc hD]; decide
      · exact hnt p hp
    · show wpAny _ _ (Builtin.Dict.addKeywords dd [] >>= _) _ _ _
      exact wpAny_bind (wpAny_pure (wpAny_pure (hR O' S₁ s' od hS I' ⟨hO'.1.trans hO.1, fun k x a b => hO'.2 k x a (hO.2 k x a b)⟩ hD)))
  | succ r ih =>
    intro j i O₁ S₁ s io fo od hr hj hO hS I N hD
    have hlt : j < G.list.length := by exact oS1 ‹_›
    refine codeAny_builtin entry_dict_loop ?_
    rw [Around.under_plainId plain_dict_loop _]
    show wpAny _ A.in1 (pyNext (.ref ga) >>= _) _ _ s
    refine wpAny_bind (gen_turn B K hh hroom I N ?_ hlt fun v i' io' fo' O' S' s' hi' hS' hF' I' hO' N' => ?_)
    · intro p hp
      rcases List.mem_cons.mp hp with rfl | hp
      · rw [hDc hD]; decide
      · exact hnt p hp
    refine xa3_3 (hF hF') fun a k x he2 ha hkv => ?_
    obtain rfl := he2
    have hta := I'.get ha
    show wpAny _ _ (holding [Value.ref a] _ >>= _) _ _ _
    refine wpAny_bind (wpAny_holding (wpAny_bind (wpAny_tryCatch ?_)))
    walk_at "q"
    unfold Builtin.Dict.pairItems
    refine wpAny_bind (wpAny_typeOf ⟨_, hta, rfl⟩ ?_)
    walk_at "q"
    have h3 : (Value.type "tuple" == Value.type "list" || Value.type "tuple" == Value.type "tuple") = true := by decide
    simp only [h3, if_true]
    refine wpAny_bind (wpAny_seqItems hta rfl (wpAny_pure ?_))
    walk_at "q"
    show wpAny _ _ (holding [k, x] (dictSet dd k x)) _ _ _
    refine wpAny_holding (put (j := j) (i := i') (idx := 2) (by show A.units + 1 + 1 < cLine; omega) rfl I' (hDm hS' hD) hi' hkv fun s₂ od₂ I₂ hD₂ => ?_)
    walk_at "q"
    refine wpAny_pure ⟨plainId_quiet plain_dict_loop _, ?_⟩
    have e : rawInt ((j : Int) + 1) = .int ((j + 1 : Nat) : Int) 0 := by unfold rawInt; congr 1
    rw [e]
    exact ih (j + 1) (i' + 1) O' S' s₂ io' fo' od₂ (by exact oS ‹_›) hlt ⟨hO'.1.trans hO.1, fun k x a b => hO'.2 k x a (hO.2 k x a b)⟩ (fun a o q => hS' _ _ (hS _ _ q)) I₂ (N'.on I' I₂ (fun _ _ q => q) K) hD₂
end
end Mine
end
section
open PySem PySem.W PySem.Calls PyProof.Rows
open Sem (wp)
namespace Mine
set_option linter.unusedSectionVars false
theorem G_ga : typeLookup (.type "generator") "__getattribute__" = pure (some (.builtin "object.__getattribute__")) := by rw [typeLookup_type, builtinLookup_eq_fast]; kernel_rfl
theorem G_slot : Slot "generator" "__getattribute__" "object.__getattribute__" :=
  .of (owner := "object") (n := "__getattribute__") G_ga (by decide +kernel) (by decide +kernel) (by decide +kernel) (.inl (by decide +kernel)) (by rw [isSubtype_type]; kernel_rfl)
theorem G_hook : typeLookup (.type "generator") "__getattr__" = pure none := by rw [typeLookup_type, builtinLookup_eq_fast]; kernel_rfl
theorem G_keys : typeLookup (.type "generator") "keys" = pure none := by rw [typeLookup_type, builtinLookup_eq_fast]; kernel_rfl

theorem meets_miss_gen (a : Addr) (vs : Array Value) (u : Tok) :
    Meets (Builtin.«object.__getattribute__» ⟨[.ref a, .str "keys" u], []⟩) (fun A R s => s.heap.get? a = some { cls := .type "generator", dict := none, data := .fields vs } ∧ raisesAttr (.ref a) "keys" A R s) :=
  Meets.of_wp fun prog w A R s hs => by
    obtain ⟨hp, g, d, tk, os⟩ := s
    refine xa0_2 (hs) fun hx hs => ?_
    have hT : (⟨hp, g, d, tk, os⟩ : Shared).TypeIs (.ref a) "generator" := ⟨_, hx, rfl⟩
    have hmiss := G_keys
    have hname : (["__module__", "__name__", "__qualname__", "__doc__", "__annotations__"] : List Str).contains "keys" = false := by decide
    unfold Builtin.«object.__getattribute__»
    repeat (any_goals (first | assumption | wp_step))
    exact wpAny_raiseAttrError hs.1 hs.2 (attrMsg_fits (by decide +kernel) (by decide))

theorem keys_miss {prog : Program} {w : World} {A : Around} {E : Value → Shared → Prop} {s : Shared} {a : Addr} {vs : Array Value} {Q : Option Value → Shared → Prop} (hA : A.handled = none) (hx : s.heap.get? a = some { cls := .type "generator", dict := none, data := .fields vs })
    (h : ∀ h' tk, (∀ b ob, s.heap.get? b = some ob → h'.get? b = some ob) → Q none { s with heap := h', toks := tk }) : wpAny (model prog w) A (getAttr? (.ref a) "keys") Q E s := by
  obtain ⟨hp, g, d, tk, os⟩ := s
  have hT : ∀ tk', (⟨hp, g, d, tk', os⟩ : Shared).TypeIs (.ref a) "generator" := fun _ => ⟨_, hx, rfl⟩
  have f1 := sub_AttributeError
  have f3 := G_slot.lookup
  have f4 := G_slot.bind (.ref a)
  have f5 := G_hook
  unfold getAttr? getAttrBy? getAttrBy
  repeat (any_goals (first | assumption | exact hT _ | ((with_reducible show wpAny _ _ (call (Value.builtin "object.__getattribute__") _ _) _ _ _); refine call_meets G_slot (hT _) PySem.F.entry_object_getattribute (PySem.F.args_object_getattribute_2 _ _) (meets_miss_gen a _ _) ⟨hx, by simpa using hA, fun h' tk e hx' => ?_⟩) | wp_step))
  refine xa2_1 (hx'.there) fun t' u' he => ?_
  show wpAny _ _ (getattributeRaised _ _ _ _ _ _ _) _ _ _
  unfold getattributeRaised
  repeat (any_goals (first | assumption | wp_step))
  exact h _ _ hx'.keeps

section
variable {prog : Program} {w : World} {gB : Heap} {O O' : Og} {L : Addr} {m : Str → Option Value} {S : Addr → Obj → Prop} {tr : List (Addr × Obj)} {s : Shared} {A : Around} {E : Value → Shared → Prop} {env : Env} {mg mb : Str → Option Value}
variable {G : GenSpec prog w gB} {d u : Nat}

theorem r_dict_gen (B : Base w.params mg mb gB) (K : G.Ok d u) {io fo : Obj} {ga : Addr} {g : Nat} {KV : Nat → Value → Value → (Addr → Obj → Prop) → Prop} {D : (Addr → Obj → Prop) → Nat → Obj → Prop} {Q : Value → Shared → Prop} (R : Room A (d + 1) (u + 6))
    (hF : ∀ {i v S}, G.F i v S → ∃ a k x, v = .ref a ∧ S a (tup [k, x]) ∧ KV i k x S) (hnt : ∀ p ∈ tr, p.2.cls ≠ .type "tuple")
    (hDm : ∀ {S S' : Addr → Obj → Prop} {j od}, (∀ a o, S a o → S' a o) → D S j od → D S' j od) (hDc : ∀ {S j od}, D S j od → od.cls = .type "dict") (hD0 : ∀ {S}, D S 0 emptyDict)
    (put : ∀ {dd : Addr} {A : Around} {O : Og} {S : Addr → Obj → Prop} {tr : List (Addr × Obj)} {s : Shared} {E : Value → Shared → Prop} {od : Obj} {j i idx : Nat} {k x : Value} {Q : Unit → Shared → Prop}, A.units + 1 < cLine → tr[idx]? = some (dd, od) → FIn gB O L m S tr s → D S j od → G.list[j]? = some i → KV i k x S →
      (∀ s' od', FIn gB O L m S (tr.set idx (dd, od')) s' → D S (j + 1) od' → Q () s') → wpAny (model prog w) A (dictSet dd k x) Q E s)
    (I : FIn gB O L m S ((G.it, io) :: (G.C, fo) :: tr) s) (N : ∀ A, Room A (d + 1) (u + 4) → GenIn G A O S s ga g 0 0 io)
    (h : ∀ a O' S' s' od, a = s.heap.objs.size → (∀ a o, S a o → S' a o) → FIn gB O' L m S' ((a, od) :: tr) s' → OgStep g O O' → D S' G.list.length od → Q (.ref a) s') :
    wpAny (model prog w) A (call (.type "dict") [.ref ga]) Q E s := by
  have hR₂ : Room A.in1.in1 (d + 1) (u + 4) := (Room.in1 (u := u + 5) R).in1
  have N₀ := N _ hR₂
  refine xa2_1 (N₀.gen) fun nm qn hga => ?_
  have hgo := I.get hga
  refine callType_codes (Q₁ := fun obj s₁ => obj = .ref s.heap.objs.size ∧ s₁ = { s with heap := s.heap.push { cls := .type "dict", data := .dict #[] } }) PySem.F.kt_called_dict (PySem.F.kt_typeCall_dict_1 _) PySem.F.entry_dict_init (kt_code_dict_new _ ⟨rfl, rfl⟩) ?_
  intro obj s₁ hp1
  refine xa0_2 (hp1) fun he2 he3 => ?_
  obtain rfl := he2
  obtain rfl := he3
  have I₁ := (((I.push emptyDict s.toks).swap))
  have I₁' : FIn gB O L m S ((G.it, io) :: (G.C, fo) :: (s.heap.objs.size, emptyDict) :: tr) { s with heap := s.heap.push emptyDict, toks := s.toks } := by
    refine ⟨I₁.wd, I₁.ns, I₁.lL, fun a o q => ?_, fun p hp => ?_, ?_, I₁.bare, I₁.os⟩
    · refine xa0_4 (I₁.st a o q) fun a1 a2 a3 a4 => ?_
      refine ⟨a1, a2, a3, fun e => a4 ?_⟩
      simp only [List.map_cons, List.mem_cons] at e ⊢
      rcases e with e | e | e | e
      · exact .inl e
      · exact .inr (.inr (.inl e))
      · exact .inr (.inl e)
      · exact .inr (.inr (.inr e))
    · refine I₁.tk p ?_
      simp only [List.mem_cons] at hp ⊢
      rcases hp with e | e | e | e
      · exact .inl e
      · exact .inr (.inr (.inl e))
      · exact .inr (.inl e)
      · exact .inr (.inr (.inr e))
    · have := I₁.nd
      simp only [List.map_cons, List.nodup_cons, List.mem_cons, not_or] at this ⊢
      exact ⟨⟨this.1.2.1, this.1.1, this.1.2.2⟩, ⟨fun e => this.2.1.1 e.symm, this.2.2.1⟩, this.2.1.2, this.2.2.2⟩
  have hT : Shared.TypeIs { s with heap := s.heap.push emptyDict } (.ref s.heap.objs.size) "dict" := ⟨_, I₁'.at (i := 2) rfl, rfl⟩
  refine ⟨hT, PySem.F.args_dict_init_2 _ _, ?_⟩
  unfold Builtin.«dict.__init__»
  refine wpAny_bind ?_
  walk_at "q"
  unfold Builtin.Dict.selfAndRest
  refine wpAny_bind (wpAny_notOrdered_dict hT ?_)
  walk_at "q"
  show wpAny _ _ (pure (s.heap.objs.size, [Value.ref ga])) _ _ _
  refine wpAny_pure ?_
  walk_at "q"
  show wpAny _ _ (Builtin.Dict.updateFrom "dict.__init__" s.heap.objs.size (.ref ga) [] .none) _ _ _
  unfold Builtin.Dict.updateFrom
  have hgT : Shared.TypeIs { s with heap := s.heap.push emptyDict } (.ref ga) "generator" := ⟨_, I₁'.get hga, rfl⟩
  refine wpAny_bind (wpAny_typeOf hgT ?_)
  walk_at "q"
  first | refine wifT rfl ?_ | refine wifT (by decide) ?_ | refine ifT (by decide) ?_ | rw [if_pos (by decide)]
  refine wpAny_bind (keys_miss (by rw [show A.in1.in1.handled = A.handled from rfl]; exact R.hh) (I₁'.get hga) fun h' tk hk => ?_)
  walk_at "q"
  first | refine wifT rfl ?_ | refine wifT (by rfl) ?_ | refine ifT (by rfl) ?_ | rw [if_pos (by rfl)]
  have I₂ := I₁'.keeps (tk := tk) hk
  refine wpAny_bind (wpAny_rule ?_)
  walk_at "q"
  refine wpAny_bind (wpAny_pyIter_gen (g := g) ⟨_, nm, qn, I₂.get hga, rfl, rfl, rfl⟩ ?_)
  walk_at "q"
  refine wpAny_pure ⟨plainId_quiet plain_dict_loop _, ?_⟩
  have N₂ : GenIn G A.in1.in1 O S { s with heap := h', toks := tk } ga g 0 0 io := N₀.on I I₂ (fun _ _ q => q) K
  refine dict_loop (A := A.in1) B K (dd := s.heap.objs.size) (KV := KV) (D := D) R.hh (R.mono (d' := 0) (u' := 0)).depth (by have := R.un; show A.units + 1 + 3 < cLine; omega) hF hnt hDm hDc (fun h1 => put h1) (fun O' S' s' od hS' I' hO' hD' => ?_) G.list.length 0 0 O S _ io fo emptyDict (by simp) (Nat.zero_le _) ⟨rfl, fun _ _ _ q => q⟩ (fun _ _ q => q) I₂ N₂ hD0
  exact ⟨rfl, h _ O' S' s' od rfl hS' I' hO' hD'⟩

theorem r_dict_genexp {g : Nat} (hgs : s.gens[g]? = some (.fresh G.start)) (B : Base w.params mg mb gB) (K : G.Ok d u) {io fo : Obj} {ga : Addr} {nm qn : Value} {m₀ : Str → Option Value} {KV : Nat → Value → Value → (Addr → Obj → Prop) → Prop} {D : (Addr → Obj → Prop) → Nat → Obj → Prop} {Q : Value → Shared → Prop} (R : Room A (d + 1) (u + 6))
    (I : FIn gB ⟨O.os, s.gens⟩ L m (And1 S ga (genObj g nm qn)) ((G.it, io) :: (G.C, fo) :: tr) s) (hns : s.heap.Ns G.C m₀) (hP : G.ItP (And1 S ga (genObj g nm qn)) 0 io) (hS : G.Src (And1 S ga (genObj g nm qn))) (hg0 : O.g[g]? = none) (hpre : ∀ (k : Nat) (x : GenState), O.g[k]? = some x → s.gens[k]? = some x)
    (hF : ∀ {i v S}, G.F i v S → ∃ a k x, v = .ref a ∧ S a (tup [k, x]) ∧ KV i k x S) (hnt : ∀ p ∈ tr, p.2.cls ≠ .type "tuple")
    (hDm : ∀ {S S' : Addr → Obj → Prop} {j od}, (∀ a o, S a o → S' a o) → D S j od → D S' j od) (hDc : ∀ {S j od}, D S j od → od.cls = .type "dict") (hD0 : ∀ {S}, D S 0 emptyDict)
    (put : ∀ {dd : Addr} {A : Around} {O : Og} {S : Addr → Obj → Prop} {tr : List (Addr × Obj)} {s : Shared} {E : Value → Shared → Prop} {od : Obj} {j i idx : Nat} {k x : Value} {Q : Unit → Shared → Prop}, A.units + 1 < cLine → tr[idx]? = some (dd, od) → FIn gB O L m S tr s → D S j od → G.list[j]? = some i → KV i k x S →
      (∀ s' od', FIn gB O L m S (tr.set idx (dd, od')) s' → D S (j + 1) od' → Q () s') → wpAny (model prog w) A (dictSet dd k x) Q E s)
    (h : ∀ a S' s' od, a = s.heap.objs.size → (∀ a o, S a o → S' a o) → FIn gB O L m S' ((a, od) :: tr) s' → D S' G.list.length od → Q (.ref a) s') :
    wpAny (model prog w) A (call (.type "dict") [.ref ga]) Q E s := by
  refine r_dict_gen (KV := KV) (D := D) B K R hF hnt hDm hDc hD0 put I (fun A' R' => ⟨⟨nm, qn, .inr ⟨rfl, rfl⟩⟩, ⟨_, m₀, hgs, hns, G.at0 K R' m₀ io⟩, by simp, hP, hS⟩) fun a O' S' s' od ha hS' I' hO hD => ?_
  walk_at "q"
  refine h a S' s' od ha (fun b o q => hS' b o (.inl q)) (I'.reO hO.1 fun k x q => hO.2 k x (fun e => ?_) (hpre k x q)) hD
  rw [e, hg0] at q; cases q
end
end Mine
end
section
open PySem PySem.W PySem.Calls PyProof.Rows
namespace Mine

inductive All2 {α β : Type} (R : α → β → Prop) : List α → List β → Prop
  | nil : All2 R [] []
  | cons {a b as bs} : R a b → All2 R as bs → All2 R (a :: as) (b :: bs)
section
variable {α β : Type} {R R' : α → β → Prop} {as : List α} {bs : List β}
theorem All2.mono (h : All2 R as bs) (hr : ∀ a b, R a b → R' a b) : All2 R' as bs := by
  induction h with
  | nil => exact .nil
  | cons h1 _ ih => exact .cons (hr _ _ h1) ih
theorem All2.length (h : All2 R as bs) : as.length = bs.length := by
  induction h with
  | nil => rfl
  | cons _ _ ih => simp [ih]
theorem All2.getD (h : All2 R as bs) {k : Nat} (hk : k < as.length) (d : α) : ∃ b, bs[k]? = some b ∧ R (as.getD k d) b := by
  induction h generalizing k with
  | nil => simp at hk
  | @cons a b as bs h1 _ ih =>
    cases k with
    | zero => exact ⟨b, rfl, h1⟩
    | succ k => simpa using ih (by simpa using hk)
theorem All2.snoc (h : All2 R as bs) {a : α} {b : β} (hr : R a b) : All2 R (as ++ [a]) (bs ++ [b]) := by
  induction h with
  | nil => exact .cons hr .nil
  | cons h1 _ ih => exact .cons h1 ih
end

structure HA where
  x : Addr
  dx : Addr
  gl : Addr
  pl : Addr
  pr : Addr
  lf : Addr
  ds : Addr
noncomputable def HA.flds (H : HA) (rf : Value) : List (Str × Value) :=
  [("_graph_left", .ref H.gl), ("_reference_distance", rf), ("_pair_left", .ref H.pl), ("_pair_right", .ref H.pr), ("_left", .ref H.lf), ("_dist_left", .ref H.ds)]

noncomputable abbrev Tups (prog : Program) (w : World) (S : Addr → Obj → Prop) := All2 (VTup prog w S)
noncomputable def VLst (prog : Program) (w : World) (S : Addr → Obj → Prop) (v : Value) (ks : List (List Int)) : Prop := ∃ l lo items, v = .ref l ∧ S l lo ∧ LstO items lo ∧ Tups prog w S items ks

structure HSt (prog : Program) (w : World) (gB : Heap) (S : Addr → Obj → Prop) (H : HA) (adj : List (List Int × List (List Int))) : Prop where
  self : ∃ sl, S H.x ⟨.ref 80, some H.dx, .plain, sl⟩
  gl : ∃ od, S H.gl od ∧ DicR prog w S (VLst prog w S) od adj
  lf : ∃ lo items, S H.lf lo ∧ LstO items lo ∧ Tups prog w S items (adj.map (·.1))
  ngl : gB.objs.size ≤ H.gl
  npl : gB.objs.size ≤ H.pl
  npr : gB.objs.size ≤ H.pr
  nds : gB.objs.size ≤ H.ds
  ndx : gB.objs.size ≤ H.dx

section
variable {prog : Program} {w : World} {S S' : Addr → Obj → Prop} {gB : Heap} {H : HA} {adj : List (List Int × List (List Int))} {O : Og} {L : Addr} {m m' : Str → Option Value} {tr : List (Addr × Obj)} {s : Shared} {mg mb : Str → Option Value}
theorem VLst.mono {v ks} (h : VLst prog w S v ks) (hs : ∀ a o, S a o → S' a o) : VLst prog w S' v ks :=
  let ⟨l, lo, items, e, h1, h2, h3⟩ := h
  ⟨l, lo, items, e, hs _ _ h1, h2, h3.mono fun _ _ x => x.mono hs⟩
theorem HSt.mono (h : HSt prog w gB S H adj) (hs : ∀ a o, S a o → S' a o) : HSt prog w gB S' H adj where
  self := let ⟨sl, a⟩ := h.self; ⟨sl, hs _ _ a⟩
  gl := let ⟨od, a, b⟩ := h.gl; ⟨od, hs _ _ a, b.mono hs fun _ _ x => x.mono hs⟩
  lf := let ⟨lo, items, a, b, c⟩ := h.lf; ⟨lo, items, hs _ _ a, b, c.mono fun _ _ x => x.mono hs⟩
  ngl := h.ngl
  npl := h.npl
  npr := h.npr
  nds := h.nds
  ndx := h.ndx

noncomputable abbrev Pairs2 (prog : Program) (w : World) (S : Addr → Obj → Prop) (o : Obj) (ps : List (List Int × List Int)) : Prop := DicR prog w S (VTup prog w S) o ps
noncomputable abbrev Dist (prog : Program) (w : World) (S : Addr → Obj → Prop) (o : Obj) (ps : List (List Int × Int)) : Prop := DicR prog w S VInt o ps

theorem swap_spec (B : Base w.params mg mb gB) {es : List DictEntry} {n : Nat} {rf : Value} {A : Around} {opl opr : Obj} {al ar : Addr} {l r : List Int} {σ : HK (List Int)} {Q : Value → Shared → Prop} {E : Value → Shared → Prop}
    (R : Room A 1 10) (W : Pre gB s) (hself : ∃ sl, s.heap.get? H.x = some ⟨.ref 80, some H.dx, .plain, sl⟩) (hdx : s.heap.get? H.dx = some (dictOf es n)) (hf : FldO es (H.flds rf))
    (hne : H.x ∉ [H.pl, H.pr] ∧ H.x ∉ tabP ∧ H.dx ∉ [H.pl, H.pr] ∧ H.dx ∉ tabP) (h1 : s.heap.get? H.pl = some opl) (h2 : s.heap.get? H.pr = some opr) (n1 : gB.objs.size ≤ H.pl) (n2 : gB.objs.size ≤ H.pr) (hd : H.pl ≠ H.pr)
    (hS : ∀ a o, S a o → s.heap.get? a = some o ∧ a ∉ tabP ∧ a ∉ [H.pl, H.pr]) (p1 : Pairs2 prog w S opl σ.pl) (p2 : Pairs2 prog w S opr σ.pr) (tl : TupS prog w S al l) (t2 : TupS prog w S ar r)
    (z1 : σ.pl.length ≤ 100000) (z2 : σ.pr.length ≤ 100000)
    (h : ∀ s' opl' opr', Post gB [H.pl, H.pr] s s' → s'.heap.get? H.pl = some opl' → s'.heap.get? H.pr = some opr' → Pairs2 prog w S opl' (swapLR σ l r).pl → Pairs2 prog w S opr' (swapLR σ l r).pr → Q .none s') :
    wpAny (model prog w) A (call (.ref 70) [.ref H.x, .ref al, .ref ar]) Q E s := by
  obtain ⟨sl, hself⟩ := hself
  refine call_atQ B W (at70 _) nc70 [("self", .ref H.x), ("left", .ref al), ("right", .ref ar)] [(H.pl, opl), (H.pr, opr)] ?_ (by simp [hd]) R.depth (by kernel_rfl) (by kernel_rfl) (fun s₁ L Sf qx O A' hSf hL hO hA I hqx => ?_)
  · refine al2 ?_ ?_
    · exact ⟨h1, n1⟩
    · exact ⟨h2, n2⟩
  have hF : ∀ a o, S a o → Sf a o := fun a o h => hSf ▸ Froz.of hL (hS a o h).1 (hS a o h).2.1 (hS a o h).2.2
  have hx : Sf H.x _ := hSf ▸ Froz.of hL hself hne.2.1 hne.1 (tr := [(H.pl, opl), (H.pr, opr)])
  have hdx : Sf H.dx _ := hSf ▸ Froz.of hL hdx hne.2.2.2 hne.2.2.1 (tr := [(H.pl, opl), (H.pr, opr)])
  have R' : Room A' (0) (7) := hA ▸ R.deeper (d := 0) (u := 7) (envAt 70 L)
  refine wpAny_execs_cons (wpAny_Assign_Subscript ?_)
  walk_at "q"
  refine r_loc I rfl (Attribute_Name_ (r_loc I rfl (r_attr B I (I.get hx) (I.get hdx) hf rfl rfl (f80_pair_left _) fun s₂ I e₂ => r_loc I rfl ?_)))
  walk_at "q"
  refine r_set I hF R'.units1 tl (i := 0) rfl p1 ⟨ar, rfl, t2⟩ z1 fun s₃ opl' I p1 => ?_
  walk_at "q"
  refine wpAny_execs_cons (wpAny_Assign_Subscript ?_)
  walk_at "q"
  refine r_loc I rfl (Attribute_Name_ (r_loc I rfl (r_attr B I (I.get hx) (I.get hdx) hf rfl rfl (f80_pair_right _) fun s₂ I e₂ => r_loc I rfl ?_)))
  walk_at "q"
  refine r_set I hF R'.units1 t2 (i := 1) rfl p2 ⟨al, rfl, tl⟩ z2 fun s₃ opr' I p2 => wpAny_execs_nil ?_
  walk_at "q"
  refine hqx _ _ ⟨⟨_, _, _, I, fun _ _ h => h⟩, fun P => h s₃ opl' opr' P (I.at (i := 0) rfl) (I.at (i := 1) rfl) p1 p2⟩
end
end Mine
end
section
open PySem PySem.W PySem.Calls PyProof.Rows
open Sem (wp)
namespace Mine
section
variable {prog : Program} {w : World} {gB : Heap} {O O' : Og} {L : Addr} {m : Str → Option Value} {S S' : Addr → Obj → Prop} {tr tr' : List (Addr × Obj)} {s : Shared} {A : Around} {E : Value → Shared → Prop} {env : Env} {mg mb : Str → Option Value}

theorem FIn.perm (I : FIn gB O L m S tr s) (h : tr.Perm tr') : FIn gB O L m S tr' s where
  wd := I.wd
  ns := I.ns
  lL := I.lL
  st := fun a o q => let ⟨a1, a2, a3, a4⟩ := I.st a o q; ⟨a1, a2, a3, fun e => a4 ((h.map (·.1)).mem_iff.mpr e)⟩
  tk := fun p hp => I.tk p (h.mem_iff.mpr hp)
  nd := (h.map (·.1)).nodup_iff.mp I.nd
  bare := I.bare
  os := I.os
theorem FIn.freeze (I : FIn gB O L m S tr s) : FIn gB O L m (Froz L [] s) [] s where
  wd := I.wd
  ns := I.ns
  lL := I.lL
  st := fun _ _ q => q
  tk := fun _ hp => nomatch hp
  nd := List.nodup_nil
  bare := I.bare
  os := I.os
theorem FIn.froz (I : FIn gB O L m S tr s) {a : Addr} {o : Obj} (h : S a o) : Froz L [] s a o := let ⟨a1, a2, a3, _⟩ := I.st a o h; ⟨a1, a2, a3, by simp⟩
theorem FIn.frozT (I : FIn gB O L m S tr s) {a : Addr} {o : Obj} (h : (a, o) ∈ tr) : Froz L [] s a o := let ⟨a1, a2, a3⟩ := I.tk _ h; ⟨a1, a2, I.wd.notTab a3, by simp⟩
theorem FIn.monoS (I : FIn gB O L m S tr s) (h : ∀ a o, S' a o → S a o) : FIn gB O L m S' tr s := ⟨I.wd, I.ns, I.lL, fun a o q => I.st a o (h a o q), I.tk, I.nd, I.bare, I.os⟩

theorem r_for_any {target iter : Expr} {body : List Stmt} {pos : Pos} {Q : Flow → Shared → Prop} (hh : A.handled = none)
    (he : wpAny (model prog w) A (eval iter env) (fun xv s₁ => wpAny (model prog w) A (pyIter xv) (fun itv s₂ => ∃ (it : Addr) (n : Nat) (item : Nat → Value) (ItP : Nat → Obj → Prop) (Src : (Addr → Obj → Prop) → Prop) (m : Str → Option Value) (S : Addr → Obj → Prop) (tr : List (Addr × Obj)) (io : Obj) (Inv : Nat → (Str → Option Value) → (Addr → Obj → Prop) → List (Addr × Obj) → Prop),
      itv = .ref it ∧ Iter prog w gB it n item ItP Src ∧ FIn gB O L m S ((it, io) :: tr) s₂ ∧ ItP 0 io ∧ (∀ k m S tr, Inv k m S tr → Src S) ∧ Inv 0 m S tr ∧
      (∀ k m S tr s io, k < n → Inv k m S tr → FIn gB O L m S ((it, io) :: tr) s →
        wpAny (model prog w) A (assign target env (item k)) (fun _ s₂ => wpAny (model prog w) A (execs body env) (fun f s₃ => match f with
          | .next | .cont => ∃ m' S' tr', FIn gB O L m' S' ((it, io) :: tr') s₃ ∧ Inv (k + 1) m' S' tr'
          | .brk => Q .next s₃
          | .ret v => Q (.ret v) s₃) (fun _ _ => False) s₂) (fun _ _ => False) s) ∧
      (∀ m S tr s, Inv n m S tr → FIn gB O L m S tr s → Q .next s)) E s₁) E s)
    (hs : ∀ x, foldedSetIterable iter env x = pure x := by intro _; rfl) :
    wpAny (model prog w) A (exec (.For target iter body [] pos) env) Q E s := by
  refine wpAny_For (wpAny_mono he (fun xv s₁ h₁ => ?_) fun _ _ x => x) hs
  refine wpAny_mono h₁ (fun itv s₂ h₂ => ?_) fun _ _ x => x
  obtain ⟨it, n, item, ItP, Src, m, S, tr, io, Inv, rfl, J, I, h0, hsrc, i0, turn, done⟩ := h₂
  exact for_core J hh Inv hsrc I h0 i0 turn done

theorem isInt_shape {v : Value} {k : Int} (h : (intKind prog w).is k v = true) : ∃ t, v = .int k t := Value.isInt_shape h
theorem TupO.pair {a b : Int} {o : Obj} (h : TupO prog w [a, b] o) : ∃ ta tb n, o.cls = .type "tuple" ∧ o.data = .seq #[.int a ta, .int b tb] n := by
  obtain ⟨hc, items, n, hd, hi⟩ := h
  obtain ⟨l⟩ := items
  change PySem.ItemsAre (intKind prog w) [a, b] l at hi
  cases hi with
  | cons h1 hi =>
    cases hi with
    | cons h2 hi =>
      cases hi
      obtain ⟨ta, rfl⟩ := isInt_shape h1
      obtain ⟨tb, rfl⟩ := isInt_shape h2
      exact ⟨ta, tb, n, hc, hd⟩
theorem TupO.of {a b : Int} {ta tb : Tok} : TupO prog w [a, b] (tup [.int a ta, .int b tb]) :=
  ⟨rfl, _, _, rfl, .cons (by simp [intKind, Value.isInt]) (.cons (by simp [intKind, Value.isInt]) .nil)⟩

theorem r_pair0 {value slice : Expr} {t : Addr} {o : Obj} {v1 v2 : Value} {n : Nat} {u : Tok} {Q : Value → Shared → Prop} (ht : s.heap.get? t = some o) (hc : o.cls = .type "tuple") (hd : o.data = .seq #[v1, v2] n) (h : Q v1 s)
    (hs : subscripted slice false (.ref t) (.int 0 u) = operate [.ref t, .int 0 u] (getItem (.ref t) (.int 0 u)) := by with_unfolding_all rfl) (hg : ∀ r, letTemporaryGo value (.ref t) r = pure () := by intro _; with_unfolding_all rfl) :
    wpAny (model prog w) A (subscriptTail value slice (.ref t) (.int 0 u)) Q E s :=
  item_tuple (items := #[v1, v2]) (j := 0) ⟨o, ht, hc, n, hd⟩ (by decide) (by decide) rfl rfl h hs hg
theorem r_pair1 {value slice : Expr} {t : Addr} {o : Obj} {v1 v2 : Value} {n : Nat} {u : Tok} {Q : Value → Shared → Prop} (ht : s.heap.get? t = some o) (hc : o.cls = .type "tuple") (hd : o.data = .seq #[v1, v2] n) (h : Q v2 s)
    (hs : subscripted slice false (.ref t) (.int 1 u) = operate [.ref t, .int 1 u] (getItem (.ref t) (.int 1 u)) := by with_unfolding_all rfl) (hg : ∀ r, letTemporaryGo value (.ref t) r = pure () := by intro _; with_unfolding_all rfl) :
    wpAny (model prog w) A (subscriptTail value slice (.ref t) (.int 1 u)) Q E s :=
  item_tuple (items := #[v1, v2]) (j := 1) ⟨o, ht, hc, n, hd⟩ (by decide) (by decide) rfl rfl h hs hg

variable {S₁ : Addr → Obj → Prop}
theorem r_setX {a d : Addr} {i : Nat} {k : List Int} {od : Obj} {xs : List (List Int × Addr × Value)} {v : Value} {Q : Unit → Shared → Prop} (I : FIn gB O L m S tr s) (hS : ∀ a o, S₁ a o → S a o) (hu : A.units + 1 < cLine) (hk : TupS prog w S₁ a k)
    (hi : tr[i]? = some (d, od)) (hD : DicO prog w S₁ od xs) (hz : xs.length ≤ 100000)
    (h : ∀ s' od', FIn gB O L m S (tr.set i (d, od')) s' → DicO prog w S₁ od' (storedH xs k a v) → Q () s') :
    wpAny (model prog w) A (setItem (.ref d) (.ref a) v) Q E s := by
  have hm := I.dic (I.at hi) (hD.mono fun _ _ o => hS _ o)
  refine wpAny_setItem_heap (knd := KT prog w) (tupleKind_room_in1 hu) (I.tup (hk.mono hS)) hm (fun h' hm' hs' => ?_) (by rw [sizeLine_eq]; exact oL ‹_› (by exact rfl))
  obtain ⟨od', es', ep', ho', hc', hd', he', his', hn'⟩ := hm'
  refine h _ od' (I.turn hi hs' ho') ⟨hc', es', ep', hd', he', fun x hx => ?_, hn'⟩
  rcases mem_storedH hx with ⟨y, hy, e1, e2⟩ | ⟨e1, e2⟩
  · obtain ⟨h1, es, ep, h2, h3, h4, h5⟩ := hD
    rw [e1, e2]; exact h4 y hy
  · rw [e1, e2]; exact hk
theorem r_dictSetX {a d : Addr} {i : Nat} {k : List Int} {od : Obj} {xs : List (List Int × Addr × Value)} {v : Value} {Q : Unit → Shared → Prop} (I : FIn gB O L m S tr s) (hS : ∀ a o, S₁ a o → S a o) (hu : A.units < cLine) (hk : TupS prog w S₁ a k)
    (hi : tr[i]? = some (d, od)) (hD : DicO prog w S₁ od xs) (hz : xs.length ≤ 100000)
    (h : ∀ s' od', FIn gB O L m S (tr.set i (d, od')) s' → DicO prog w S₁ od' (storedH xs k a v) → Q () s') :
    wpAny (model prog w) A (dictSet d (.ref a) v) Q E s := by
  have hm := I.dic (I.at hi) (hD.mono fun _ _ o => hS _ o)
  refine wpAny_dictSet_heap (knd := KT prog w) hu (I.tup (hk.mono hS)) hm (fun h' hm' hs' => ?_) (by rw [sizeLine_eq]; exact oL ‹_› (by exact rfl))
  obtain ⟨od', es', ep', ho', hc', hd', he', his', hn'⟩ := hm'
  refine h _ od' (I.turn hi hs' ho') ⟨hc', es', ep', hd', he', fun x hx => ?_, hn'⟩
  rcases mem_storedH hx with ⟨y, hy, e1, e2⟩ | ⟨e1, e2⟩
  · obtain ⟨h1, es, ep, h2, h3, h4, h5⟩ := hD
    rw [e1, e2]; exact h4 y hy
  · rw [e1, e2]; exact hk
theorem r_itemX {a d b : Addr} {k : List Int} {od : Obj} {xs : List (List Int × Addr × Value)} {v : Value} {value slice : Expr} {Q : Value → Shared → Prop} (I : FIn gB O L m S tr s) (hS : ∀ a o, S₁ a o → S a o) (hu : A.units + 1 < cLine) (hk : TupS prog w S₁ a k)
    (hd : s.heap.get? d = some od) (hD : DicO prog w S₁ od xs) (hg : atKey xs k = some (b, v)) (h : ∀ s', FIn gB O L m S tr s' → s'.heap = s.heap → Q v s')
    (hs : subscripted slice false (.ref d) (.ref a) = operate [.ref d, .ref a] (getItem (.ref d) (.ref a)) := by with_unfolding_all rfl) :
    wpAny (model prog w) A (subscriptTail value slice (.ref d) (.ref a)) Q E s := by
  have hm := I.dic hd (hD.mono fun _ _ o => hS _ o)
  exact tail_any hm.typeIs slot_dict_getitem.lookup (wpAny_getItem_heap (knd := KT prog w) (tupleKind_room_in1 hu) (I.tup (hk.mono hS)) hm hg (h _ (I.toks _) rfl)) hs

theorem r_append_at {q : Addr} {e : Expr} {pos : Pos} {Q : Value → Shared → Prop}
    (h : wpAny (model prog w) A (eval e env) (fun v s₁ => ∃ m S tr i items n, FIn gB O L m S tr s₁ ∧ tr[i]? = some (q, lst items n) ∧ items.length ≤ 1000 ∧ ∀ s', FIn gB O L m S (tr.set i (q, lst (items ++ [v]) (n + 1))) s' → Q .none s') E s)
    (hs : starEach [e] env = [(false, eval e env)] := by rfl) :
    wpAny (model prog w) A (callWith pos (.builtin "list.append") [.ref q] (backTo pos (starEach [e] env)) []) Q E s := by
  rw [hs]
  refine P.append_list (wpAny_mono h (fun v s₁ h₁ => ?_) fun _ _ x => x)
  obtain ⟨m, S, tr, i, items, n, I, hi, hz, hQ⟩ := h₁
  refine ⟨items.toArray, n, by rw [List.size_toArray, sizeLine_eq]; exact oL ‹_› (by exact rfl), I.at hi, ?_⟩
  refine hQ _ (I.turn (h' := s₁.heap.update q (Obj.mapSeq fun xs => xs.push v)) (tk := s₁.toks) hi (Heap.SameBut.update ..) ?_)
  have := IsL.update (I.at hi) (fun xs => xs.push v)
  refine this.trans ?_
  simp

theorem Itr.more {it : Addr} {n : Nat} {Itm : (Addr → Obj → Prop) → Nat → Value → Prop} {ItP : (Addr → Obj → Prop) → Nat → Obj → Prop} {Src Src' : (Addr → Obj → Prop) → Prop} (J : Itr prog w gB it n Itm ItP Src)
    (h : ∀ {S}, Src' S → Src S) (hm : ∀ {S S' : Addr → Obj → Prop}, (∀ a o, S a o → S' a o) → Src' S → Src' S') : Itr prog w gB it n Itm ItP Src' where
  mono := J.mono
  smono := hm
  tupd := J.tupd
  notup := J.notup
  next := fun hk I hP hS q => J.next hk I hP (h hS) q
  stop := fun hh I hP hS q => J.stop hh I hP (h hS) q
  self := J.self
  go := J.go
theorem passing_all (n : Nat) : passing (fun _ => true) n 0 = List.range n := by
  unfold passing
  rw [List.drop_zero, List.filter_eq_self.mpr]
  intro _ _; rfl
theorem tests0 {cenv : Env} {Q : Bool → Shared → Prop} (h : Q true s) : wpAny (model prog w) A (testsOf cenv []) Q E s := by
  show wpAny _ _ (pure true) _ _ _
  exact wpAny_pure h
theorem tests1 {cenv : Env} {c : Expr} {Q : Bool → Shared → Prop} (h : wpAny (model prog w) A (isTrue c cenv (eval c cenv)) Q E s) : wpAny (model prog w) A (testsOf cenv [c]) Q E s := by
  unfold testsOf
  rw [List.forIn_cons]
  first | refine wifTb rfl ?_ | refine ifTb rfl ?_ | simp only [if_true]
  refine wpAny_bind (wpAny_bind (wpAny_mono h (fun b s₁ h₁ => wpAny_pure ?_) fun _ _ x => x))
  show wpAny _ _ (pure b) _ _ _
  exact wpAny_pure h₁

noncomputable def IntD (prog : Program) (w : World) (od : Obj) (M : List (Int × Int)) : Prop := ∃ kvs, od.IsDictOf (intKind prog w) kvs ∧ All2 (fun (kv : Int × Value) (p : Int × Int) => kv.1 = p.1 ∧ VInt kv.2 p.2) kvs M
theorem intD_keys {kvs : List (Int × Value)} {M : List (Int × Int)} (h : All2 (fun (kv : Int × Value) (p : Int × Int) => kv.1 = p.1 ∧ VInt kv.2 p.2) kvs M) : kvs.map (·.1) = M.map (·.1) := by
  induction h with
  | nil => rfl
  | cons h1 _ ih => rw [List.map_cons, List.map_cons, ih, h1.1]
theorem IntD.nil : IntD prog w emptyDict [] := ⟨[], ⟨#[], 0, ExactDict.new, rfl, (fun _ he => by simp at he), Pairs.nil, List.nodup_nil⟩, .nil⟩
theorem IntD.cls {od : Obj} {M : List (Int × Int)} (h : IntD prog w od M) : od.cls = .type "dict" := let ⟨_, ⟨_, _, hE, _⟩, _⟩ := h; hE.1
theorem r_intPut {dd : Addr} {od : Obj} {idx : Nat} {k x : Value} {M : List (Int × Int)} {p : Int × Int} {Q : Unit → Shared → Prop} (hi : tr[idx]? = some (dd, od)) (I : FIn gB O L m S tr s) (hD : IntD prog w od M) (hk : VInt k p.1) (hx : VInt x p.2) (hn : p.1 ∉ M.map (·.1)) (hz : M.length ≤ 1000)
    (h : ∀ s' od', FIn gB O L m S (tr.set idx (dd, od')) s' → IntD prog w od' (M ++ [p]) → Q () s') : wpAny (model prog w) A (dictSet dd k x) Q E s := by
  obtain ⟨kvs, hd, hA⟩ := hD
  obtain ⟨t, rfl⟩ := hk
  have hlen := hA.length
  refine wpAny_dictSet_pairs (knd := intKind prog w) (intKind_is _ _ _ _) (Heap.dictOf_iff.mpr ⟨od, I.at hi, hd⟩) (fun h' hm' hs' => ?_) (by rw [hlen, sizeLine_eq]; exact oL ‹_› (by exact rfl))
  obtain ⟨od', ho', hd'⟩ := Heap.dictOf_iff.mp hm'
  refine h _ od' (I.turn hi hs' ho') ⟨_, hd', ?_⟩
  have hkeys : kvs.map (·.1) = M.map (·.1) := intD_keys hA
  have hany : ¬ (kvs.any fun kv => decide (kv.1 = p.1)) = true := by
    rw [List.any_eq_true]; rintro ⟨kv, hkv, he⟩
    refine hn ?_
    rw [← hkeys]
    exact List.mem_map.mpr ⟨kv, hkv, of_decide_eq_true he⟩
  rw [stored, if_neg hany]
  exact hA.snoc ⟨rfl, hx⟩
end
end Mine
end
section
open PySem PySem.W PySem.Calls PyProof.Rows
namespace Mine
section
variable {prog : Program} {w : World} {S : Addr → Obj → Prop} {gB : Heap} {H : HA} {adj : List (List Int × List (List Int))} {mg mb : Str → Option Value}

structure DSt (prog : Program) (w : World) (gB : Heap) (S : Addr → Obj → Prop) (H : HA) (od : Obj) (σ : HK (List Int)) (s : Shared) : Prop where
  pre : Pre gB s
  st : ∀ a o, S a o → s.heap.get? a = some o ∧ a ∉ tabP ∧ a ∉ [H.pl, H.pr, H.ds, H.dx]
  dx : s.heap.get? H.dx = some od
  pl : ∃ o, s.heap.get? H.pl = some o ∧ Pairs2 prog w S o σ.pl
  pr : ∃ o, s.heap.get? H.pr = some o ∧ Pairs2 prog w S o σ.pr
  ds : ∃ o, s.heap.get? H.ds = some o ∧ Dist prog w S o σ.ds

structure Sml (adj : List (List Int × List (List Int))) (n : Nat) (σ : HK (List Int)) : Prop where
  pl : σ.pl.length + n ≤ 90000
  pr : σ.pr.length + n ≤ 90000
  ds : σ.ds.length ≤ 900
  dom : ∀ k, (get adj k).isSome → (get σ.ds k).isSome

inductive DI (prog : Program) (w : World) (S : Addr → Obj → Prop) (H : HA) (adj : List (List Int × List (List Int))) (Sf : Addr → Obj → Prop) (al : Addr) (rf : Int) (n : Nat) (l : List Int) (rs : List (List Int)) (b : Bool) (σ' : HK (List Int)) (k : Nat) (m : Str → Option Value) (S' : Addr → Obj → Prop) (tr : List (Addr × Obj)) : Prop
  | mk (h1 : Sf = S')
    (h2 : m "self" = some (.ref H.x))
    (h3 : m "left" = some (.ref al))
    (σk opl opr ods)
    (h4 : tr = [(H.pl, opl), (H.pr, opr), (H.ds, ods)])
    (h5 : Pairs2 prog w S opl σk.pl)
    (h6 : Pairs2 prog w S opr σk.pr)
    (h7 : Dist prog w S ods σk.ds)
    (h8 : dfsRow adj rf (dfs adj rf n) l (rs.drop k) σk = some (b, σ'))
    (h9 : Sml adj (n + 1) σk) : DI prog w S H adj Sf al rf n l rs b σ' k m S' tr

theorem dfs_spec (B : Base w.params mg mb gB) (hS : HSt prog w gB S H adj) {es : List DictEntry} {nn : Nat} {rf : Int} {rt : Tok} (hf : FldO es (H.flds (.int rf rt)))
    (hd : [H.pl, H.pr, H.ds, H.dx].Nodup) :
    ∀ (n : Nat) (l : List Int) (σ : HK (List Int)) (b : Bool) (σ' : HK (List Int)), dfs adj rf n l σ = some (b, σ') →
    ∀ (A : Around) (s : Shared) (al : Addr) (Q : Value → Shared → Prop) (E : Value → Shared → Prop), Room A (n + 1) (4 * n + 10) → DSt prog w gB S H (dictOf es nn) σ s → Sml adj n σ → TupS prog w S al l →
    (∀ s', Post gB [H.pl, H.pr, H.ds] s s' → DSt prog w gB S H (dictOf es nn) σ' s' → Q (.bool b) s') →
    wpAny (model prog w) A (call (.ref 77) [.ref H.x, .ref al]) Q E s := by
  intro n
  induction n with
  | zero => intro l σ b σ' h; cases h
  | succ n ih =>
    intro l σ b σ' hdfs A s al Q E R D Z tl hQ
    unfold dfs at hdfs
    refine xa1_2 (Option.bind_eq_some_iff.mp hdfs) fun rs hrs hrow => ?_
    refine xa1_2 (D.pl) fun opl g1 p1 => ?_
    refine xa1_2 (D.pr) fun opr g2 p2 => ?_
    refine xa1_2 (D.ds) fun ods g3 p3 => ?_
    refine xa1_1 (hS.self) fun sl hx => ?_
    refine xa1_2 (hS.gl) fun ogl hgl pgl => ?_
    have hne : ∀ a o, S a o → a ≠ H.pl ∧ a ≠ H.pr ∧ a ≠ H.ds := fun a o h => by
      have := (D.st a o h).2.2
      replace this := nm4 this
      refine xi0_3 this.1 this.2.1 this.2.2.1
    have hd' := nd4 hd
    refine xa0_4 (hd') fun hp1 hp2 d6 _ => ?_
    refine xa0_3 (hp1) fun d1 d2 d3 => ?_
    refine xa0_2 (hp2) fun d4 d5 => ?_
    refine call_atQ B D.pre (at77 _) nc77 [("self", .ref H.x), ("left", .ref al)] [(H.pl, opl), (H.pr, opr), (H.ds, ods)] ?_ (ndi3 d1 d2 d4) R.depth (by kernel_rfl) (by kernel_rfl) (fun s₁ L Sf qx O A' hSf hL hO hA I hqx => ?_)
    · refine al3 ?_ ?_ ?_
      · refine xi0_2 g1 hS.npl
      · refine xi0_2 g2 hS.npr
      · refine xi0_2 g3 hS.nds
    have hF : ∀ a o, S a o → Sf a o := fun a o h => hSf ▸ Froz.of hL (D.st a o h).1 (D.st a o h).2.1 (nI3 (hne a o h).1 (hne a o h).2.1 (hne a o h).2.2)
    have hdx : Sf H.dx (dictOf es nn) := hSf ▸ Froz.of hL D.dx (D.pre.wd.notTab hS.ndx) (nI3 (Ne.symm d3) (Ne.symm d5) (Ne.symm d6))
    have R' : Room A' (n + 1) (4 * n + 11) := hA ▸ R.deeper (d := n + 1) (u := 4 * n + 11) (envAt 77 L)
    have U := R'.units1
    refine wpAny_execs_cons (r_for_list (gB := gB) (O := O) (L := L) R'.hh ?_)
    walk_at "q"
    refine PyProof.Rows.Subscript_ (Attribute_Name_ (r_loc I rfl (r_attr B I (I.get (hF _ _ hx)) (I.get hdx) hf rfl rfl (f80_graph_left _) fun s₂ I _ => r_loc I rfl ?_)))
    walk_at "q"
    refine r_item I hF U tl (I.get (hF _ _ hgl)) pgl hrs fun v s₃ hv I _ => ?_
    walk_at "q"
    refine xa3_4 (hv) fun la lo items he3 hl1 hl2 hl3 => ?_
    obtain rfl := he3
    have fin : ∀ {m' opl opr ods s' b₂ σ₂} {xs : List (Addr × Obj)}, FIn gB O L m' Sf (xs ++ [(H.pl, opl), (H.pr, opr), (H.ds, ods)]) s' → b₂ = b → σ₂ = σ' → Pairs2 prog w S opl σ₂.pl → Pairs2 prog w S opr σ₂.pr → Dist prog w S ods σ₂.ds →
        ((∃ m' S' tr', FIn gB O L m' S' tr' s' ∧ ∀ a o, Sf a o → S' a o) ∧ (Post gB [H.pl, H.pr, H.ds] s s' → Q (.bool b₂) s')) := by
      intro m' opl opr ods s' b₂ σ₂ xs I e1 e2 p1 p2 p3
      subst e1 e2
      refine xi0_2 ⟨_, _, _, I, fun _ _ h => h⟩ (fun P => hQ s' P ⟨P.pre, fun a o h => ⟨I.get (hF a o h), (D.st a o h).2⟩, I.get hdx, ⟨opl, (I.tk (H.pl, opl) (by simp)).1, p1⟩, ⟨opr, (I.tk (H.pr, opr) (by simp)).1, p2⟩, ⟨ods, (I.tk (H.ds, ods) (by simp)).1, p3⟩⟩)
    have hne' : H.x ∉ [H.pl, H.pr] ∧ H.x ∉ tabP ∧ H.dx ∉ [H.pl, H.pr] ∧ H.dx ∉ tabP := by
      have a1 := hne _ _ hx
      refine xi0_4 (nI2 a1.1 a1.2.1) ((D.st _ _ hx).2.1) (nI2 (Ne.symm d3) (Ne.symm d5)) (D.pre.wd.notTab hS.ndx)
    have hSw : ∀ {m' : Str → Option Value} {tr : List (Addr × Obj)} {s' : Shared}, FIn gB O L m' Sf tr s' → ∀ a o, S a o → s'.heap.get? a = some o ∧ a ∉ tabP ∧ a ∉ [H.pl, H.pr] := fun I a o h =>
      ⟨I.get (hF a o h), (D.st a o h).2.1, nI2 (hne a o h).1 (hne a o h).2.1⟩
    have hplpr : H.pl ≠ H.pr := d1
    have doSwap : ∀ {p1 p2 p3 p4 p5 p6 : Pos} (_ : (p2.endLine == p4.line) = true) {m' : Str → Option Value} {it : Addr} {io opl opr ods : Obj} {s' : Shared} {σ1 : HK (List Int)} {ar : Addr} {r : List Int} {Qf : Flow → Shared → Prop},
        FIn gB O L m' Sf [(it, io), (H.pl, opl), (H.pr, opr), (H.ds, ods)] s' → m' "self" = some (.ref H.x) → m' "left" = some (.ref al) → m' "right" = some (.ref ar) → TupS prog w S ar r →
        Pairs2 prog w S opl σ1.pl → Pairs2 prog w S opr σ1.pr → σ1.pl.length ≤ 100000 → σ1.pr.length ≤ 100000 →
        (∀ s'' opl' opr', FIn gB O L m' Sf [(it, io), (H.pl, opl'), (H.pr, opr'), (H.ds, ods)] s'' → Pairs2 prog w S opl' (swapLR σ1 l r).pl → Pairs2 prog w S opr' (swapLR σ1 l r).pr → Qf .next s'') →
        wpAny (model prog w) (A') (exec (.Expr (.Call (.Attribute (.Name "self" p1) "_swap_lr" p2) [.Name "left" p3, .Name "right" p5] [] p4) p6) (envAt 77 L)) Qf (fun _ _ => False) s' := by
      intro p1 p2 p3 p4 p5 p6 hline m' it io opl opr ods s' σ1 ar r Qf I hms hml hmr tr q1 q2 z1 z2 hq
      refine wpAny_Expr (r_callm2 B I hms (I.get (hF _ _ hx)) (I.get hdx) hf rfl (m80_swap_lr _) hml hmr ?_ (hline := hline))
      refine swap_spec (S := S) (σ := σ1) B R'.mono I.pre ⟨sl, I.get (hF _ _ hx)⟩ (I.get hdx) hf hne' (I.at (i := 1) rfl) (I.at (i := 2) rfl) hS.npl hS.npr hplpr (hSw I) q1 q2 tl tr z1 z2 fun s'' opl' opr' P g1 g2 q1 q2 => ?_
      walk_at "q"
      exact hq s'' opl' opr' (I.back2 P (i := 1) (j := 2) rfl rfl g1 g2) q1 q2
    refine let D1 := DI prog w S H adj Sf al rf n l rs b σ'; ?_
    refine xi6_6 la items _ _ _ D1 rfl I ?_ ⟨rfl, rfl, rfl, σ, opl, opr, ods, rfl, p1, p2, p3, hrow, Z⟩ ?_ ?_
    · intro k m S' tr hp4
      obtain ⟨he5, _⟩ := hp4
      obtain rfl := he5
      refine xi1_2 lo (hF _ _ hl1) hl2
    · intro it k m S' tr s₄ io hk hp6 I
      obtain ⟨he7, hms, hml, σk, opl, opr, ods, he8, p1, p2, p3, hrow, Z⟩ := hp6
      obtain rfl := he7
      obtain rfl := he8
      obtain ⟨r, hr, ar, har, tr⟩ := hl3.getD hk .none
      rw [har]
      have hdrop : rs.drop k = r :: rs.drop (k + 1) := by
        obtain ⟨hk', e⟩ := List.getElem?_eq_some_iff.mp hr
        rw [List.drop_eq_getElem_cons hk', e]
      rw [hdrop, dfsRow] at hrow
      refine wpAny_assign_Name (r_st I fun s₅ I => ?_)
      walk_at "q"
      refine wpAny_execs_cons (wpAny_If (wpAny_isTrue_Compare1 ?_))
      walk_at "q"
      refine r_loc I rfl (Attribute_Name_ (r_loc I hms (r_attr B I (I.get (hF _ _ hx)) (I.get hdx) hf rfl rfl (f80_pair_right _) fun s₆ I _ => ?_)))
      walk_at "q"
      refine r_notin I hF U tr (I.at (i := 2) rfl) hS.npr p2 fun s₇ I _ => wpAny_truthy_bool ?_
      walk_at "q"
      cases hpr : get σk.pr r with
      | none =>
        rw [hpr] at hrow
        refine xa1_2 (Option.bind_eq_some_iff.mp hrow) fun d hd' hrow => ?_
        first | refine ifTb rfl ?_ | refine wifTb rfl ?_ | simp only [Option.isSome_none, Bool.not_false, if_true]
        refine wpAny_execs_cons (wpAny_If (wpAny_isTrue_Compare1 ?_))
        walk_at "q"
        refine Attribute_Name_ (r_loc I hms (r_attr B I (I.get (hF _ _ hx)) (I.get hdx) hf rfl rfl (f80_reference_distance _) fun s₈ I _ => ?_))
        walk_at "q"
        refine wpAny_BinOp (PyProof.Rows.Subscript_ (Attribute_Name_ (r_loc I hms (r_attr B I (I.get (hF _ _ hx)) (I.get hdx) hf rfl rfl (f80_dist_left _) fun s₉ I _ => r_loc I hml ?_))))
        walk_at "q"
        refine r_item I hF U tl (I.at (i := 3) rfl) p3 hd' fun v s₁₀ hv I _ => ?_
        walk_at "q"
        refine xa1_1 (hv) fun t₁ he9 => ?_
        obtain rfl := he9
        refine wpAny_Constant_int (PyProof.Rows.add_int (PyProof.Rows.eq_int (wpAny_truthy_bool ?_)))
        walk_at "q"
        replace I := I.toks (s₁₀.toks + 1 + 1)
        by_cases hrf : rf = d + 1
        · rw [if_pos hrf] at hrow
          simp only [Option.some.injEq, Prod.mk.injEq] at hrow
          refine xa0_2 (hrow) fun he10 he11 => ?_
          first | refine ifT (decide_eq_true hrf) ?_ | refine ifT (beq_iff_eq.mpr hrf) ?_ | refine ifT (by simpa using hrf) ?_ | refine wifT (by simpa using hrf) ?_ | rw [if_pos (by simpa using hrf)]
          refine wpAny_execs_cons (doSwap rfl I hms hml rfl tr p1 p2 (by have := Z.pl; omega) (by have := Z.pr; omega) fun s₁₁ opl' opr' I p1 p2 => ?_)
          walk_at "q"
          refine wpAny_execs_cons (wpAny_Return_some (wpAny_Constant_bool ?_))
          walk_at "q"
          exact hqx _ _ (fin (xs := [(it, io)]) I he10 he11 p1 p2 p3)
        · rw [if_neg hrf] at hrow
          first | refine ifF (ne_true_of_eq_false (decide_eq_false hrf)) ?_ | refine ifF (ne_true_of_eq_false (beq_eq_false_iff_ne.mpr hrf)) ?_ | refine ifF (by simpa using hrf) ?_ | refine wifF (by simpa using hrf) ?_ | rw [if_neg (by simpa using hrf)]
          refine wpAny_execs_nil (wpAny_execs_nil (wpAny_execs_nil ?_))
          walk_at "q"
          exact ⟨_, _, _, I, rfl, hms, hml, σk, opl, opr, ods, rfl, p1, p2, p3, hrow, Z⟩
      | some o =>
        rw [hpr] at hrow
        refine xa1_2 (Option.bind_eq_some_iff.mp hrow) fun d' hd' hrow => ?_
        refine xa1_2 (Option.bind_eq_some_iff.mp hrow) fun d hd hrow => ?_
        first | refine ifFb rfl ?_ | refine wifFb rfl ?_ | simp only [Option.isSome_some, Bool.not_true, Bool.false_eq_true, if_false]
        refine wpAny_execs_cons (wpAny_Assign_Name ?_)
        walk_at "q"
        refine PyProof.Rows.Subscript_ (Attribute_Name_ (r_loc I hms (r_attr B I (I.get (hF _ _ hx)) (I.get hdx) hf rfl rfl (f80_pair_right _) fun s₈ I _ => r_loc I rfl ?_)))
        walk_at "q"
        refine r_item I hF U tr (I.at (i := 2) rfl) p2 hpr fun v s₉ hv I _ => ?_
        walk_at "q"
        refine xa1_2 (hv) fun ao he12 to => ?_
        obtain rfl := he12
        refine r_st I fun s₁₀ I => ?_
        walk_at "q"
        refine wpAny_execs_cons (wpAny_If (wpAny_isTrue_Compare1 ?_))
        walk_at "q"
        refine PyProof.Rows.Subscript_ (Attribute_Name_ (r_loc I hms (r_attr B I (I.get (hF _ _ hx)) (I.get hdx) hf rfl rfl (f80_dist_left _) fun s₁₁ I _ => r_loc I rfl ?_)))
        walk_at "q"
        refine r_item I hF U to (I.at (i := 3) rfl) p3 hd' fun v s₁₂ hv I _ => ?_
        walk_at "q"
        refine xa1_1 (hv) fun t₁ he13 => ?_
        obtain rfl := he13
        refine wpAny_BinOp (PyProof.Rows.Subscript_ (Attribute_Name_ (r_loc I hms (r_attr B I (I.get (hF _ _ hx)) (I.get hdx) hf rfl rfl (f80_dist_left _) fun s₁₃ I _ => r_loc I hml ?_))))
        walk_at "q"
        refine r_item I hF U tl (I.at (i := 3) rfl) p3 hd fun v s₁₄ hv I _ => ?_
        walk_at "q"
        refine xa1_1 (hv) fun t₂ he14 => ?_
        obtain rfl := he14
        refine wpAny_Constant_int (PyProof.Rows.add_int (PyProof.Rows.eq_int (wpAny_truthy_bool ?_)))
        walk_at "q"
        replace I := I.toks (s₁₄.toks + 1 + 1)
        by_cases hdd : d' = d + 1
        · rw [if_pos hdd] at hrow
          first | refine ifT (decide_eq_true hdd) ?_ | refine ifT (beq_iff_eq.mpr hdd) ?_ | refine ifT (by simpa using hdd) ?_ | refine wifT (by simpa using hdd) ?_ | rw [if_pos (by simpa using hdd)]
          refine xa1_2 (Option.bind_eq_some_iff.mp hrow) fun hp15 hsub hrow => ?_
          obtain ⟨b₁, σ₁⟩ := hp15
          dsimp only at hrow
          have G := dfs_len n o σk b₁ σ₁ hsub
          refine wpAny_execs_cons (wpAny_If ?_)
          walk_at "q"
          refine wpAny_isTrue_value (r_callm1 B I hms (I.get (hF _ _ hx)) (I.get hdx) hf rfl (m80_dfs_hopcroft_karp _) rfl ?_)
          walk_at "q"
          refine ih o σk b₁ σ₁ hsub _ _ _ _ _ R'.mono ⟨I.pre, fun a oo h => ⟨I.get (hF a oo h), (D.st a oo h).2⟩, I.get hdx, ⟨opl, I.at (i := 1) rfl, p1⟩, ⟨opr, I.at (i := 2) rfl, p2⟩, ⟨ods, I.at (i := 3) rfl, p3⟩⟩ ⟨by have := Z.pl; omega, by have := Z.pr; omega, Z.ds, Z.dom⟩ to fun s₁₅ P D' => ?_
          refine xa1_2 (D'.pl) fun opl' g1 p1 => ?_
          refine xa1_2 (D'.pr) fun opr' g2 p2 => ?_
          refine xa1_2 (D'.ds) fun ods' g3 p3 => ?_
          replace I := I.back3 P (i := 1) (j := 2) (k := 3) rfl rfl rfl g1 g2 g3
          refine wpAny_truthy_bool ?_
          walk_at "q"
          cases b₁ with
          | true =>
            simp only [if_true, Option.some.injEq, Prod.mk.injEq] at hrow
            refine xa0_2 (hrow) fun he16 he17 => ?_
            first | refine ifTb rfl ?_ | refine wifTb rfl ?_ | simp only [if_true]
            refine wpAny_execs_cons (doSwap rfl I hms hml rfl tr p1 p2 (by have := Z.pl; have := G.2.1; omega) (by have := Z.pr; have := G.2.2.1; omega) fun s₁₁ opl' opr' I p1 p2 => ?_)
            walk_at "q"
            refine wpAny_execs_cons (wpAny_Return_some (wpAny_Constant_bool ?_))
            walk_at "q"
            exact hqx _ _ (fin (xs := [(it, io)]) I he16 he17 p1 p2 p3)
          | false =>
            simp only [Bool.false_eq_true, if_false] at hrow
            first | refine ifFb rfl ?_ | refine wifFb rfl ?_ | simp only [Bool.false_eq_true, if_false]
            refine wpAny_execs_nil (wpAny_execs_nil (wpAny_execs_nil (wpAny_execs_nil ?_)))
            walk_at "q"
            refine xa0_2 (G.1 rfl) fun e1 e2 => ?_
            refine xa0_2 (G.2.2.2 Z.dom) fun e3 e4 => ?_
            exact ⟨_, _, _, I, rfl, hms, hml, σ₁, opl', opr', ods', rfl, p1, p2, p3, hrow, ⟨e1 ▸ Z.pl, e2 ▸ Z.pr, e4 ▸ Z.ds, e3⟩⟩
        · rw [if_neg hdd] at hrow
          first | refine ifF (ne_true_of_eq_false (decide_eq_false hdd)) ?_ | refine ifF (ne_true_of_eq_false (beq_eq_false_iff_ne.mpr hdd)) ?_ | refine ifF (by simpa using hdd) ?_ | refine wifF (by simpa using hdd) ?_ | rw [if_neg (by simpa using hdd)]
          refine wpAny_execs_nil (wpAny_execs_nil (wpAny_execs_nil ?_))
          walk_at "q"
          exact ⟨_, _, _, I, rfl, hms, hml, σk, opl, opr, ods, rfl, p1, p2, p3, hrow, Z⟩
    · intro m S' tr s₄ hp18 I
      obtain ⟨he19, hms, hml, σk, opl, opr, ods, he20, p1, p2, p3, hrow, Z⟩ := hp18
      obtain rfl := he19
      obtain rfl := he20
      rw [List.drop_of_length_le (by rw [hl3.length]; omega), dfsRow] at hrow
      simp only [Option.some.injEq, Prod.mk.injEq] at hrow
      refine xa0_2 (hrow) fun he21 he22 => ?_
      refine wpAny_execs_cons (wpAny_Assign_Subscript ?_)
      walk_at "q"
      refine r_glob B I (gFAKE_INFINITY _) ?_
      walk_at "q"
      refine Attribute_Name_ (r_loc I hms (r_attr B I (I.get (hF _ _ hx)) (I.get hdx) hf rfl rfl (f80_dist_left _) fun s₅ I _ => r_loc I hml ?_))
      walk_at "q"
      refine r_set I hF U tl (i := 2) rfl p3 ⟨_, rfl⟩ (by have := Z.ds; exact oL ‹_› (by exact rfl)) fun s₆ ods' I p3 => ?_
      walk_at "q"
      refine wpAny_execs_cons (wpAny_Return_some (wpAny_Constant_bool ?_))
      walk_at "q"
      exact hqx _ _ (fin (xs := []) I he21 he22 p1 p2 p3)
end
end Mine
end
section
open PySem PySem.W PySem.Calls PyProof.Rows
namespace Mine
section
variable {prog : Program} {w : World} {S : Addr → Obj → Prop} {gB : Heap} {H : HA} {adj : List (List Int × List (List Int))} {mg mb : Str → Option Value}

structure BSt (prog : Program) (w : World) (S : Addr → Obj → Prop) (H : HA) (ds : List (List Int × Int)) (rf : Int) (s : Shared) : Prop where
  ds : ∃ o, s.heap.get? H.ds = some o ∧ Dist prog w S o ds
  dx : ∃ es n t, s.heap.get? H.dx = some (dictOf es n) ∧ FldO es (H.flds (.int rf t))

theorem flds_again (H : HA) (a b : Value) (n : Str) : List.lookup n (("_reference_distance", a) :: H.flds b) = List.lookup n (H.flds a) := by
  unfold HA.flds
  simp only [List.lookup_cons]
  by_cases h1 : n = "_reference_distance"
  · subst h1; rfl
  · have : (n == "_reference_distance") = false := by simpa using h1
    simp only [this]

inductive B1I (prog : Program) (w : World) (S : Addr → Obj → Prop) (H : HA) (adj : List (List Int × List (List Int))) (Sf : Addr → Obj → Prop) (q : Addr) (es : List DictEntry) (nn : Nat) (σ : HK (List Int)) (k : Nat) (m : Str → Option Value) (S' : Addr → Obj → Prop) (tr : List (Addr × Obj)) : Prop
  | mk (h1 : Sf = S')
    (h2 : m "self" = some (.ref H.x))
    (h3 : m "vertex_queue" = some (.ref q))
    (items qn ods qs dsk)
    (h4 : tr = [(q, lst items qn), (H.ds, ods), (H.dx, dictOf es nn)])
    (h5 : Tups prog w S items qs)
    (h6 : Dist prog w S ods dsk)
    (h7 : bfsInit σ.pl ((adj.map (·.1)).drop k) qs dsk = bfsInit σ.pl (adj.map (·.1)) [] σ.ds)
    (h8 : qs.length ≤ k)
    (h9 : dsk.length = σ.ds.length)
    (h10 : (∀ k, (get adj k).isSome → (get dsk k).isSome)) : B1I prog w S H adj Sf q es nn σ k m S' tr
inductive B2I (prog : Program) (w : World) (S : Addr → Obj → Prop) (H : HA) (adj : List (List Int × List (List Int))) (gB : Heap) (og : Og) (L : Addr) (Sf : Addr → Obj → Prop) (q : Addr) (σ : HK (List Int)) (ds' : List (List Int × Int)) (rf' : Int) (n : Nat) (s₀ : Shared) : Prop
  | mk (m items qn ods es n' qs dsk rf t)
    (h1 : FIn gB og L m Sf [(q, lst items qn), (H.ds, ods), (H.dx, dictOf es n')] s₀)
    (h2 : m "self" = some (.ref H.x))
    (h3 : m "vertex_queue" = some (.ref q))
    (h4 : Tups prog w S items qs)
    (h5 : Dist prog w S ods dsk)
    (h6 : FldO es (H.flds (.int rf t)))
    (h7 : bfsLoop adj σ.pr n qs dsk rf = some (ds', rf'))
    (h8 : qs.length + 20 * n ≤ 420)
    (h9 : dsk.length ≤ 900) : B2I prog w S H adj gB og L Sf q σ ds' rf' n s₀
inductive B3I (prog : Program) (w : World) (S : Addr → Obj → Prop) (H : HA) (adj : List (List Int × List (List Int))) (Sf : Addr → Obj → Prop) (q ax : Addr) (σ : HK (List Int)) (rs : List (List Int)) (x : List Int) (qs : List (List Int)) (qs' : List (List Int)) (dsk' : List (List Int × Int)) (rf2 : Int) (k : Nat) (m : Str → Option Value) (S' : Addr → Obj → Prop) (tr : List (Addr × Obj)) : Prop
  | mk (h1 : Sf = S')
    (h2 : m "self" = some (.ref H.x))
    (h3 : m "vertex_queue" = some (.ref q))
    (h4 : m "left_vertex" = some (.ref ax))
    (items qn ods es n' q1 dsk1 rf1 t)
    (h5 : tr = [(q, lst items qn), (H.ds, ods), (H.dx, dictOf es n')])
    (h6 : Tups prog w S items q1)
    (h7 : Dist prog w S ods dsk1)
    (h8 : FldO es (H.flds (.int rf1 t)))
    (h9 : bfsRow σ.pr x (rs.drop k) q1 dsk1 rf1 = some (qs', dsk', rf2))
    (h10 : q1.length ≤ qs.length + k)
    (h11 : dsk1.length ≤ 900) : B3I prog w S H adj Sf q ax σ rs x qs qs' dsk' rf2 k m S' tr

theorem bfs_spec (B : Base w.params mg mb gB) (hS : HSt prog w gB S H adj) {es : List DictEntry} {nn : Nat} {rf0 : Value} (hf : FldO es (H.flds rf0))
    (hd : [H.pl, H.pr, H.ds, H.dx].Nodup) {σ : HK (List Int)} {N : Nat} {ds' : List (List Int × Int)} {rf' : Int} (hbfs : bfs adj N σ = some (ds', rf'))
    (zN : N ≤ 20) (zadj : adj.length ≤ 20) (zrow : ∀ k rs, get adj k = some rs → rs.length ≤ 20) (zds : σ.ds.length ≤ 900) (hdom : ∀ k, (get adj k).isSome → (get σ.ds k).isSome)
    {A : Around} {s : Shared} {Q : Value → Shared → Prop} {E : Value → Shared → Prop} (R : Room A 1 10) (D : DSt prog w gB S H (dictOf es nn) σ s)
    (hQ : ∀ s', Post gB [H.ds, H.dx] s s' → BSt prog w S H ds' rf' s' → Q (.bool (rf' != -1)) s') :
    wpAny (model prog w) A (call (.ref 63) [.ref H.x]) Q E s := by
  obtain ⟨opl, g1, p1⟩ := D.pl
  obtain ⟨opr, g2, p2⟩ := D.pr
  obtain ⟨ods, g3, p3⟩ := D.ds
  obtain ⟨sl, hx⟩ := hS.self
  obtain ⟨ogl, hgl, pgl⟩ := hS.gl
  obtain ⟨olf, lits, hlf, llf, tlf⟩ := hS.lf
  have hd' := nd4 hd
  obtain ⟨⟨d1, d2, d3⟩, ⟨d4, d5⟩, d6, _⟩ := hd'
  have hne : ∀ a o, S a o → a ≠ H.ds ∧ a ≠ H.dx := fun a o h => by
    have := (D.st a o h).2.2
    replace this := nm4 this
    refine xi0_2 this.2.2.1 this.2.2.2
  refine call_atQ B D.pre (at63 _) nc63 [("self", .ref H.x)] [(H.ds, ods), (H.dx, dictOf es nn)] ?_ (ndi2 d6) R.depth (by kernel_rfl) (by kernel_rfl) (fun s₁ L Sf qx O A' hSf hL hO hA I hqx => ?_)
  · refine al2 ?_ ?_
    · refine xi0_2 g3 hS.nds
    · refine xi0_2 D.dx hS.ndx
  have hF : ∀ a o, S a o → Sf a o := fun a o h => hSf ▸ Froz.of hL (D.st a o h).1 (D.st a o h).2.1 (nI2 (hne a o h).1 (hne a o h).2)
  have hplF : Sf H.pl opl := hSf ▸ Froz.of hL g1 (D.pre.wd.notTab hS.npl) (nI2 d2 d3)
  have hprF : Sf H.pr opr := hSf ▸ Froz.of hL g2 (D.pre.wd.notTab hS.npr) (nI2 d4 d5)
  have R' : Room A' (0) (7) := hA ▸ R.deeper (d := 0) (u := 7) (envAt 63 L)
  have U := R'.units1
  refine wpAny_execs_cons (wpAny_Assign_Name (PyProof.Rows.List_ (args_nil (r_newlist I fun q s₂ hq I => r_st I fun s₃ I => ?_))))
  walk_at "q"
  have fin : ∀ {m' items qn od es' n' t ds2 rf2 s'} {xs : List (Addr × Obj)}, FIn gB O L m' Sf (xs ++ [(q, lst items qn), (H.ds, od), (H.dx, dictOf es' n')]) s' → Dist prog w S od ds2 → FldO es' (H.flds (.int rf2 t)) → ds2 = ds' → rf2 = rf' →
      ((∃ m' S' tr', FIn gB O L m' S' tr' s' ∧ ∀ a o, Sf a o → S' a o) ∧ (Post gB [H.ds, H.dx] s s' → Q (.bool (rf' != -1)) s')) := by
    rintro m' items qn od es' n' t ds2 rf2 s' xs I p3 hf rfl rfl
    refine xi0_2 ⟨_, _, _, I, fun _ _ h => h⟩ (fun P => hQ s' P ⟨⟨od, (I.tk (H.ds, od) (by simp)).1, p3⟩, ⟨es', n', t, (I.tk (H.dx, dictOf es' n') (by simp)).1, hf⟩⟩)
  refine wpAny_execs_cons (r_for_list (gB := gB) (O := O) (L := L) R'.hh ?_)
  walk_at "q"
  refine Attribute_Name_ (r_loc I rfl (r_attr B I (I.get (hF _ _ hx)) (I.at (i := 2) rfl) hf rfl rfl (f80_left _) fun s₄ I _ => ?_))
  walk_at "q"
  refine let B1 := B1I prog w S H adj Sf q es nn σ; ?_
  refine xi6_6 H.lf lits _ _ _ B1 rfl I ?_ ⟨rfl, rfl, rfl, [], 0, ods, [], σ.ds, rfl, .nil, p3, rfl, Nat.le_refl _, rfl, hdom⟩ ?_ ?_
  · rintro k m S' tr ⟨rfl, _⟩
    refine xi1_2 olf (hF _ _ hlf) llf
  · rintro it k m S' tr s₅ io hk ⟨rfl, hms, hmq, items, qn, ods, qs, dsk, rfl, tq, p3, hinit, hql, hdl, hdm⟩ I
    obtain ⟨l, hl, al, hal, tl⟩ := tlf.getD hk .none
    have hadj : (get adj l).isSome := (get_isSome_iff adj l).mpr (List.mem_of_getElem? hl)
    rw [hal]
    have hdrop : (adj.map (·.1)).drop k = l :: (adj.map (·.1)).drop (k + 1) := by
      obtain ⟨hk', e⟩ := List.getElem?_eq_some_iff.mp hl
      rw [List.drop_eq_getElem_cons hk', e]
    have hkk : k < adj.length := by have := tlf.length; rw [List.length_map] at this; exact oQ' ‹_› ‹_›
    rw [hdrop, bfsInit] at hinit
    refine wpAny_assign_Name (r_st I fun s₆ I => ?_)
    walk_at "q"
    refine wpAny_execs_cons (wpAny_If (wpAny_isTrue_Compare1 ?_))
    walk_at "q"
    refine r_loc I rfl (Attribute_Name_ (r_loc I hms (r_attr B I (I.get (hF _ _ hx)) (I.at (i := 3) rfl) hf rfl rfl (f80_pair_left _) fun s₇ I _ => ?_)))
    walk_at "q"
    refine r_notin I hF U tl (I.get hplF) hS.npl p1 fun s₈ I _ => wpAny_truthy_bool ?_
    walk_at "q"
    cases hpl : (get σ.pl l).isSome with
    | false =>
      rw [hpl] at hinit
      simp only [Bool.false_eq_true, if_false] at hinit
      first | refine ifTb rfl ?_ | refine wifTb rfl ?_ | simp only [Bool.not_false, if_true]
      refine wpAny_execs_cons (wpAny_Expr (r_append I hmq (I.at (i := 1) rfl) rfl rfl (r_loc I rfl ⟨_, _, _, 1, items, qn, I, rfl, by have := tq.length; omega, fun s₉ I => ?_⟩)))
      refine wpAny_execs_cons (wpAny_Assign_Subscript (wpAny_Constant_int ?_))
      walk_at "q"
      replace I := I.toks (s₉.toks + 1)
      refine Attribute_Name_ (r_loc I hms (r_attr B I (I.get (hF _ _ hx)) (I.at (i := 3) rfl) hf rfl rfl (f80_dist_left _) fun s₁₀ I _ => r_loc I rfl ?_))
      walk_at "q"
      refine r_set I hF U tl (i := 2) rfl p3 ⟨_, rfl⟩ (by exact oE ‹_› ‹_› (by exact rfl)) fun s₁₁ ods' I p3 => ?_
      walk_at "q"
      refine wpAny_execs_nil (wpAny_execs_nil ⟨_, _, _, I, rfl, hms, hmq, _, _, ods', _, _, rfl, tq.snoc ⟨al, rfl, tl⟩, p3, hinit, by simp; assumption, by rw [put_length_of _ _ (hdm l hadj)]; exact hdl, fun k' hk' => ?_⟩)
      rw [get_put]; split
      · rfl
      · exact hdm k' hk'
    | true =>
      rw [hpl] at hinit
      simp only [if_true] at hinit
      first | refine ifFb rfl ?_ | refine wifFb rfl ?_ | simp only [Bool.not_true, Bool.false_eq_true, if_false]
      refine wpAny_execs_cons (wpAny_Assign_Subscript (r_glob B I (gFAKE_INFINITY _) ?_))
      walk_at "q"
      refine Attribute_Name_ (r_loc I hms (r_attr B I (I.get (hF _ _ hx)) (I.at (i := 3) rfl) hf rfl rfl (f80_dist_left _) fun s₁₀ I _ => r_loc I rfl ?_))
      walk_at "q"
      refine r_set I hF U tl (i := 2) rfl p3 ⟨_, rfl⟩ (by exact oE ‹_› ‹_› (by exact rfl)) fun s₁₁ ods' I p3 => ?_
      walk_at "q"
      refine wpAny_execs_nil (wpAny_execs_nil ⟨_, _, _, I, rfl, hms, hmq, _, _, ods', _, _, rfl, tq, p3, hinit, by exact Nat.le_succ_of_le ‹_›, by rw [put_length_of _ _ (hdm l hadj)]; exact hdl, fun k' hk' => ?_⟩)
      rw [get_put]; split
      · rfl
      · exact hdm k' hk'
  rintro m S' tr s₅ ⟨rfl, hms, hmq, items, qn, ods, qs, dsk, rfl, tq, p3, hinit, hql, hdl, hdm⟩ I
  rw [List.drop_of_length_le (by rw [tlf.length]; omega), bfsInit] at hinit
  unfold bfs at hbfs
  rw [← hinit] at hbfs
  have hlen : lits.length = adj.length := by have := tlf.length; rw [List.length_map] at this; exact this
  refine wpAny_execs_cons (plainObj_wpAny_Assign_Attribute (r_glob B I (gFAKE_INFINITY _) (r_loc I hms ?_)))
  walk_at "q"
  refine r_setattr B I (I.get (hF _ _ hx)) (i := 2) rfl hf (.inr rfl) (s80_reference_distance _) fun s₆ es₁ n₁ I hf₁ _ => ?_
  walk_at "q"
  replace hf₁ := hf₁.same (flds_again H _ _)
  refine let BI := B2I prog w S H adj gB O L Sf q σ ds' rf'; ?_
  refine wpAny_execs_cons (r_while BI ?_ N
    ⟨_, _, _, _, _, _, _, _, _, _, I, hms, hmq, tq, p3, hf₁, hbfs, by omega, by exact oE ‹_› ‹_› (by exact rfl)⟩)
  rintro n s₇ ⟨m, items, qn, ods, es, n', qs, dsk, rf, t, I, hms, hmq, tq, p3, hf, hloop, hz, hdz⟩
  refine isTrue_true ?_
  first | refine ifTb rfl ?_ | refine wifTb rfl ?_ | simp only [if_true]
  cases n with
  | zero => cases hloop
  | succ n =>
  refine wpAny_execs_cons (wpAny_If (wpAny_isTrue_Compare1 ?_))
  walk_at "q"
  refine r_len B I hmq (I.at (i := 0) rfl) (lstO _ _) (by have := tq.length; omega) (g_len _) fun s₈ t₁ I _ => ?_
  walk_at "q"
  refine wpAny_Constant_int (PyProof.Rows.eq_int (wpAny_truthy_bool ?_))
  walk_at "q"
  replace I := I.toks (s₈.toks + 1)
  cases tq with
  | nil =>
    first | refine ifT rfl ?_ | refine ifT (by simp) ?_ | refine wifT (by simp) ?_ | rw [if_pos (by simp)]
    simp only [bfsLoop, Option.some.injEq, Prod.mk.injEq] at hloop
    obtain ⟨e1, e2⟩ := hloop
    refine wpAny_execs_cons (wpAny_Break ?_)
    walk_at "q"
    refine wpAny_execs_cons (wpAny_Return_some (wpAny_Compare1 ?_))
    walk_at "q"
    refine Attribute_Name_ (r_loc I hms (r_attr B I (I.get (hF _ _ hx)) (I.at (i := 2) rfl) hf rfl rfl (f80_reference_distance _) fun s₉ I _ => ?_))
    walk_at "q"
    refine r_glob B I (gFAKE_INFINITY _) (PyProof.Rows.ne_int ?_)
    walk_at "q"
    subst e2
    exact hqx _ _ (fin (xs := []) I p3 hf e1 rfl)
  | @cons v x items qs hv tq =>
    obtain ⟨ax, rfl, tx⟩ := hv
    first | refine ifF (by simp; omega) ?_ | refine wifF (by simp; omega) ?_ | rw [if_neg (by simp; omega)]
    rw [bfsLoop] at hloop
    obtain ⟨d, hd, hloop⟩ := Option.bind_eq_some_iff.mp hloop
    refine wpAny_execs_nil (wpAny_execs_cons (wpAny_Assign_Name ?_))
    walk_at "q"
    refine r_pop0 I hmq (i := 0) rfl (by have := tq.length; simp at hz; omega) fun s₉ I => r_st I fun s₁₀ I => ?_
    walk_at "q"
    refine wpAny_execs_cons (wpAny_If (isTrue_chain ?_))
    walk_at "q"
    refine PyProof.Rows.Subscript_ (Attribute_Name_ (r_loc I hms (r_attr B I (I.get (hF _ _ hx)) (I.at (i := 2) rfl) hf rfl rfl (f80_dist_left _) fun s₁₁ I _ => r_loc I rfl ?_)))
    walk_at "q"
    refine r_item I hF U tx (I.at (i := 1) rfl) p3 hd fun v s₁₂ hv I _ => ?_
    walk_at "q"
    obtain ⟨t₂, rfl⟩ := hv
    refine r_chain2 (c1 := d == rf) (c2 := rf == -1) (P := fun s' => FIn gB O L (fun y => if y = "left_vertex" then some (.ref ax) else m y) Sf [(q, lst items (qn + 1)), (H.ds, ods), (H.dx, dictOf es n')] s')
      (Attribute_Name_ (r_loc I hms (r_attr B I (I.get (hF _ _ hx)) (I.at (i := 2) rfl) hf rfl rfl (f80_reference_distance _) fun s₁₃ I _ => PyProof.Rows.eq_int ⟨rfl, I, r_glob B I (gFAKE_INFINITY _) (PyProof.Rows.eq_int ⟨rfl, I⟩)⟩))) fun s₁₃ I => ?_
    walk_at "q"
    have again : ∀ {s' : Shared} {m' : Str → Option Value} {items' qn' ods' es' n'' qs' dsk' rf2 t'}, FIn gB O L m' Sf [(q, lst items' qn'), (H.ds, ods'), (H.dx, dictOf es' n'')] s' → m' "self" = some (.ref H.x) → m' "vertex_queue" = some (.ref q) → Tups prog w S items' qs' → Dist prog w S ods' dsk' →
        FldO es' (H.flds (.int rf2 t')) → bfsLoop adj σ.pr n qs' dsk' rf2 = some (ds', rf') → qs'.length + 20 * n ≤ 420 → dsk'.length ≤ 900 →
        ∃ k, k < n + 1 ∧ BI k s' :=
      fun a1 a2 a3 a4 a5 a6 a7 a8 a9 => ⟨n, Nat.lt_succ_self n, _, _, _, _, _, _, _, _, _, _, a1, a2, a3, a4, a5, a6, a7, a8, a9⟩
    by_cases hc1 : d = rf ∧ rf = -1
    · rw [if_pos hc1] at hloop
      rw [if_pos (by simp [hc1.1, hc1.2])]
      exact wpAny_execs_cons (wpAny_Continue (again I hms hmq tq p3 hf hloop (by simp at hz; omega) hdz))
    rw [if_neg hc1] at hloop
    first | refine ifF (ne_true_of_eq_false (decide_eq_false hc1)) ?_ | refine ifF (ne_true_of_eq_false (beq_eq_false_iff_ne.mpr hc1)) ?_ | refine ifF (by simpa using hc1) ?_ | refine wifF (by simpa using hc1) ?_ | rw [if_neg (by simpa using hc1)]
    refine wpAny_execs_nil (wpAny_execs_cons (wpAny_If (isTrue_chain ?_)))
    walk_at "q"
    refine PyProof.Rows.Subscript_ (Attribute_Name_ (r_loc I hms (r_attr B I (I.get (hF _ _ hx)) (I.at (i := 2) rfl) hf rfl rfl (f80_dist_left _) fun s₁₄ I _ => r_loc I rfl ?_)))
    walk_at "q"
    refine r_item I hF U tx (I.at (i := 1) rfl) p3 hd fun v s₁₅ hv I _ => ?_
    walk_at "q"
    obtain ⟨t₃, rfl⟩ := hv
    refine r_chain2 (c1 := decide (d ≥ rf)) (c2 := rf != -1) (P := fun s' => FIn gB O L (fun y => if y = "left_vertex" then some (.ref ax) else m y) Sf [(q, lst items (qn + 1)), (H.ds, ods), (H.dx, dictOf es n')] s')
      (Attribute_Name_ (r_loc I hms (r_attr B I (I.get (hF _ _ hx)) (I.at (i := 2) rfl) hf rfl rfl (f80_reference_distance _) fun s₁₆ I _ => ge_int ⟨rfl, I, r_glob B I (gFAKE_INFINITY _) (PyProof.Rows.ne_int ⟨rfl, I⟩)⟩))) fun s₁₆ I => ?_
    walk_at "q"
    by_cases hc2 : rf ≤ d ∧ rf ≠ -1
    · rw [if_pos hc2] at hloop
      rw [if_pos (by simp [hc2.1, hc2.2])]
      exact wpAny_execs_cons (wpAny_Continue (again I hms hmq tq p3 hf hloop (by simp at hz; omega) hdz))
    rw [if_neg hc2] at hloop
    first | refine ifF (ne_true_of_eq_false (decide_eq_false hc2)) ?_ | refine ifF (ne_true_of_eq_false (beq_eq_false_iff_ne.mpr hc2)) ?_ | refine ifF (by simpa using hc2) ?_ | refine wifF (by simpa using hc2) ?_ | rw [if_neg (by simpa using hc2)]
    obtain ⟨rs, hrs, hloop⟩ := Option.bind_eq_some_iff.mp hloop
    obtain ⟨⟨qs', dsk', rf2⟩, hrow, hloop⟩ := Option.bind_eq_some_iff.mp hloop
    dsimp only at hloop
    refine wpAny_execs_nil (wpAny_execs_cons (r_for_list (gB := gB) (O := O) (L := L) R'.hh ?_))
    walk_at "q"
    refine PyProof.Rows.Subscript_ (Attribute_Name_ (r_loc I hms (r_attr B I (I.get (hF _ _ hx)) (I.at (i := 2) rfl) hf rfl rfl (f80_graph_left _) fun s₁₇ I _ => r_loc I rfl ?_)))
    walk_at "q"
    refine r_item I hF U tx (I.get (hF _ _ hgl)) pgl hrs fun v s₁₈ hv I _ => ?_
    walk_at "q"
    obtain ⟨la, lo, ritems, rfl, hl1, hl2, hl3⟩ := hv
    have hrl := zrow x rs hrs
    refine let B3 := B3I prog w S H adj Sf q ax σ rs x qs qs' dsk' rf2; ?_
    refine ⟨la, ritems, _, _, _, B3,
      rfl, I, ?_, ⟨rfl, hms, hmq, rfl, items, qn + 1, ods, es, n', qs, dsk, rf, t, rfl, tq, p3, hf, hrow, by omega, hdz⟩, ?_, ?_⟩
    · rintro k m S' tr ⟨rfl, _⟩
      refine xi1_2 lo (hF _ _ hl1) hl2
    · clear hrow hf p3 tq I hd again hloop hms hmq hdz
      rintro it k m S' tr s₁₉ io hk ⟨rfl, hms, hmq, hml, items, qn, ods, es, n', q1, dsk1, rf1, t, rfl, tq, p3, hf, hrow, hql, hdz⟩ I
      obtain ⟨r, hr, ar, har, tr⟩ := hl3.getD hk .none
      rw [har]
      have hdrop : rs.drop k = r :: rs.drop (k + 1) := by
        obtain ⟨hk', e⟩ := List.getElem?_eq_some_iff.mp hr
        rw [List.drop_eq_getElem_cons hk', e]
      have hkr : k < rs.length := (List.getElem?_eq_some_iff.mp hr).1
      rw [hdrop, bfsRow] at hrow
      refine wpAny_assign_Name (r_st I fun s₂₀ I => ?_)
      walk_at "q"
      refine wpAny_execs_cons (wpAny_If (wpAny_isTrue_Compare1 ?_))
      walk_at "q"
      refine r_loc I rfl (Attribute_Name_ (r_loc I hms (r_attr B I (I.get (hF _ _ hx)) (I.at (i := 3) rfl) hf rfl rfl (f80_pair_right _) fun s₂₁ I _ => ?_)))
      walk_at "q"
      refine r_notin I hF U tr (I.get hprF) hS.npr p2 fun s₂₂ I _ => wpAny_truthy_bool ?_
      walk_at "q"
      cases hpr : get σ.pr r with
      | none =>
        rw [hpr] at hrow
        first | refine ifTb rfl ?_ | refine wifTb rfl ?_ | simp only [Option.isSome_none, Bool.not_false, if_true]
        refine wpAny_execs_cons (wpAny_If (wpAny_isTrue_Compare1 ?_))
        walk_at "q"
        refine Attribute_Name_ (r_loc I hms (r_attr B I (I.get (hF _ _ hx)) (I.at (i := 3) rfl) hf rfl rfl (f80_reference_distance _) fun s₂₃ I _ => ?_))
        walk_at "q"
        refine r_glob B I (gFAKE_INFINITY _) (PyProof.Rows.eq_int (wpAny_truthy_bool ?_))
        walk_at "q"
        by_cases hrf : rf1 = -1
        · simp only [if_pos hrf] at hrow
          obtain ⟨d, hd, hrow⟩ := Option.bind_eq_some_iff.mp hrow
          first | refine ifT (decide_eq_true hrf) ?_ | refine ifT (beq_iff_eq.mpr hrf) ?_ | refine ifT (by simpa using hrf) ?_ | refine wifT (by simpa using hrf) ?_ | rw [if_pos (by simpa using hrf)]
          refine wpAny_execs_cons (plainObj_wpAny_Assign_Attribute ?_)
          walk_at "q"
          refine wpAny_BinOp (PyProof.Rows.Subscript_ (Attribute_Name_ (r_loc I hms (r_attr B I (I.get (hF _ _ hx)) (I.at (i := 3) rfl) hf rfl rfl (f80_dist_left _) fun s₂₄ I _ => r_loc I hml ?_))))
          walk_at "q"
          refine r_item I hF U tx (I.at (i := 2) rfl) p3 hd fun v s₂₅ hv I _ => ?_
          walk_at "q"
          obtain ⟨t₅, rfl⟩ := hv
          refine wpAny_Constant_int (PyProof.Rows.add_int ?_)
          walk_at "q"
          replace I := I.toks (s₂₅.toks + 1 + 1)
          refine r_loc I hms (r_setattr B I (I.get (hF _ _ hx)) (i := 3) rfl hf (.inr rfl) (s80_reference_distance _) fun s₂₆ es₂ n₂ I hf₂ _ => ?_)
          walk_at "q"
          replace hf₂ := hf₂.same (flds_again H _ _)
          refine wpAny_execs_nil (wpAny_execs_nil (wpAny_execs_nil ?_))
          walk_at "q"
          exact ⟨_, _, _, I, rfl, hms, hmq, hml, _, _, _, _, _, _, _, _, _, rfl, tq, p3, hf₂, hrow, by exact Nat.le_succ_of_le ‹_›, hdz⟩
        · simp only [if_neg hrf] at hrow
          first | refine ifF (ne_true_of_eq_false (decide_eq_false hrf)) ?_ | refine ifF (ne_true_of_eq_false (beq_eq_false_iff_ne.mpr hrf)) ?_ | refine ifF (by simpa using hrf) ?_ | refine wifF (by simpa using hrf) ?_ | rw [if_neg (by simpa using hrf)]
          refine wpAny_execs_nil (wpAny_execs_nil (wpAny_execs_nil ?_))
          walk_at "q"
          exact ⟨_, _, _, I, rfl, hms, hmq, hml, _, _, _, _, _, _, _, _, _, rfl, tq, p3, hf, hrow, by exact Nat.le_succ_of_le ‹_›, hdz⟩
      | some o =>
        rw [hpr] at hrow
        obtain ⟨d', hd', hrow⟩ := Option.bind_eq_some_iff.mp hrow
        first | refine ifFb rfl ?_ | refine wifFb rfl ?_ | simp only [Option.isSome_some, Bool.not_true, Bool.false_eq_true, if_false]
        refine wpAny_execs_cons (wpAny_Assign_Name ?_)
        walk_at "q"
        refine PyProof.Rows.Subscript_ (Attribute_Name_ (r_loc I hms (r_attr B I (I.get (hF _ _ hx)) (I.at (i := 3) rfl) hf rfl rfl (f80_pair_right _) fun s₂₃ I _ => r_loc I rfl ?_)))
        walk_at "q"
        refine r_item I hF U tr (I.get hprF) p2 hpr fun v s₂₄ hv I _ => ?_
        walk_at "q"
        obtain ⟨ao, rfl, to⟩ := hv
        refine r_st I fun s₂₅ I => ?_
        walk_at "q"
        refine wpAny_execs_cons (wpAny_If (wpAny_isTrue_Compare1 ?_))
        walk_at "q"
        refine PyProof.Rows.Subscript_ (Attribute_Name_ (r_loc I hms (r_attr B I (I.get (hF _ _ hx)) (I.at (i := 3) rfl) hf rfl rfl (f80_dist_left _) fun s₂₆ I _ => r_loc I rfl ?_)))
        walk_at "q"
        refine r_item I hF U to (I.at (i := 2) rfl) p3 hd' fun v s₂₇ hv I _ => ?_
        walk_at "q"
        obtain ⟨t₁, rfl⟩ := hv
        refine r_glob B I (gFAKE_INFINITY _) (PyProof.Rows.eq_int (wpAny_truthy_bool ?_))
        walk_at "q"
        by_cases hdd : d' = -1
        · simp only [if_pos hdd] at hrow
          obtain ⟨d, hd, hrow⟩ := Option.bind_eq_some_iff.mp hrow
          first | refine ifT (decide_eq_true hdd) ?_ | refine ifT (beq_iff_eq.mpr hdd) ?_ | refine ifT (by simpa using hdd) ?_ | refine wifT (by simpa using hdd) ?_ | rw [if_pos (by simpa using hdd)]
          refine wpAny_execs_cons (wpAny_Assign_Subscript ?_)
          walk_at "q"
          refine wpAny_BinOp (PyProof.Rows.Subscript_ (Attribute_Name_ (r_loc I hms (r_attr B I (I.get (hF _ _ hx)) (I.at (i := 3) rfl) hf rfl rfl (f80_dist_left _) fun s₂₈ I _ => r_loc I hml ?_))))
          walk_at "q"
          refine r_item I hF U tx (I.at (i := 2) rfl) p3 hd fun v s₂₉ hv I _ => ?_
          walk_at "q"
          obtain ⟨t₅, rfl⟩ := hv
          refine wpAny_Constant_int (PyProof.Rows.add_int ?_)
          walk_at "q"
          replace I := I.toks (s₂₉.toks + 1 + 1)
          refine Attribute_Name_ (r_loc I hms (r_attr B I (I.get (hF _ _ hx)) (I.at (i := 3) rfl) hf rfl rfl (f80_dist_left _) fun s₃₀ I _ => r_loc I rfl ?_))
          walk_at "q"
          refine r_set I hF U to (i := 2) rfl p3 ⟨_, rfl⟩ (by exact oL ‹_› (by exact rfl)) fun s₃₁ ods' I p3 => ?_
          walk_at "q"
          have hlen1 : (put dsk1 o (d + 1)).length = dsk1.length := put_length_of _ _ (by rw [hd']; rfl)
          refine wpAny_execs_cons (wpAny_Expr (r_append I hmq (I.at (i := 1) rfl) rfl rfl (r_loc I rfl ⟨_, _, _, 1, items, qn, I, rfl, by have := tq.length; simp at hz; omega, fun s₃₂ I => ?_⟩)))
          refine wpAny_execs_nil (wpAny_execs_nil (wpAny_execs_nil ?_))
          walk_at "q"
          exact ⟨_, _, _, I, rfl, hms, hmq, hml, _, _, _, _, _, _, _, _, _, rfl, tq.snoc ⟨ao, rfl, to⟩, p3, hf, hrow, by simp; exact Nat.succ_le_succ ‹_›, by exact oE ‹_› ‹_› (by exact rfl)⟩
        · simp only [if_neg hdd] at hrow
          first | refine ifF (ne_true_of_eq_false (decide_eq_false hdd)) ?_ | refine ifF (ne_true_of_eq_false (beq_eq_false_iff_ne.mpr hdd)) ?_ | refine ifF (by simpa using hdd) ?_ | refine wifF (by simpa using hdd) ?_ | rw [if_neg (by simpa using hdd)]
          refine wpAny_execs_nil (wpAny_execs_nil (wpAny_execs_nil ?_))
          walk_at "q"
          exact ⟨_, _, _, I, rfl, hms, hmq, hml, _, _, _, _, _, _, _, _, _, rfl, tq, p3, hf, hrow, by exact Nat.le_succ_of_le ‹_›, hdz⟩
    · clear hrow hf p3 tq I hd hms hmq hdz
      rintro m S' tr s₁₉ ⟨rfl, hms, hmq, hml, items, qn, ods, es, n', q1, dsk1, rf1, t, rfl, tq, p3, hf, hrow, hql, hdz⟩ I
      rw [List.drop_of_length_le (by rw [hl3.length]; omega), bfsRow] at hrow
      simp only [Option.some.injEq, Prod.mk.injEq] at hrow
      obtain ⟨rfl, rfl, rfl⟩ := hrow
      have := hl3.length
      exact wpAny_execs_nil (again I hms hmq tq p3 hf hloop (by simp at hz; omega) hdz)
end
end Mine
end
section
open PySem PySem.W PySem.Calls PyProof.Rows
namespace Mine

theorem phase_drop {K : Type} [DecidableEq K] {adj : List (K × List K)} {rf : Int} {n : Nat} {l : K} {ls : List K} {σ : HK K} : phase adj rf n (l :: ls) σ = if (get σ.pl l).isSome then phase adj rf n ls σ else (dfs adj rf n l σ).bind fun x => phase adj rf n ls x.2 := rfl

section
variable {prog : Program} {w : World} {S : Addr → Obj → Prop} {gB : Heap} {H : HA} {adj : List (List Int × List (List Int))} {mg mb : Str → Option Value}

inductive R1I (prog : Program) (w : World) (S : Addr → Obj → Prop) (H : HA) (adj : List (List Int × List (List Int))) (Sf : Addr → Obj → Prop) (opl opr : Obj) (es : List DictEntry) (nn : Nat) (k : Nat) (m : Str → Option Value) (S' : Addr → Obj → Prop) (tr : List (Addr × Obj)) : Prop
  | mk (h1 : Sf = S')
    (h2 : m "self" = some (.ref H.x))
    (ods dsk)
    (h3 : tr = [(H.pl, opl), (H.pr, opr), (H.ds, ods), (H.dx, dictOf es nn)])
    (h4 : Dist prog w S ods dsk)
    (h5 : (((adj.map (·.1)).drop k).foldl (fun ds l => put ds l (-1)) dsk) = (adj.map (·.1)).foldl (fun ds l => put ds l (-1)) [])
    (h6 : dsk.length ≤ k) : R1I prog w S H adj Sf opl opr es nn k m S' tr
inductive R2I (prog : Program) (w : World) (S : Addr → Obj → Prop) (H : HA) (adj : List (List Int × List (List Int))) (gB : Heap) (O : Og) (L : Addr) (Sf : Addr → Obj → Prop) (N : Nat) (σ' : HK (List Int)) (k : Nat) (s₀ : Shared) : Prop
  | mk (m opl opr ods es n' σ rf i t)
    (h1 : FIn gB O L m Sf [(H.pl, opl), (H.pr, opr), (H.ds, ods), (H.dx, dictOf es n')] s₀)
    (h2 : m "self" = some (.ref H.x))
    (h3 : m "matchings" = some (.int i t))
    (h4 : Pairs2 prog w S opl σ.pl)
    (h5 : Pairs2 prog w S opr σ.pr)
    (h6 : Dist prog w S ods σ.ds)
    (h7 : FldO es (H.flds rf))
    (h8 : hkLoop adj N k σ = some σ')
    (h9 : σ.pl.length + 400 * k ≤ 8000)
    (h10 : σ.pr.length + 400 * k ≤ 8000)
    (h11 : σ.ds.length ≤ 20)
    (h12 : (∀ k, (get adj k).isSome → (get σ.ds k).isSome)) : R2I prog w S H adj gB O L Sf N σ' k s₀
inductive R3I (prog : Program) (w : World) (S : Addr → Obj → Prop) (H : HA) (adj : List (List Int × List (List Int))) (Sf : Addr → Obj → Prop) (es' : List DictEntry) (n'' : Nat) (rf' : Int) (N : Nat) (σ2 σ : HK (List Int)) (j : Nat) (m : Str → Option Value) (S' : Addr → Obj → Prop) (tr : List (Addr × Obj)) : Prop
  | mk (h1 : Sf = S')
    (h2 : m "self" = some (.ref H.x))
    (opl opr ods σj i t)
    (h3 : m "matchings" = some (.int i t))
    (h4 : tr = [(H.pl, opl), (H.pr, opr), (H.ds, ods), (H.dx, dictOf es' n'')])
    (h5 : Pairs2 prog w S opl σj.pl)
    (h6 : Pairs2 prog w S opr σj.pr)
    (h7 : Dist prog w S ods σj.ds)
    (h8 : phase adj rf' N ((adj.map (·.1)).drop j) σj = some σ2)
    (h9 : σj.pl.length ≤ σ.pl.length + 20 * j)
    (h10 : σj.pr.length ≤ σ.pr.length + 20 * j)
    (h11 : σj.ds.length ≤ 20)
    (h12 : (∀ k, (get adj k).isSome → (get σj.ds k).isSome)) : R3I prog w S H adj Sf es' n'' rf' N σ2 σ j m S' tr

theorem run_spec (B : Base w.params mg mb gB) (hS : HSt prog w gB S H adj) {es : List DictEntry} {nn : Nat} {rf0 : Value} (hf : FldO es (H.flds rf0))
    (hd : [H.pl, H.pr, H.ds, H.dx].Nodup) {N : Nat} {σ' : HK (List Int)} (hhk : hk adj N = some σ')
    (zN : N ≤ 20) (zadj : adj.length ≤ 20) (zrow : ∀ k rs, get adj k = some rs → rs.length ≤ 20) (hnd : (adj.map (·.1)).Nodup)
    {A : Around} {s : Shared} {Q : Value → Shared → Prop} {E : Value → Shared → Prop} (R : Room A 30 150) (D : DSt prog w gB S H (dictOf es nn) ⟨[], [], []⟩ s)
    (hQ : ∀ s' i t, Post gB [H.pl, H.pr, H.ds, H.dx] s s' → (∃ o, s'.heap.get? H.pl = some o ∧ Pairs2 prog w S o σ'.pl) → (∃ es n t, s'.heap.get? H.dx = some (dictOf es n) ∧ FldO es (H.flds t)) → Q (.int i t) s') :
    wpAny (model prog w) A (call (.ref 42) [.ref H.x]) Q E s := by
  refine xa1_2 (D.pl) fun opl g1 p1 => ?_
  refine xa1_2 (D.pr) fun opr g2 p2 => ?_
  refine xa1_2 (D.ds) fun ods g3 p3 => ?_
  refine xa1_1 (hS.self) fun sl hx => ?_
  refine xa1_2 (hS.gl) fun ogl hgl pgl => ?_
  refine xa2_3 (hS.lf) fun olf lits hlf llf tlf => ?_
  have hd' := nd4 hd
  refine xa0_4 (hd') fun hp1 hp2 d6 _ => ?_
  refine xa0_3 (hp1) fun d1 d2 d3 => ?_
  refine xa0_2 (hp2) fun d4 d5 => ?_
  refine call_atQ B D.pre (at42 _) nc42 [("self", .ref H.x)] [(H.pl, opl), (H.pr, opr), (H.ds, ods), (H.dx, dictOf es nn)] ?_ (ndi4 d1 d2 d3 d4 d5 d6) R.depth (by kernel_rfl) (by kernel_rfl) (fun s₁ L Sf qx O A' hSf hL hO hA I hqx => ?_)
  · refine al4 ?_ ?_ ?_ ?_
    · exact ⟨g1, hS.npl⟩
    · exact ⟨g2, hS.npr⟩
    · exact ⟨g3, hS.nds⟩
    · exact ⟨D.dx, hS.ndx⟩
  have hF : ∀ a o, S a o → Sf a o := fun a o h => hSf ▸ Froz.of hL (D.st a o h).1 (D.st a o h).2.1 (D.st a o h).2.2
  have R' : Room A' (29) (147) := hA ▸ R.deeper (d := 29) (u := 147) (envAt 42 L)
  have U := R'.units1
  refine wpAny_execs_cons (wpAny_Expr (MethodCall_ (Attribute_Name_ (r_loc I rfl (r_attr B I (I.get (hF _ _ hx)) (I.at (i := 3) rfl) hf rfl rfl (f80_pair_left _) fun s₂ I _ => ?_))) (eval_callm rfl rfl rfl)))
  refine getMethod_builtin ⟨_, I.at (i := 0) rfl, p1.choose_spec.1.1.1⟩ F.plainAttrs_dict F.slot_dict_clear F.type_dict_clear (fun a e => ⟨_, I.at (i := 0) (by cases e; rfl), p1.choose_spec.1.1.2.1⟩) ?_
  walk_at "q"
  refine callWith_method0 (r_clear I (i := 0) rfl p1 fun s₃ opl I p1 => ?_)
  walk_at "q"
  refine wpAny_execs_cons (wpAny_Expr (MethodCall_ (Attribute_Name_ (r_loc I rfl (r_attr B I (I.get (hF _ _ hx)) (I.at (i := 3) rfl) hf rfl rfl (f80_pair_right _) fun s₂ I _ => ?_))) (eval_callm rfl rfl rfl)))
  refine getMethod_builtin ⟨_, I.at (i := 1) rfl, p2.choose_spec.1.1.1⟩ F.plainAttrs_dict F.slot_dict_clear F.type_dict_clear (fun a e => ⟨_, I.at (i := 1) (by cases e; rfl), p2.choose_spec.1.1.2.1⟩) ?_
  walk_at "q"
  refine callWith_method0 (r_clear I (i := 1) rfl p2 fun s₃ opr I p2 => ?_)
  walk_at "q"
  refine wpAny_execs_cons (wpAny_Expr (MethodCall_ (Attribute_Name_ (r_loc I rfl (r_attr B I (I.get (hF _ _ hx)) (I.at (i := 3) rfl) hf rfl rfl (f80_dist_left _) fun s₂ I _ => ?_))) (eval_callm rfl rfl rfl)))
  refine getMethod_builtin ⟨_, I.at (i := 2) rfl, p3.choose_spec.1.1.1⟩ F.plainAttrs_dict F.slot_dict_clear F.type_dict_clear (fun a e => ⟨_, I.at (i := 2) (by cases e; rfl), p3.choose_spec.1.1.2.1⟩) ?_
  walk_at "q"
  refine callWith_method0 (r_clear I (i := 2) rfl p3 fun s₃ ods I p3 => ?_)
  walk_at "q"
  replace p1 : Pairs2 prog w S opl [] := p1
  replace p2 : Pairs2 prog w S opr [] := p2
  replace p3 : Dist prog w S ods [] := p3
  refine wpAny_execs_cons (r_for_list (gB := gB) (O := O) (L := L) R'.hh ?_)
  walk_at "q"
  refine Attribute_Name_ (r_loc I rfl (r_attr B I (I.get (hF _ _ hx)) (I.at (i := 3) rfl) hf rfl rfl (f80_left _) fun s₄ I _ => ?_))
  walk_at "q"
  have hlen : lits.length = adj.length := by have := tlf.length; rw [List.length_map] at this; exact this
  refine ⟨H.lf, lits, _, _, _, R1I prog w S H adj Sf opl opr es nn,
    rfl, I, ?_, ⟨rfl, rfl, ods, [], rfl, p3, rfl, Nat.le_refl _⟩, ?_, ?_⟩
  · intro k m S' tr hp3
    obtain ⟨he4, _⟩ := hp3
    obtain rfl := he4
    exact ⟨olf, hF _ _ hlf, llf⟩
  · clear p3 I
    intro it k m S' tr s₅ io hk hp5 I
    obtain ⟨he6, hms, ods, dsk, he7, p3, hfold, hdl⟩ := hp5
    obtain rfl := he6
    obtain rfl := he7
    obtain ⟨l, hl, al, hal, tl⟩ := tlf.getD hk .none
    rw [hal]
    have hdrop : (adj.map (·.1)).drop k = l :: (adj.map (·.1)).drop (k + 1) := by
      obtain ⟨hk', e⟩ := List.getElem?_eq_some_iff.mp hl
      rw [List.drop_eq_getElem_cons hk', e]
    rw [hdrop, List.foldl_cons] at hfold
    refine wpAny_assign_Name (r_st I fun s₆ I => ?_)
    walk_at "q"
    refine wpAny_execs_cons (wpAny_Assign_Subscript (r_glob B I (gFAKE_INFINITY _) ?_))
    walk_at "q"
    refine Attribute_Name_ (r_loc I hms (r_attr B I (I.get (hF _ _ hx)) (I.at (i := 4) rfl) hf rfl rfl (f80_dist_left _) fun s₁₀ I _ => r_loc I rfl ?_))
    walk_at "q"
    refine r_set I hF U tl (i := 3) rfl p3 ⟨_, rfl⟩ (by omega) fun s₁₁ ods' I p3 => wpAny_execs_nil ?_
    walk_at "q"
    exact ⟨_, _, _, I, rfl, hms, ods', _, rfl, p3, hfold, by have := put_length_le dsk l (-1 : Int); omega⟩
  clear p3 I
  intro m S' tr s₅ hp8 I
  obtain ⟨he9, hms, ods, dsk, he10, p3, hfold, hdl⟩ := hp8
  obtain rfl := he9
  obtain rfl := he10
  rw [List.drop_of_length_le (by rw [List.length_map]; omega), List.foldl_nil] at hfold
  unfold hk at hhk
  rw [← hfold] at hhk
  have hdom : ∀ k, (get adj k).isSome → (get dsk k).isSome := by
    have : ∀ (ls : List (List Int)) (ds : List (List Int × Int)) (k : List Int), k ∈ ls ∨ (get ds k).isSome → (get (ls.foldl (fun ds l => put ds l (-1 : Int)) ds) k).isSome := by
      intro ls
      induction ls with
      | nil => intro ds k h; rcases h with h | h; cases h; exact h
      | cons l ls ih =>
        intro ds k h
        refine ih _ _ ?_
        rw [get_put]
        by_cases e : k = l
        · right; rw [if_pos e]; rfl
        · first | refine ifF e ?_ | refine wifF e ?_ | rw [if_neg e]
          rcases h with h | h
          · rcases List.mem_cons.mp h with h | h
            · exact absurd h e
            · exact .inl h
          · exact .inr h
    intro k hk
    rw [hfold]
    exact this _ _ _ (.inl ((get_isSome_iff adj k).mp hk))
  refine wpAny_execs_cons (wpAny_Assign_Name (wpAny_Constant_int (r_st (I.toks _) fun s₆ I => ?_)))
  walk_at "q"
  refine let RI := R2I prog w S H adj gB O L Sf N σ'; ?_
  refine wpAny_execs_cons (r_while RI ?_ N
    ⟨_, opl, opr, ods, es, nn, ⟨[], [], dsk⟩, _, _, _, I, hms, rfl, p1, p2, p3, hf, hhk, by simp; omega, by simp; omega, by show dsk.length ≤ 20; omega, hdom⟩)
  clear p1 p2 p3 hf I hms hfold hdl hhk hdom
  rintro k s₇ ⟨m, opl, opr, ods, es, n', σ, rf, i, t, I, hms, hmm, p1, p2, p3, hf, hloop, zpl, zpr, zds, hdom⟩
  refine isTrue_true ?_
  first | refine ifTb rfl ?_ | refine wifTb rfl ?_ | simp only [if_true]
  cases k with
  | zero => cases hloop
  | succ k =>
  rw [hkLoop] at hloop
  refine xa1_2 (Option.bind_eq_some_iff.mp hloop) fun hp11 hbfs hloop => ?_
  obtain ⟨ds', rf'⟩ := hp11
  dsimp only at hloop
  refine wpAny_execs_cons (wpAny_If (wpAny_isTrue_Not (wpAny_isTrue_value ?_)))
  walk_at "q"
  refine r_callm0 B I hms (I.get (hF _ _ hx)) (I.at (i := 3) rfl) hf rfl (m80_bfs_hopcroft_karp _) ?_
  walk_at "q"
  refine bfs_spec B hS hf hd hbfs zN zadj zrow (by exact oL ‹_› (by exact rfl)) hdom R'.mono ⟨I.pre, fun a o h => ⟨I.get (hF a o h), (D.st a o h).2⟩, I.at (i := 3) rfl, ⟨opl, I.at (i := 0) rfl, p1⟩, ⟨opr, I.at (i := 1) rfl, p2⟩, ⟨ods, I.at (i := 2) rfl, p3⟩⟩ fun s₈ P D' => ?_
  walk_at "q"
  refine xa1_2 (D'.ds) fun ods' gd p3' => ?_
  obtain ⟨es', n'', t', gx, hf'⟩ := D'.dx
  replace I := I.back2 P (i := 2) (j := 3) rfl rfl gd gx
  refine wpAny_truthy_bool ?_
  walk_at "q"
  by_cases hrf : rf' = -1
  · subst hrf
    simp only [if_true, Option.some.injEq] at hloop
    subst hloop
    simp only [bne_self_eq_false, Bool.not_false, if_true]
    refine wpAny_execs_cons (wpAny_Break ?_)
    walk_at "q"
    refine wpAny_execs_cons (wpAny_Return_some (r_loc I hmm ?_))
    walk_at "q"
    exact hqx _ _ ⟨⟨_, _, _, I, fun _ _ h => h⟩, fun P => hQ _ _ _ P ⟨opl, I.at (i := 0) rfl, p1⟩ ⟨es', n'', _, I.at (i := 3) rfl, hf'⟩⟩
  · rw [if_neg hrf] at hloop
    have hb : (rf' != -1) = true := by simpa using hrf
    rw [hb]
    first | refine ifFb rfl ?_ | refine wifFb rfl ?_ | simp only [Bool.not_true, Bool.false_eq_true, if_false]
    refine xa1_2 (Option.bind_eq_some_iff.mp hloop) fun σ2 hph hloop => ?_
    have hdom' : (∀ k, (get adj k).isSome → (get ds' k).isSome) ∧ ds'.length ≤ 20 := by
      have K := bfs_keys hbfs hdom
      exact ⟨fun k hk => by rw [K.isSome]; exact hdom k hk, by rw [K.length]; exact zds⟩
    refine wpAny_execs_nil (wpAny_execs_cons (r_for_list (gB := gB) (O := O) (L := L) R'.hh ?_))
    walk_at "q"
    refine Attribute_Name_ (r_loc I hms (r_attr B I (I.get (hF _ _ hx)) (I.at (i := 3) rfl) hf' rfl rfl (f80_left _) fun s₄ I _ => ?_))
    walk_at "q"
    refine ⟨H.lf, lits, _, _, _, R3I prog w S H adj Sf es' n'' rf' N σ2 σ,
      rfl, I, ?_, ⟨rfl, hms, opl, opr, ods', { σ with ds := ds' }, i, t, hmm, rfl, p1, p2, p3', hph, Nat.le_refl _, Nat.le_refl _, hdom'.2, hdom'.1⟩, ?_, ?_⟩
    · rintro k m S' tr ⟨rfl, _⟩
      exact ⟨olf, hF _ _ hlf, llf⟩
    · clear I p1 p2 p3 p3' hms hmm hph gd gx P D' hdom hdom' hbfs
      rintro it j m S' tr s₅ io hj ⟨rfl, hms, opl, opr, ods, σj, i, t, hmm, rfl, p1, p2, p3, hph, z1, z2, z3, hdom⟩ I
      obtain ⟨l, hl, al, hal, tl⟩ := tlf.getD hj .none
      rw [hal]
      have hdrop : (adj.map (·.1)).drop j = l :: (adj.map (·.1)).drop (j + 1) := by
        obtain ⟨hk', e⟩ := List.getElem?_eq_some_iff.mp hl
        rw [List.drop_eq_getElem_cons hk', e]
      rw [hdrop, phase_drop] at hph
      refine wpAny_assign_Name (r_st I fun s₆ I => ?_)
      walk_at "q"
      refine wpAny_execs_cons (wpAny_If (wpAny_isTrue_Compare1 ?_))
      walk_at "q"
      refine r_loc I rfl (Attribute_Name_ (r_loc I hms (r_attr B I (I.get (hF _ _ hx)) (I.at (i := 4) rfl) hf' rfl rfl (f80_pair_left _) fun s₇ I _ => ?_)))
      walk_at "q"
      refine r_in I hF U tl (I.at (i := 1) rfl) hS.npl p1 fun s₈ I _ => wpAny_truthy_bool ?_
      walk_at "q"
      cases hpl : (get σj.pl l).isSome with
      | true =>
        rw [hpl] at hph
        simp only [if_true] at hph ⊢
        exact wpAny_execs_cons (wpAny_Continue ⟨_, _, _, I, rfl, hms, opl, opr, ods, σj, i, t, hmm, rfl, p1, p2, p3, hph, by omega, by omega, z3, hdom⟩)
      | false =>
        rw [hpl] at hph
        simp only [Bool.false_eq_true, if_false] at hph ⊢
        refine xa1_2 (Option.bind_eq_some_iff.mp hph) fun hp12 hdfs hph => ?_
        obtain ⟨b, σn⟩ := hp12
        dsimp only at hph
        have G := dfs_len N l σj b σn hdfs
        refine xa0_2 (G.2.2.2 hdom) fun G4 G5 => ?_
        refine wpAny_execs_nil (wpAny_execs_cons (wpAny_If (wpAny_isTrue_value ?_)))
        walk_at "q"
        refine r_callm1 B I hms (I.get (hF _ _ hx)) (I.at (i := 4) rfl) hf' rfl (m80_dfs_hopcroft_karp _) rfl ?_
        walk_at "q"
        refine dfs_spec B hS hf' hd N l σj b σn hdfs _ _ _ _ _ (R'.mono) ⟨I.pre, fun a o h => ⟨I.get (hF a o h), (D.st a o h).2⟩, I.at (i := 4) rfl, ⟨opl, I.at (i := 1) rfl, p1⟩, ⟨opr, I.at (i := 2) rfl, p2⟩, ⟨ods, I.at (i := 3) rfl, p3⟩⟩
          ⟨by omega, by omega, by exact oL ‹_› (by exact rfl), hdom⟩ tl fun s₉ P D' => ?_
        walk_at "q"
        refine xa1_2 (D'.pl) fun opl' g1 p1 => ?_
        refine xa1_2 (D'.pr) fun opr' g2 p2 => ?_
        obtain ⟨ods', g3, p3⟩ := D'.ds
        replace I := I.back3 P (i := 1) (j := 2) (k := 3) rfl rfl rfl g1 g2 g3
        refine wpAny_truthy_bool ?_
        walk_at "q"
        have hnext : ∀ {m' : Str → Option Value} {s' : Shared} {i t}, FIn gB O L m' Sf [(it, io), (H.pl, opl'), (H.pr, opr'), (H.ds, ods'), (H.dx, dictOf es' n'')] s' → m' "self" = some (.ref H.x) → m' "matchings" = some (.int i t) →
            ∃ m' S' tr', FIn gB O L m' S' ((it, io) :: tr') s' ∧ R3I prog w S H adj Sf es' n'' rf' N σ2 σ (j + 1) m' S' tr' :=
          fun I hms hmm => ⟨_, _, _, I, rfl, hms, opl', opr', ods', σn, _, _, hmm, rfl, p1, p2, p3, hph, by have := G.2.1; omega, by have := G.2.2.1; omega, by exact oE ‹_› ‹_› (by exact rfl), G4⟩
        cases b with
        | true =>
          first | refine ifTb rfl ?_ | refine wifTb rfl ?_ | simp only [if_true]
          refine wpAny_execs_cons (r_augint I hmm fun s₁₀ t' I => wpAny_execs_nil (wpAny_execs_nil ?_))
          walk_at "q"
          exact hnext I hms rfl
        | false =>
          first | refine ifFb rfl ?_ | refine wifFb rfl ?_ | simp only [Bool.false_eq_true, if_false]
          exact wpAny_execs_nil (wpAny_execs_nil (hnext I hms hmm))
    · clear I p1 p2 p3 p3' hms hmm hph gd gx P D' hdom hdom' hbfs
      rintro m S' tr s₅ ⟨rfl, hms, opl, opr, ods, σj, i, t, hmm, rfl, p1, p2, p3, hph, z1, z2, z3, hdom⟩ I
      rw [List.drop_of_length_le (by rw [List.length_map]; omega), phase] at hph
      simp only [Option.some.injEq] at hph
      subst hph
      exact wpAny_execs_nil ⟨k, Nat.lt_succ_self k, _, opl, opr, ods, es', n'', σj, _, i, t, I, hms, hmm, p1, p2, p3, hf', hloop, by omega, by omega, z3, hdom⟩
end
end Mine
end
section
open PySem PySem.W PySem.Calls PyProof.Rows
namespace Mine

section
variable {prog : Program} {w : World} {S : Addr → Obj → Prop} {gB : Heap} {H : HA} {adj : List (List Int × List (List Int))} {mg mb : Str → Option Value}

theorem num_spec (B : Base w.params mg mb gB) (hS : HSt prog w gB S H adj) {es : List DictEntry} {nn : Nat} {rf0 : Value} (hf : FldO es (H.flds rf0))
    (hd : [H.pl, H.pr, H.ds, H.dx].Nodup) {N : Nat} {σ' : HK (List Int)} (hhk : hk adj N = some σ')
    (zN : N ≤ 20) (zadj : adj.length ≤ 20) (zrow : ∀ k rs, get adj k = some rs → rs.length ≤ 20) (hnd : (adj.map (·.1)).Nodup)
    {A : Around} {s : Shared} {Q : Value → Shared → Prop} {E : Value → Shared → Prop} (R : Room A 31 160) (D : DSt prog w gB S H (dictOf es nn) ⟨[], [], []⟩ s)
    (hQ : ∀ s' a t n, Post gB [H.pl, H.pr, H.ds, H.dx] s s' → (∃ o, s'.heap.get? H.pl = some o ∧ Pairs2 prog w S o σ'.pl) → s'.heap.get? a = some (tup [.int t n, .ref H.pl]) → s.heap.get? a = none → Q (.ref a) s') :
    wpAny (model prog w) A (call (.ref 56) [.ref H.x]) Q E s := by
  refine xa1_2 (D.pl) fun opl g1 p1 => ?_
  refine xa1_2 (D.pr) fun opr g2 p2 => ?_
  refine xa1_2 (D.ds) fun ods g3 p3 => ?_
  refine xa1_1 (hS.self) fun sl hx => ?_
  have hd' := nd4 hd
  refine xa0_4 (hd') fun hp1 hp2 d6 _ => ?_
  refine xa0_3 (hp1) fun d1 d2 d3 => ?_
  refine xa0_2 (hp2) fun d4 d5 => ?_
  refine call_atQ B D.pre (at56 _) nc56 [("self", .ref H.x)] [(H.pl, opl), (H.pr, opr), (H.ds, ods), (H.dx, dictOf es nn)] ?_ (ndi4 d1 d2 d3 d4 d5 d6) R.depth (by kernel_rfl) (by kernel_rfl) (fun s₁ L Sf qx O A' hSf hL hO hA I hqx => ?_)
  · refine al4 ?_ ?_ ?_ ?_
    · exact ⟨g1, hS.npl⟩
    · exact ⟨g2, hS.npr⟩
    · exact ⟨g3, hS.nds⟩
    · exact ⟨D.dx, hS.ndx⟩
  have hF : ∀ a o, S a o → Sf a o := fun a o h => hSf ▸ Froz.of hL (D.st a o h).1 (D.st a o h).2.1 (D.st a o h).2.2
  have hSfs : ∀ a o, Sf a o → s.heap.get? a = some o ∧ a ∉ [H.pl, H.pr, H.ds, H.dx] := fun a o h => by
    rw [← hSf] at h; exact ⟨h.1, h.2.2.2⟩
  have R' : Room A' (30) (157) := hA ▸ R.deeper (d := 30) (u := 157) (envAt 56 L)
  refine wpAny_execs_cons (wpAny_Assign_Name (r_callm0 B I rfl (I.get (hF _ _ hx)) (I.at (i := 3) rfl) hf rfl (m80_run_hopcroft_karp _) ?_))
  walk_at "q"
  refine run_spec B hS hf hd hhk zN zadj zrow hnd R'.mono ⟨I.pre, fun a o h => ⟨I.get (hF a o h), (D.st a o h).2⟩, I.at (i := 3) rfl, ⟨opl, I.at (i := 0) rfl, p1⟩, ⟨opr, I.at (i := 1) rfl, p2⟩, ⟨ods, I.at (i := 2) rfl, p3⟩⟩ fun s₂ i t P hpl hdx => ?_
  walk_at "q"
  refine xa1_2 (hpl) fun opl' hpl p1' => ?_
  refine xa3_2 (hdx) fun es' n' rf' hdx hf' => ?_
  obtain ⟨I', hold⟩ := I.post P (by intro a ha; exact ha) (tr' := [(H.pl, opl'), (H.dx, dictOf es' n')]) (by
    refine al2 ?_ ?_
    · exact ⟨hpl, I.neL (i := 0) rfl, hS.npl⟩
    · exact ⟨hdx, I.neL (i := 3) rfl, hS.ndx⟩) (ndi2 d3)
  have hold' : ∀ a o, Sf a o → Froz L [(H.pl, opl'), (H.dx, dictOf es' n')] s₂ a o := fun a o h => hold a o h (by
    have := (hSfs a o h).2
    replace this := nm4 this
    exact nI2 this.1 this.2.2.2)
  refine r_st I' fun s₃ I => ?_
  walk_at "q"
  refine wpAny_execs_cons (wpAny_Return_some (Tuple_ (args_cons (r_loc I rfl (args_cons ?_)))))
  walk_at "q"
  refine Attribute_Name_ (r_loc I rfl (r_attr B I (I.get (hold' _ _ (hF _ _ hx))) (I.at (i := 1) rfl) hf' rfl rfl (f80_pair_left _) fun s₄ I _ => ?_))
  walk_at "q"
  have hlt := I.L_lt
  refine args_nil (r_newtup I fun a s₅ ha I => ?_)
  walk_at "q"
  refine hqx _ _ ⟨⟨_, _, _, I, fun a o h => .inl (hold' a o h)⟩, fun P => hQ s₅ a i t P ⟨opl', I.at (i := 0) rfl, p1'⟩ (I.get (.inr ⟨rfl, rfl⟩)) ?_⟩
  cases q : s.heap.get? a with
  | none => rfl
  | some o =>
    have h2 := Heap.lt_size q
    have h3 : (s.heap.objs.size : Nat) < s₄.heap.objs.size := hL ▸ hlt
    exact absurd (Nat.lt_trans h2 h3) (by rw [ha]; exact Nat.lt_irrefl _)

theorem gmm_spec (B : Base w.params mg mb gB) (hS : HSt prog w gB S H adj) {es : List DictEntry} {nn : Nat} {rf0 : Value} (hf : FldO es (H.flds rf0))
    (hd : [H.pl, H.pr, H.ds, H.dx].Nodup) {N : Nat} {σ' : HK (List Int)} (hhk : hk adj N = some σ')
    (zN : N ≤ 20) (zadj : adj.length ≤ 20) (zrow : ∀ k rs, get adj k = some rs → rs.length ≤ 20) (hnd : (adj.map (·.1)).Nodup)
    {A : Around} {s : Shared} {Q : Value → Shared → Prop} {E : Value → Shared → Prop} (R : Room A 32 170) (D : DSt prog w gB S H (dictOf es nn) ⟨[], [], []⟩ s)
    (hQ : ∀ s', Post gB [H.pl, H.pr, H.ds, H.dx] s s' → (∃ o, s'.heap.get? H.pl = some o ∧ Pairs2 prog w S o σ'.pl) → Q (.ref H.pl) s') :
    wpAny (model prog w) A (call (.ref 49) [.ref H.x]) Q E s := by
  refine xa1_2 (D.pl) fun opl g1 p1 => ?_
  refine xa1_2 (D.pr) fun opr g2 p2 => ?_
  refine xa1_2 (D.ds) fun ods g3 p3 => ?_
  refine xa1_1 (hS.self) fun sl hx => ?_
  have hd' := nd4 hd
  refine xa0_4 (hd') fun hp3 hp4 d6 _ => ?_
  refine xa0_3 (hp3) fun d1 d2 d3 => ?_
  refine xa0_2 (hp4) fun d4 d5 => ?_
  refine call_atQ B D.pre (at49 _) nc49 [("self", .ref H.x)] [(H.pl, opl), (H.pr, opr), (H.ds, ods), (H.dx, dictOf es nn)] ?_ (ndi4 d1 d2 d3 d4 d5 d6) R.depth (by kernel_rfl) (by kernel_rfl) (fun s₁ L Sf qx O A' hSf hL hO hA I hqx => ?_)
  · refine al4 ?_ ?_ ?_ ?_
    · exact ⟨g1, hS.npl⟩
    · exact ⟨g2, hS.npr⟩
    · exact ⟨g3, hS.nds⟩
    · exact ⟨D.dx, hS.ndx⟩
  have hF : ∀ a o, S a o → Sf a o := fun a o h => hSf ▸ Froz.of hL (D.st a o h).1 (D.st a o h).2.1 (D.st a o h).2.2
  have hSfs : ∀ a o, Sf a o → s.heap.get? a = some o ∧ a ∉ [H.pl, H.pr, H.ds, H.dx] := fun a o h => by
    rw [← hSf] at h; exact ⟨h.1, h.2.2.2⟩
  have R' : Room A' (31) (167) := hA ▸ R.deeper (d := 31) (u := 167) (envAt 49 L)
  refine wpAny_execs_cons (Assign_Tuple (r_callm0 B I rfl (I.get (hF _ _ hx)) (I.at (i := 3) rfl) hf rfl (m80get_maximum_matching_num _) ?_))
  walk_at "q"
  refine num_spec B hS hf hd hhk zN zadj zrow hnd R'.mono ⟨I.pre, fun a o h => ⟨I.get (hF a o h), (D.st a o h).2⟩, I.at (i := 3) rfl, ⟨opl, I.at (i := 0) rfl, p1⟩, ⟨opr, I.at (i := 1) rfl, p2⟩, ⟨ods, I.at (i := 2) rfl, p3⟩⟩ fun s₂ a t n P hpl hta hna => ?_
  walk_at "q"
  refine xa1_2 (hpl) fun opl' hpl p1' => ?_
  have hapl : a ≠ H.pl := fun e => by rw [e, I.at (i := 0) rfl] at hna; cases hna
  have haL : a ≠ L := fun e => by
    refine xa3_2 (I.ns) fun o _ _ ho _ => ?_
    rw [e, ho] at hna; cases hna
  obtain ⟨I', hold⟩ := I.post P (by intro a ha; exact ha) (tr' := [(H.pl, opl')]) (by
    refine al1 ?_
    exact ⟨hpl, I.neL (i := 0) rfl, hS.npl⟩) (by simp)
  have hold' : ∀ a o, Sf a o → Froz L [(H.pl, opl')] s₂ a o := fun a o h => hold a o h (by
    have := (hSfs a o h).2
    replace this := nm4 this
    exact nI1 this.1)
  have hat : a ∉ tabP := by
    intro q
    refine xa1_2 (I.wd.tb a q) fun ps h1 _ => ?_
    rw [h1] at hna; cases hna
  have hta' : Froz L [(H.pl, opl')] s₂ a (tup [.int t n, .ref H.pl]) := ⟨hta, haL, hat, by simp [hapl]⟩
  refine r_unpack2 R'.hh I' (I'.get hta') rfl rfl fun s₃ I => ?_
  walk_at "q"
  refine wpAny_assign_Name (r_st I fun s₄ I => wpAny_assign_Name (r_st I fun s₅ I => ?_))
  walk_at "q"
  refine wpAny_execs_cons (wpAny_Return_some (r_loc I rfl ?_))
  walk_at "q"
  refine hqx _ _ ⟨⟨_, _, _, I, hold'⟩, fun P => hQ s₅ P ⟨opl', I.at (i := 0) rfl, p1'⟩⟩
end
end Mine
end
section
open PySem PySem.W PySem.Calls PyProof.Rows
namespace Mine

theorem lookup_ext {f g : List (Str × Value)} (names : List Str) (h1 : ∀ n ∈ names, f.lookup n = g.lookup n) (h2 : ∀ p ∈ f, p.1 ∈ names) (h3 : ∀ p ∈ g, p.1 ∈ names) (n : Str) : f.lookup n = g.lookup n := by
  by_cases h : n ∈ names
  · exact h1 n h
  · have : ∀ f : List (Str × Value), (∀ p ∈ f, p.1 ∈ names) → f.lookup n = none := by
      intro f hf
      induction f with
      | nil => rfl
      | cons p f ih =>
        obtain ⟨k, v⟩ := p
        rw [List.lookup_cons]
        have : (n == k) = false := by
          rw [beq_eq_false_iff_ne]; intro e; exact h (e ▸ hf (k, v) (.head _))
        rw [this]
        exact ih fun q hq => hf q (.tail _ hq)
    rw [this f h2, this g h3]

theorem lookup_extB {f g : List (Str × Value)} (names : List Str) (h1 : names.map (fun n => f.lookup n) = names.map fun n => g.lookup n) (h2 : (f.map (·.1)).all (fun k => names.contains k) = true)
    (h3 : (g.map (·.1)).all (fun k => names.contains k) = true) (n : Str) : f.lookup n = g.lookup n :=
  lookup_ext names (List.map_inj_left.mp h1) (fun p hp => by simpa using List.all_eq_true.mp h2 p.1 (List.mem_map_of_mem hp)) (fun p hp => by simpa using List.all_eq_true.mp h3 p.1 (List.mem_map_of_mem hp)) n

section
variable {prog : Program} {w : World} {S : Addr → Obj → Prop} {gB : Heap} {adj : List (List Int × List (List Int))} {mg mb : Str → Option Value}

theorem entries_keys {es : Array DictEntry} {xs : List (List Int × Addr × Value)} (he : es.toList = xs.map (entryOfKey (KT prog w))) : es.toList.map (·.key) = xs.map fun x => Value.ref x.2.1 := by
  rw [he, List.map_map]; rfl

theorem make_spec (B : Base w.params mg mb gB) {dg : Addr} {odg : Obj} {A : Around} {s : Shared} {Q : Value → Shared → Prop} {E : Value → Shared → Prop} (R : Room A 2 20) (W : Pre gB s)
    (hS : ∀ a o, S a o → s.heap.get? a = some o ∧ a ∉ tabP) (hdg : S dg odg) (ndg : gB.objs.size ≤ dg) (hD : DicR prog w S (VLst prog w S) odg adj) (zadj : adj.length ≤ 20)
    (hQ : ∀ s' (H : HA) es n t, Post gB [] s s' → H.gl = dg → (∀ a ∈ [H.x, H.dx, H.pl, H.pr, H.lf, H.ds], s.heap.objs.size ≤ a) → [H.x, H.lf, H.pl, H.pr, H.ds, H.dx].Nodup →
      s'.heap.get? H.x = some (instObj 80 H.dx) → s'.heap.get? H.dx = some (dictOf es n) → FldO es (H.flds (.int (-1) t)) → s'.heap.get? H.pl = some emptyDict → s'.heap.get? H.pr = some emptyDict → s'.heap.get? H.ds = some emptyDict →
      (∃ items c, s'.heap.get? H.lf = some (lst items c) ∧ Tups prog w S items (adj.map (·.1))) → Q (.ref H.x) s') :
    wpAny (model prog w) A (call (.ref 80) [.ref dg]) Q E s := by
  refine r_make B W (cl80 _) (args := ⟨[.ref dg], []⟩) fun s₁ dx hdx hs₁ W₁ => ?_
  walk_at "q"
  have hgx : s₁.heap.get? (dx + 1) = some (instObj 80 dx) := by
    rw [hs₁, hdx]
    have := Heap.get?_push_size (h := s.heap.push emptyDict) (o := instObj 80 s.heap.objs.size) rfl
    rwa [Heap.size_push] at this
  have hgd : s₁.heap.get? dx = some (dictOf [] 0) := by
    rw [hs₁, hdx]
    exact Heap.get?_push_of_some _ (Heap.get?_push_size (h := s.heap) (o := emptyDict) rfl)
  have hk₁ : ∀ b o, s.heap.get? b = some o → s₁.heap.get? b = some o := fun b o e => by rw [hs₁]; exact Heap.get?_push_of_some _ (Heap.get?_push_of_some _ e)
  have hz₁ : s₁.heap.objs.size = s.heap.objs.size + 2 := by rw [hs₁]; show ((s.heap.push emptyDict).push _).objs.size = _; rw [Heap.size_push, Heap.size_push]
  have ho₁ : OgOk (og s) s₁ := by rw [hs₁]; exact OgOk.refl s
  have hndx : gB.objs.size ≤ dx := hdx ▸ W.wd.sz
  have R₁ := R.making (d := 1) (u := 19) 80 ⟨[.ref dg], []⟩
  refine code_atQ B W₁ (at35 _) nc35 [("self", .ref (dx + 1)), ("graph_left", .ref dg)] [(dx, dictOf [] 0)] ?_ (by simp) R₁.depth (BindsTo.of_eq (by kernel_rfl)) (by kernel_rfl) fun s₂ L Sf qx O A' hSf hL hO hA I hqx => ?_
  · refine al1 ?_
    exact ⟨hgd, hndx⟩
  have hxd : dx + 1 ≠ dx := Nat.succ_ne_self dx
  have hold : ∀ a o, s.heap.get? a = some o → a ∉ tabP → Sf a o := fun a o h ht => hSf ▸ Froz.of hL (hk₁ a o h) ht (by
    have := Heap.lt_size h
    have : a ≠ dx := by rw [hdx]; exact Nat.ne_of_lt this
    simp [this])
  have hx : Sf (dx + 1) (instObj 80 dx) := hSf ▸ Froz.of hL hgx (W₁.wd.notTab (Nat.le_succ_of_le hndx)) (by simp [hxd])
  have hF : ∀ a o, S a o → Sf a o := fun a o h => hold a o (hS a o h).1 (hS a o h).2
  have hf0 : FldO [] ([] : List (Str × Value)) := ⟨fun _ h => (nomatch h), fun _ => rfl, by simp⟩
  have R' : Room A' 0 16 := hA ▸ R₁.deeper (d := 0) (u := 16) (envAt 35 L)
  refine wpAny_execs_cons (plainObj_wpAny_Assign_Attribute (r_loc I rfl (r_loc I rfl ?_)))
  walk_at "q"
  refine r_setattr B I (I.get hx) (i := 0) rfl hf0 (.inl (by simp)) (s80_graph_left _) fun s₃ es₁ n₁ I hf₁ z₁ => ?_
  walk_at "q"
  refine wpAny_execs_cons (plainObj_wpAny_Assign_Attribute (r_glob B I (gFAKE_INFINITY _) (r_loc I rfl ?_)))
  walk_at "q"
  refine r_setattr B I (I.get hx) (i := 0) rfl hf₁ (.inl (oL (z₁ (Nat.zero_le _)) rfl)) (s80_reference_distance _) fun s₄ es₂ n₂ I hf₂ z₂ => ?_
  walk_at "q"
  have y₁ : es₁.length ≤ 1 := z₁ (Nat.zero_le _)
  have y₂ : es₂.length ≤ 2 := Nat.le_trans (z₂ (oL y₁ rfl)) (Nat.succ_le_succ y₁)
  have l₁ := I.L_lt
  refine wpAny_execs_cons (plainObj_wpAny_Assign_Attribute (r_newdict I fun pl s₅ hpl I => r_loc I rfl ?_))
  walk_at "q"
  refine r_setattr B I (I.get hx) (i := 1) rfl hf₂ (.inl (oL y₂ rfl)) (s80_pair_left _) fun s₆ es₃ n₃ I hf₃ z₃ => ?_
  walk_at "q"
  have y₃ : es₃.length ≤ 3 := Nat.le_trans (z₃ (oL y₂ rfl)) (Nat.succ_le_succ y₂)
  have l₂ := I.L_lt
  refine wpAny_execs_cons (plainObj_wpAny_Assign_Attribute (r_newdict I fun pr s₇ hpr I => r_loc I rfl ?_))
  walk_at "q"
  refine r_setattr B I (I.get hx) (i := 2) rfl hf₃ (.inl (oL y₃ rfl)) (s80_pair_right _) fun s₈ es₄ n₄ I hf₄ z₄ => ?_
  walk_at "q"
  have y₄ : es₄.length ≤ 4 := Nat.le_trans (z₄ (oL y₃ rfl)) (Nat.succ_le_succ y₃)
  refine wpAny_execs_cons (plainObj_wpAny_Assign_Attribute ?_)
  walk_at "q"
  refine PyProof.Rows.Call_ (r_blt B I (g_list _) (v := .type "list") (by decide +kernel) (by decide) ?_) rfl
  obtain ⟨xs, hD1, hRp⟩ := hD
  obtain ⟨hE, esd, ep, hdd, hent, htup, hnd⟩ := hD1
  refine PyProof.Rows.callWith_type1 (args_cons (MethodCall_ (Attribute_Name_ (r_loc I rfl (r_attr B I (I.get hx) (I.at (i := 2) rfl) hf₄ (v := .ref dg) rfl rfl (f80_graph_left _) fun s₉ I _ => ?_))) (eval_callm rfl rfl rfl)))
  refine getMethod_builtin ⟨_, I.get (hF _ _ hdg), hE.1⟩ PySem.F.plainAttrs_dict PySem.F.slot_dict_keys PySem.F.type_dict_keys (fun a e => ⟨_, by cases e; exact I.get (hF _ _ hdg), hE.2.1⟩) ?_
  refine callWith_method0 (r_keys I (I.get (hF _ _ hdg)) hE.1 ndg fun v s₁₀ hv I => args_nil ?_)
  walk_at "q"
  replace I := I.settle
  have l₃ := I.L_lt
  refine r_list_keys R'.hh I (.inr ⟨rfl, rfl⟩) ⟨odg, .inl (hF _ _ hdg), hE.1, hdd⟩ (by
    have h1 : esd.size = xs.length := size_of_entries hent
    have h2 := hRp.length
    omega) fun lf s₁₁ c hlf I => r_loc I rfl ?_
  walk_at "q"
  refine r_setattr B I (I.get (.inl hx)) (i := 3) rfl hf₄ (.inl (oL y₄ rfl)) (s80_left _) fun s₁₂ es₅ n₅ I hf₅ z₅ => ?_
  walk_at "q"
  have y₅ : es₅.length ≤ 5 := Nat.le_trans (z₅ (oL y₄ rfl)) (Nat.succ_le_succ y₄)
  have l₄ := I.L_lt
  refine wpAny_execs_cons (plainObj_wpAny_Assign_Attribute (r_newdict I fun ds s₁₃ hds I => r_loc I rfl ?_))
  walk_at "q"
  refine r_setattr B I (I.get (.inl hx)) (i := 4) rfl hf₅ (.inl (oL y₅ rfl)) (s80_dist_left _) fun s₁₄ es₆ n₆ I hf₆ z₆ => wpAny_execs_nil ?_
  walk_at "q"
  refine hqx _ _ ⟨⟨_, _, _, I, fun a o h => .inl h⟩, fun P => ⟨rfl, ?_⟩⟩
  have hndx' := (I.st _ _ (.inl hx)).2.2.2
  have hnd' := I.nd
  have hL' : (L : Nat) = s.heap.objs.size + 2 := hL.trans hz₁
  refine hQ s₁₄ ⟨dx + 1, dx, dg, pl, pr, lf, ds⟩ es₆ n₆ 197 ⟨P.wd, fun b o h1 _ h3 => P.kp b o (hk₁ b o h1) ?_ h3, ?_, P.bare, P.os.trans ho₁⟩ rfl ?_ ?_ (I.get (.inl hx)) (I.at (i := 4) rfl) ?_ (I.at (i := 3) rfl) (I.at (i := 2) rfl) (I.at (i := 0) rfl) ⟨_, c, I.at (i := 1) rfl, ?_⟩
  · have := Heap.lt_size h1
    simp only [List.map_cons, List.map_nil, List.mem_singleton]
    rw [hdx]; exact Nat.ne_of_lt this
  · have := P.sz
    omega
  · intro a ha
    simp only [List.mem_cons, List.not_mem_nil, or_false] at ha
    have e0 : (dx : Nat) = s.heap.objs.size := hdx
    have e1 : (pl : Nat) = _ := hpl
    have e2 : (pr : Nat) = _ := hpr
    have e3 : (lf : Nat) = _ := hlf
    have e4 : (ds : Nat) = _ := hds
    have l1 : (L : Nat) < s₄.heap.objs.size := l₁
    have l2 : (L : Nat) < s₆.heap.objs.size := l₂
    have l3 : (L : Nat) < s₁₀.heap.objs.size := l₃
    have l4 : (L : Nat) < s₁₂.heap.objs.size := l₄
    show (s.heap.objs.size : Nat) ≤ a
    rcases ha with rfl | rfl | rfl | rfl | rfl | rfl
    · show (s.heap.objs.size : Nat) ≤ dx + 1
      omega
    all_goals (first | (rw [e0]; exact Nat.le_refl _) | (rw [e1]; omega) | (rw [e2]; omega) | (rw [e3]; omega) | (rw [e4]; omega))
  · simp only [List.map_cons, List.map_nil, List.set, List.nodup_cons, List.mem_cons, List.not_mem_nil, or_false, not_or, List.nodup_nil, and_true, not_false_eq_true] at hndx' hnd' ⊢
    obtain ⟨x1, x2, x3, x4, x5⟩ := hndx'
    obtain ⟨⟨a1, a2, a3, a4⟩, ⟨b1, b2, b3⟩, ⟨c1, c2⟩, d1⟩ := hnd'
    exact ⟨⟨x2, x4, x3, x1, x5⟩, ⟨b2, b1, fun e => a1 e.symm, b3⟩, ⟨fun e => c1 e.symm, fun e => a3 e.symm, d1⟩, ⟨fun e => a2 e.symm, c2⟩, a4⟩
  · exact hf₆.same fun n => lookup_extB ["_graph_left", "_reference_distance", "_pair_left", "_pair_right", "_left", "_dist_left"] (by exact rfl) (by exact rfl) (by exact rfl) n
  · rw [entries_keys hent]
    clear hent hQ hdd hnd zadj
    revert htup
    induction hRp with
    | nil => intro _; exact .nil
    | @cons k a v b xs ps h1 h2 ih =>
      intro htup
      exact .cons ⟨a, rfl, htup (k, a, v) (.head _)⟩ (ih fun x hx => htup x (.tail _ hx))
end
end Mine
end
section
open PySem PySem.W PySem.Calls PyProof.Rows
open Sem (wp)
namespace Mine

theorem gLEFT (P : Params) : nsIn (KH P) mainGlobals "LEFT" = some (some (.int 0 292)) := by kernel_rfl
theorem gRIGHT (P : Params) : nsIn (KH P) mainGlobals "RIGHT" = some (some (.int 1 294)) := by kernel_rfl
theorem gHK (P : Params) : nsIn (KH P) mainGlobals "HopcroftKarp" = some (some (.ref 80)) := by kernel_rfl
theorem kHK (P : Params) : keepIn (KH P) (.ref 80) = true := by kernel_rfl

structure GA where
  x : Addr
  dx : Addr
  ed : Addr
  lf : Addr
  rt : Addr
  gr : Addr
noncomputable def GA.flds (H : GA) : List (Str × Value) := [("_edges", .ref H.ed), ("_left", .ref H.lf), ("_right", .ref H.rt), ("_graph", .ref H.gr)]
noncomputable def EdD (prog : Program) (w : World) (S : Addr → Obj → Prop) (od : Obj) (E : List (Int × Int)) : Prop := ∃ xs, DicO prog w S od xs ∧ xs.map (·.1) = E.map fun e => [e.1, e.2]

inductive Pos (prog : Program) (w : World) (S : Addr → Obj → Prop) : List (List Int × Addr × Value) → List (Addr × Obj) → List (List Int × List (List Int)) → Prop
  | nil : Pos prog w S [] [] []
  | cons {k : List Int} {a l : Addr} {items : List Value} {n : Nat} {ks : List (List Int)} {xs ls adj} : Tups prog w S items ks → Pos prog w S xs ls adj → Pos prog w S ((k, a, .ref l) :: xs) ((l, lst items n) :: ls) ((k, ks) :: adj)
section
variable {prog : Program} {w : World} {S S' : Addr → Obj → Prop} {xs : List (List Int × Addr × Value)} {ls : List (Addr × Obj)} {adj : List (List Int × List (List Int))}
theorem Pos.mono (h : Pos prog w S xs ls adj) (hs : ∀ a o, S a o → S' a o) : Pos prog w S' xs ls adj := by
  induction h with
  | nil => exact .nil
  | cons h1 _ ih => exact .cons (h1.mono fun _ _ x => x.mono hs) ih
theorem Pos.keys (h : Pos prog w S xs ls adj) : xs.map (·.1) = adj.map (·.1) := by
  induction h with
  | nil => rfl
  | cons _ _ ih => simp [ih]
theorem Pos.len (h : Pos prog w S xs ls adj) : xs.length = adj.length := by
  have := congrArg List.length h.keys; simpa using this
theorem Pos.rep (h : Pos prog w S xs ls adj) : RepL (fun _ _ => True) xs adj := by
  induction h with
  | nil => exact .nil
  | cons _ _ ih => exact .cons trivial ih
theorem Pos.snoc (h : Pos prog w S xs ls adj) {k : List Int} {a l : Addr} {items : List Value} {n : Nat} {ks : List (List Int)} (ht : Tups prog w S items ks) : Pos prog w S (xs ++ [(k, a, .ref l)]) (ls ++ [(l, lst items n)]) (adj ++ [(k, ks)]) := by
  induction h with
  | nil => exact .cons ht .nil
  | cons h1 _ ih => exact .cons h1 ih
theorem Pos.at (h : Pos prog w S xs ls adj) {k : List Int} {ks : List (List Int)} (hg : get adj k = some ks) : ∃ i a l items n, atKey xs k = some (a, .ref l) ∧ ls[i]? = some (l, lst items n) ∧ Tups prog w S items ks ∧
    ∀ items' n' ks', Tups prog w S items' ks' → (∀ p ∈ adj, p.1 = k → p = (k, ks)) → (adj.map (·.1)).Nodup → Pos prog w S xs (ls.set i (l, lst items' n')) (adj.map fun p => if p.1 = k then (p.1, ks') else p) := by
  induction h with
  | nil => cases hg
  | @cons k₀ a l items n ks₀ xs ls adj h1 h2 ih =>
    rw [get_cons] at hg
    by_cases e : k₀ = k
    · subst e
      simp only [if_true, Option.some.injEq] at hg
      subst hg
      refine xi5_4 0 a l items n (by simp [atKey]) rfl h1 (fun items' n' ks' ht _ hn => ?_)
      simp only [List.map_cons, List.set, if_true]
      have : adj.map (fun p => if p.1 = k₀ then (p.1, ks') else p) = adj := by
        rw [List.map_cons, List.nodup_cons] at hn
        conv => rhs; rw [← List.map_id adj]
        refine List.map_congr_left fun p hp => ?_
        walk_at "q"
        have hne : ¬ p.1 = k₀ := fun e => hn.1 (e ▸ List.mem_map_of_mem (f := (·.1)) hp)
        rw [if_neg hne]; rfl
      rw [this]
      exact .cons ht h2
    · simp only [e, if_false] at hg
      refine xa5_4 (ih hg) fun i a' l' items' n' j1 j2 j3 j4 => ?_
      refine xi5_4 (i + 1) a' l' items' n' (by simpa [atKey, e] using j1) (by simpa using j2) j3 (fun items₂ n₂ ks₂ ht hu hn => ?_)
      simp only [List.map_cons, e, if_false, List.set]
      rw [List.map_cons, List.nodup_cons] at hn
      exact .cons h1 (j4 items₂ n₂ ks₂ ht (fun p hp => hu p (.tail _ hp)) hn.2)
theorem Pos.row (h : Pos prog w S xs ls adj) (hls : ∀ p ∈ ls, S p.1 p.2) : RepL (VLst prog w S) xs adj := by
  induction h with
  | nil => exact .nil
  | @cons k a l items n ks xs ls adj h1 _ ih => exact .cons ⟨l, lst items n, items, rfl, hls _ (.head _), lstO _ _, h1⟩ (ih fun p hp => hls p (.tail _ hp))
end

theorem form_nodup : ∀ {pl : List (List Int × List Int)}, (∀ p ∈ pl, ∃ l r, p = ([0, l], [1, r])) → (pl.map (·.1)).Nodup → ((pl.map fun p => (p.1.getD 1 0, p.2.getD 1 0)).map (·.1)).Nodup
  | [], _, _ => List.nodup_nil
  | p :: pl, hf, hn => by
    simp only [List.map_cons, List.nodup_cons] at hn ⊢
    refine xi0_2 (fun h => hn.1 ?_) (form_nodup (fun q hq => hf q (.tail _ hq)) hn.2)
    refine xa1_2 (List.mem_map.mp h) fun y hy e => ?_
    refine xa1_2 (List.mem_map.mp hy) fun q hq he1 => ?_
    obtain rfl := he1
    refine xa2_1 (hf p (.head _)) fun l r he2 => ?_
    obtain rfl := he2
    refine xa2_1 (hf q (.tail _ hq)) fun l' r' he3 => ?_
    obtain rfl := he3
    have e' : l' = l := e
    subst e'
    refine List.mem_map.mpr ?_
    refine xi1_2 _ hq rfl
theorem nodup_take {K β : Type} {M : List (K × β)} (hn : (M.map (·.1)).Nodup) {j : Nat} {p : K × β} (h : M[j]? = some p) : p.1 ∉ (M.take j).map (·.1) := by
  intro q
  refine xa1_2 (List.mem_map.mp q) fun x hx e => ?_
  refine xa1_1 (List.mem_iff_getElem?.mp hx) fun i hi => ?_
  have hij : i < j := by
    have := (List.getElem?_eq_some_iff.mp hi).1
    rw [List.length_take] at this; omega
  rw [List.getElem?_take_of_lt hij] at hi
  have h1 : (M.map (·.1))[i]? = some x.1 := by rw [List.getElem?_map, hi]; rfl
  have h2 : (M.map (·.1))[j]? = some x.1 := by rw [List.getElem?_map, h, e]; rfl
  have := (List.getElem?_inj (List.getElem?_eq_some_iff.mp h1).1 hn).mp (h1.trans h2.symm)
  omega

section
variable {prog : Program} {w : World} {S : Addr → Obj → Prop} {gB : Heap} {mg mb : Str → Option Value}

inductive FdI (prog : Program) (w : World) (H : GA) (Sf : Addr → Obj → Prop) (dg : Addr) (Ed : List (Int × Int)) (k : Nat) (m : Str → Option Value) (S' : Addr → Obj → Prop) (tr : List (Addr × Obj)) : Prop
  | mk (h1 : (∀ a o, Sf a o → S' a o))
    (h2 : m "self" = some (.ref H.x))
    (h3 : m "directed_graph" = some (.ref dg))
    (od xs ls)
    (h4 : tr = (dg, od) :: ls)
    (h5 : DicO prog w S' od xs)
    (h6 : Pos prog w S' xs ls (adjOf (Ed.take k))) : FdI prog w H Sf dg Ed k m S' tr

theorem find_spec (B : Base w.params mg mb gB) {H : GA} {es : List DictEntry} {nn : Nat} {oed : Obj} {Ed : List (Int × Int)} (hx : ∃ sl, S H.x ⟨.ref 199, some H.dx, .plain, sl⟩) (hdx : S H.dx (dictOf es nn)) (hf : FldO es H.flds) (hed : S H.ed oed) (hE : EdD prog w S oed Ed) (ned : gB.objs.size ≤ H.ed)
    (zE : Ed.length ≤ 12) {σ : HK (List Int)} (hhk : hk (adjOf Ed) 20 = some σ) (hform : ∀ p ∈ σ.pl, ∃ l r, p = ([0, l], [1, r])) (zpl : σ.pl.length ≤ 100)
    {A : Around} {s : Shared} {Q : Value → Shared → Prop} {E : Value → Shared → Prop} (R : Room A 40 200) (W : Pre gB s) (hS : ∀ a o, S a o → s.heap.get? a = some o ∧ a ∉ tabP)
    (hQ : ∀ s' d od, Post gB [] s s' → s.heap.objs.size ≤ d → s'.heap.get? d = some od → IntD prog w od (σ.pl.map fun p => (p.1.getD 1 0, p.2.getD 1 0)) → Q (.ref d) s') :
    wpAny (model prog w) A (call (.ref 175) [.ref H.x]) Q E s := by
  refine xa1_1 (hx) fun sl hx => ?_
  refine call_atQ B W (at175 _) nc175 [("self", .ref H.x)] [] (fun p hp => nomatch hp) List.nodup_nil R.depth (by kernel_rfl) (by kernel_rfl) (fun s₁ L Sf qx O A' hSf hL hO hA I hqx => ?_)
  have hF : ∀ a o, S a o → Sf a o := fun a o h => hSf ▸ Froz.of hL (hS a o h).1 (hS a o h).2 (by simp)
  have R' : Room A' (39) (197) := hA ▸ R.deeper (d := 39) (u := 197) (envAt 175 L)
  have U := R'.units1
  refine xa1_2 (hE) fun xsE hDE hkE => ?_
  obtain ⟨hEx, esE, epE, hdatE, hentE, htupE, hndE⟩ := id hDE
  have hszE : esE.size = Ed.length := by
    have h1 := size_of_entries hentE
    have h2 := congrArg List.length hkE
    simp only [List.length_map] at h2
    omega
  refine wpAny_execs_cons (wpAny_Assign_Name (r_newdict I fun dg s₂ hdg I => r_st I fun s₃ I => ?_))
  walk_at "q"
  refine wpAny_execs_cons (r_for_any (gB := gB) (O := O) (L := L) R'.hh ?_)
  walk_at "q"
  refine Attribute_Name_ (r_loc I rfl (r_attr B I (I.get (hF _ _ hx)) (I.get (hF _ _ hdx)) hf (v := .ref H.ed) rfl rfl (f199_edges _) fun s₄ I _ => ?_))
  walk_at "q"
  refine iter_dict I (I.get (hF _ _ hed)) hEx.1 hdatE ned fun it s₅ hit I => ?_
  walk_at "q"
  refine ⟨it, esE.size, _, _, _, _, _, _, _, FdI prog w H Sf dg Ed,
    rfl, KIter (d := H.ed) (es := esE) (ep := epE), I, ⟨rfl, rfl⟩, fun k m S' tr h => ⟨oed, h.1 _ _ (hF _ _ hed), hEx.1, hdatE⟩, ⟨fun _ _ h => h, rfl, rfl, _, [], [], rfl, ⟨ExactDict.new, #[], 0, rfl, rfl, (fun _ h => nomatch h), List.nodup_nil⟩, .nil⟩, ?_, ?_⟩
  · intro k m S' tr s₆ io hk hp4 I
    obtain ⟨hSS, hms, hmd, od, xs, ls, he5, hD, hP⟩ := hp4
    obtain rfl := he5
    obtain ⟨x, hxk⟩ : ∃ x, xsE[k]? = some x := ⟨xsE[k]'(by rw [← size_of_entries hentE]; exact hk), List.getElem?_eq_getElem _⟩
    refine xa1_1 (show ∃ e, Ed[k]? = some e from ⟨Ed[k]'(by exact oQ' ‹_› ‹_›), List.getElem?_eq_getElem _⟩) fun e hek => ?_
    have hx1 : x.1 = [e.1, e.2] := by
      have h1 : (xsE.map (·.1))[k]? = some x.1 := by rw [List.getElem?_map, hxk]; rfl
      rw [hkE, List.getElem?_map, hek] at h1
      simpa using h1.symm
    have hitem : (esE[k]?.map (·.key)).getD .none = .ref x.2.1 := by
      rw [entry_at hentE k, hxk]; rfl
    rw [hitem]
    refine xa1_2 (htupE x (List.mem_of_getElem? hxk)) fun ot hot1 hot2 => ?_
    rw [hx1] at hot2
    refine xa3_2 (hot2.pair) fun ta tb nt hotc hotd => ?_
    refine r_unpack2 R'.hh I (I.get (hSS _ _ (hF _ _ hot1))) hotc hotd fun s₇ I => ?_
    walk_at "q"
    refine wpAny_assign_Name (r_st I fun s₈ I => wpAny_assign_Name (r_st I fun s₉ I => ?_))
    walk_at "q"
    refine wpAny_execs_cons (wpAny_Assign_Name (Tuple_ (args_cons (r_glob B I (gLEFT _) (args_cons (r_loc I rfl (args_nil (r_newtup I fun tl s₁₀ _ I => ?_))))))))
    walk_at "q"
    refine r_st I fun s₁₁ I => ?_
    walk_at "q"
    refine wpAny_execs_cons (wpAny_Assign_Name (Tuple_ (args_cons (r_glob B I (gRIGHT _) (args_cons (r_loc I rfl (args_nil (r_newtup I fun hd s₁₂ _ I => ?_))))))))
    walk_at "q"
    refine r_st I fun s₁₃ I => ?_
    walk_at "q"
    refine FIn.abs I fun S2 hS2 I => ?_
    have hup : ∀ a o, S' a o → S2 a o := fun a o q => by rw [← hS2]; exact .inl (.inl q)
    have htl : TupS prog w S2 tl [0, e.1] := ⟨tup [.int 0 292, .int e.1 ta], by rw [← hS2]; exact .inl (.inr ⟨rfl, rfl⟩), TupO.of⟩
    have hhd : TupS prog w S2 hd [1, e.2] := ⟨tup [.int 1 294, .int e.2 tb], by rw [← hS2]; exact .inr ⟨rfl, rfl⟩, TupO.of⟩
    have hD2 := hD.mono (S' := S2) fun _ _ o q => hup _ o q
    have hP2 := hP.mono hup
    have hadj := adjOf_take hek
    have hlenA := adjOf_length Ed k
    have hlt : k < Ed.length := by exact oQ' ‹_› ‹_›
    refine wpAny_execs_cons (wpAny_If (wpAny_isTrue_Compare1 ?_))
    walk_at "q"
    refine r_loc I rfl (r_loc I hmd ?_)
    walk_at "q"
    refine r_notin (R := fun _ _ => True) I (fun _ _ q => q) U htl (I.at (i := 1) rfl) (I.new (i := 1) rfl) ⟨xs, hD2, hP2.rep⟩ fun s₁₄ I _ => wpAny_truthy_bool ?_
    walk_at "q"
    cases hg : get (adjOf (Ed.take k)) [0, e.1] with
    | none =>
      first | refine ifTb rfl ?_ | refine wifTb rfl ?_ | simp only [Option.isSome_none, Bool.not_false, if_true]
      refine wpAny_execs_cons (wpAny_Assign_Subscript (PyProof.Rows.List_ (args_cons (r_loc I rfl (args_nil (r_newlist I fun l s₁₅ hl I => ?_))))))
      walk_at "q"
      refine r_loc I hmd (r_loc I rfl ?_)
      walk_at "q"
      refine r_setX I (fun _ _ q => q) U htl (i := 2) rfl hD2 (by rw [hP2.len]; omega) fun s₁₆ od' I hD' => wpAny_execs_nil (wpAny_execs_nil ?_)
      walk_at "q"
      have hnone : atKey xs [0, e.1] = none := by
        have := hP2.rep.get_none [0, e.1]
        rw [hg] at this
        cases q : atKey xs [0, e.1] with
        | none => rfl
        | some p => rw [q] at this; cases this
      rw [storedH_new hnone] at hD'
      have hadd : addAdj (adjOf (Ed.take k)) [0, e.1] [1, e.2] = adjOf (Ed.take k) ++ [([0, e.1], [[1, e.2]])] := by
        unfold addAdj; rw [hg]; rfl
      refine xi3_2 _ S2 ((dg, od') :: (ls ++ [(l, lst [.ref hd] 0)])) (I.perm ?_) ⟨fun a o q => hup a o (hSS a o q) , hms , hmd , od' , _ , _ , rfl , hD' , ?_⟩
      · simp only [List.set]
        have h1 : List.Perm ((l, lst [Value.ref hd] 0) :: (it, io) :: (dg, od') :: ls) ((it, io) :: (l, lst [Value.ref hd] 0) :: (dg, od') :: ls) := List.Perm.swap ..
        refine h1.trans (List.Perm.cons _ ?_)
        refine (List.Perm.swap ..).trans (List.Perm.cons _ ?_)
        exact (List.perm_append_singleton _ ls).symm
      · rw [hadj, hadd]
        exact hP2.snoc (.cons ⟨hd, rfl, hhd⟩ .nil)
    | some ks =>
      first | refine ifFb rfl ?_ | refine wifFb rfl ?_ | simp only [Option.isSome_some, Bool.not_true, Bool.false_eq_true, if_false]
      refine xa5_4 (hP2.at hg) fun i ak l items n q1 q2 q3 q4 => ?_
      have hni : (((it, io) :: (dg, od) :: ls)[i + 2]? : Option (Addr × Obj)) = some (l, lst items n) := by simpa using q2
      refine wpAny_execs_cons (wpAny_Expr (MethodCall_ (PyProof.Rows.Subscript_ (r_loc I hmd (r_loc I rfl (r_itemX I (fun _ _ q => q) U htl (I.at (i := 1) rfl) hD2 q1 fun s₁₅ I _ => ?_)))) (eval_callm rfl rfl rfl)))
      refine getMethod_list_append (I.at hni) rfl rfl ?_
      have hrows := adjOf_rows Ed k _ (get_mem hg)
      refine r_append_at (r_loc I rfl ⟨_, _, _, i + 2, items, n, I, hni, ?_, fun s₁₆ I => wpAny_execs_nil (wpAny_execs_nil ?_)⟩)
      · have := q3.length
        dsimp only at hrows
        omega
      · have hadd : addAdj (adjOf (Ed.take k)) [0, e.1] [1, e.2] = (adjOf (Ed.take k)).map fun p => if p.1 = [0, e.1] then (p.1, ks ++ [[1, e.2]]) else p := by
          unfold addAdj; rw [hg]
          first | refine ifTb rfl ?_ | refine wifTb rfl ?_ | simp only [Option.isSome_some, if_true]
          refine List.map_congr_left fun p hp => ?_
          walk_at "q"
          by_cases e' : p.1 = [0, e.1]
          · have : get (adjOf (Ed.take k)) p.1 = some p.2 := get_of_mem (adjOf_nodup _) hp
            rw [e', hg] at this
            cases this
            simp only [e', if_true]
          · simp only [e', if_false]
        have I2 : FIn gB O L _ S2 ((it, io) :: (dg, od) :: ls.set i (l, lst (items ++ [.ref hd]) (n + 1))) _ := I
        refine xi3_2 _ S2 ((dg, od) :: ls.set i (l, lst (items ++ [.ref hd]) (n + 1))) I2 ?_
        refine ⟨fun a o q => hup a o (hSS a o q), hms, hmd, od, xs, _, rfl, hD2, ?_⟩
        rw [hadj, hadd]
        refine q4 _ _ _ (q3.snoc ⟨hd, rfl, hhd⟩) (fun p hp e' => ?_) (adjOf_nodup _)
        have : get (adjOf (Ed.take k)) p.1 = some p.2 := get_of_mem (adjOf_nodup _) hp
        rw [e', hg] at this
        cases this
        rw [← e']
  · intro m S' tr s₆ hp6 I
    obtain ⟨hSS, hms, hmd, od, xs, ls, he7, hD, hP⟩ := hp6
    obtain rfl := he7
    rw [List.take_of_length_le (by omega)] at hP
    have I₀ := I.freeze
    have hS' : ∀ a o, S' a o → Froz L [] s₆ a o := fun a o q => I.froz q
    have hlsF : ∀ p ∈ ls, Froz L [] s₆ p.1 p.2 := fun p hp => I.frozT (by exact List.mem_cons_of_mem _ hp)
    have hdgF : Froz L [] s₆ dg od := I.frozT (by exact List.mem_cons_self ..)
    have ndg := I.new (i := 0) rfl
    have hDR : DicR prog w (Froz L [] s₆) (VLst prog w (Froz L [] s₆)) od (adjOf Ed) := ⟨xs, hD.mono fun _ _ o q => hS' _ o q, (hP.mono hS').row hlsF⟩
    refine wpAny_execs_cons (wpAny_Assign_Name (MethodCall_ ?_ (eval_callm rfl rfl rfl)))
    refine PyProof.Rows.Call_ (r_glob B I₀ (gHK _) ?_) rfl
    refine callWith_K B.X (kHK _) (args_cons (r_loc I₀ hmd (args_nil ⟨B.K I₀.wd, ?_⟩)))
    have hadjl : (adjOf Ed).length ≤ 12 := by
      have := adjOf_length Ed Ed.length
      rw [List.take_length] at this; omega
    refine make_spec B (R'.mono) I₀.pre (fun a o q => ⟨q.1, q.2.2.1⟩) hdgF ndg hDR (by exact oL ‹_› (by exact rfl)) fun s₇ HH es₁ n₁ t₁ P₁ hgl hnew hnd hgx hgdx hff hgpl hgpr hgds hglf => ?_
    walk_at "q"
    have hLs : (L : Nat) < s₆.heap.objs.size := I₀.L_lt
    have hgbs : (gB.objs.size : Nat) ≤ s₆.heap.objs.size := I₀.wd.sz
    have hn' : ∀ a : Nat, s₆.heap.objs.size ≤ a → a ≠ L ∧ gB.objs.size ≤ a := fun a q => ⟨by intro e; rw [e] at q; omega, Nat.le_trans hgbs q⟩
    replace hnew := al6i hnew
    refine xa0_6 (hnew) fun nx ndx npl npr nlf nds => ?_
    replace hnd := nd6 hnd
    refine xa0_5 (hnd) fun hp8 hp9 hp10 hp11 v1 => ?_
    refine xa0_5 (hp8) fun x1 x2 x3 x4 x5 => ?_
    refine xa0_4 (hp9) fun y1 y2 y3 y4 => ?_
    refine xa0_3 (hp10) fun z1 z2 z3 => ?_
    refine xa0_2 (hp11) fun w1 w2 => ?_
    refine xa0_2 (I₀.post P₁ (fun a ha => nomatch ha) (tr' := [(HH.pl, emptyDict), (HH.pr, emptyDict), (HH.ds, emptyDict), (HH.dx, dictOf es₁ n₁)]) (by
      refine al4 ?_ ?_ ?_ ?_
      · refine xi0_2 hgpl (hn' _ npl)
      · refine xi0_2 hgpr (hn' _ npr)
      · refine xi0_2 hgds (hn' _ nds)
      · exact ⟨hgdx, hn' _ ndx⟩) (ndi4 z1 z2 z3 w1 w2 v1)) fun I₁ hold₁ => ?_
    refine xa2_2 (hglf) fun lits cl hglf htl => ?_
    let S₁ : Addr → Obj → Prop := fun a o => Froz L [] s₆ a o ∨ (a = HH.x ∧ o = instObj 80 HH.dx) ∨ (a = HH.lf ∧ o = lst lits cl)
    have hS₁ : ∀ a o, S₁ a o → s₇.heap.get? a = some o ∧ a ∉ tabP ∧ a ∉ [HH.pl, HH.pr, HH.ds, HH.dx] ∧ a ≠ L := by
      rintro a o (q | ⟨rfl, rfl⟩ | ⟨rfl, rfl⟩)
      · have hlt : (a : Nat) < s₆.heap.objs.size := Heap.lt_size q.1
        refine xi0_4 (P₁.kp a o q.1 (fun h => nomatch h) q.2.2.1) q.2.2.1 ?_ q.2.1
        simp only [List.mem_cons, List.not_mem_nil, or_false, not_or]
        refine xi0_4 (fun e => Nat.not_lt.mpr npl (e ▸ hlt)) (fun e => Nat.not_lt.mpr npr (e ▸ hlt)) (fun e => Nat.not_lt.mpr nds (e ▸ hlt)) (fun e => Nat.not_lt.mpr ndx (e ▸ hlt))
      · refine xi0_4 hgx (P₁.wd.notTab (hn' _ nx).2) (nI4 x2 x3 x4 x5) ((hn' _ nx).1)
      · refine xi0_4 hglf (P₁.wd.notTab (hn' _ nlf).2) (nI4 y1 y2 y3 y4) ((hn' _ nlf).1)
    have hS₁F : ∀ a o, S₁ a o → Froz L [(HH.pl, emptyDict), (HH.pr, emptyDict), (HH.ds, emptyDict), (HH.dx, dictOf es₁ n₁)] s₇ a o := fun a o q => ⟨(hS₁ a o q).1, (hS₁ a o q).2.2.2, (hS₁ a o q).2.1, (hS₁ a o q).2.2.1⟩
    have hHS : HSt prog w gB S₁ HH (adjOf Ed) := {
      self := ⟨_, .inr (.inl ⟨rfl, rfl⟩)⟩
      gl := ⟨od, hgl ▸ .inl hdgF, hDR.mono (fun a o q => .inl q) fun _ _ x => x.mono fun a o q => .inl q⟩
      lf := ⟨_, lits, .inr (.inr ⟨rfl, rfl⟩), lstO _ _, htl.mono fun _ _ x => x.mono fun a o q => .inl q⟩
      ngl := hgl ▸ ndg
      npl := (hn' _ npl).2
      npr := (hn' _ npr).2
      nds := (hn' _ nds).2
      ndx := (hn' _ ndx).2 }
    have hemp : ∀ {β : Type} {Rr : Value → β → Prop}, DicR prog w S₁ Rr emptyDict [] := DicR.nil ExactDict.new rfl
    refine r_meth B I₁ (hS₁F _ _ (.inr (.inl ⟨rfl, rfl⟩))).1 (I₁.at (i := 3) rfl) hff rfl (m80get_maximum_matching _) ?_
    walk_at "q"
    refine callWith_K0 (B.K I₁.wd) (by kernel_rfl) ?_
    refine gmm_spec B hHS hff (ndi4 z1 z2 z3 w1 w2 v1) hhk (by omega) (by exact oL ‹_› (by exact rfl)) (fun k rs hrs => ?_) (adjOf_nodup _) (R'.mono) ⟨I₁.pre, fun a o q => ⟨(hS₁ a o q).1, (hS₁ a o q).2.1, (hS₁ a o q).2.2.1⟩, hgdx, ⟨_, hgpl, hemp⟩, ⟨_, hgpr, hemp⟩, ⟨_, hgds, hemp⟩⟩ fun s₈ P₂ hpl₂ => ?_
    · have := adjOf_rows Ed Ed.length _ (by rw [List.take_length]; exact get_mem hrs)
      dsimp only at this
      omega
    refine xa1_2 (hpl₂) fun opl hgpl₂ hDpl => ?_
    refine xa0_2 (I₁.post P₂ (fun a ha => ha) (tr' := []) (fun p hp => nomatch hp) List.nodup_nil) fun I₂ hold₂ => ?_
    have hplF : Froz L [] s₈ HH.pl opl := ⟨hgpl₂, (hn' _ npl).1, P₂.wd.notTab (hn' _ npl).2, by simp⟩
    refine r_st I₂ fun s₉ I => ?_
    walk_at "q"
    refine xa1_2 (hDpl) fun xsP hDP hRP => ?_
    obtain ⟨hPx, esP, epP, hdatP, hentP, htupP, hndP⟩ := id hDP
    have hupS : ∀ a o, S₁ a o → Froz L [] s₈ a o := fun a o q => hold₂ _ _ (hS₁F a o q) (by simp)
    refine wpAny_execs_cons (wpAny_Return_some (PyProof.Rows.Call_ (r_blt B I (g_dict _) (v := .type "dict") (by decide +kernel) (by decide) ?_) rfl))
    refine PyProof.Rows.callWith_type1 (args_cons (r_genexp (gB := gB) (L := L) B R'.depth (c := 174) (P := 170) (cl := []) (by kernel_rfl) (by decide) rfl rfl (by kernel_rfl) (by decide) rfl rfl ?_ (fun _ => rfl)))
    refine MethodCall_ (r_loc I rfl (getMethod_builtin ⟨_, I.get hplF, hPx.1⟩ PySem.F.plainAttrs_dict PySem.F.slot_dict_items PySem.F.type_dict_items (fun a e => ⟨_, by cases e; exact I.get hplF, hPx.2.1⟩) ?_)) (eval_callm rfl rfl rfl)
    refine callWith_method0 (r_items I (I.get hplF) hPx.1 (hn' _ npl).2 fun v s₁₀ hv I => ?_)
    walk_at "q"
    replace I := I.settle
    refine iter_items I (I.get (.inr ⟨rfl, rfl⟩)) (I.get (.inl hplF)) hdatP fun it s₁₁ hit I => ?_
    walk_at "q"
    refine xi6_3 it _ _ _ _ _ rfl I (fun code C ga g fo s₁₂ nm qn I hgs hns hg0 hpre => args_nil ?_)
    have hszP : esP.size = σ.pl.length := by
      have h1 := size_of_entries hentP
      have h2 := hRP.length
      omega
    let M := σ.pl.map fun p => (p.1.getD 1 0, p.2.getD 1 0)
    have hMn : (M.map (·.1)).Nodup := form_nodup hform (by rw [← hRP.keys]; exact hndP)
    have hMl : M.length = esP.size := by rw [hszP]; simp [M]
    have hchain : ∀ a o, Sf a o → Froz L [] s₈ a o := fun a o q => hupS a o (.inl (hS' _ _ (hSS _ _ q)))
    have hl12 : (s.heap.objs.size : Nat) < s₁₂.heap.objs.size := hL ▸ I.L_lt
    have hlist : ∀ {j i : Nat}, (passing (fun _ => true) esP.size 0)[j]? = some i → i = j ∧ j < esP.size := fun {j i} q => by
      rw [passing_all] at q
      obtain ⟨h1, h2⟩ := List.getElem?_eq_some_iff.mp q
      rw [List.getElem_range] at h2
      refine xi0_2 h2.symm (by simpa using h1)
    refine r_dict_genexp (hgs esP.size (fun S k v => ∃ a, v = .ref a ∧ S a (tup [(esP[k]?.map (·.key)).getD .none, (esP[k]?.map (·.val)).getD .none])) (IIt HH.pl esP.size epP) (fun S => RawD S HH.pl esP epP ∧ ∀ a o, S₁ a o → S a o) (fun _ => true)
      (fun i v S => ∃ a k x, v = .ref a ∧ S a (tup [k, x]) ∧ ∃ p, M[i]? = some p ∧ VInt k p.1 ∧ VInt x p.2)) B (d := 0) (u := 20)
      { J := (itemsItr (prog := prog) (w := w) (gB := gB) (d := HH.pl) (it := it) (es := esP) (ep := epP)).more (fun h => h.1) (fun hs h => ⟨h.1.mono hs, fun a o q => hs _ _ (h.2 a o q)⟩)
        fmono := fun hs ⟨a, k, x, e, h1, h2⟩ => ⟨a, k, x, e, hs _ _ h1, h2⟩
        loc := rfl
        ne := by
          exact fun e => (List.nodup_cons.mp I.nd).1 (List.mem_singleton.mpr e.symm)
        co := rfl
        body := ?body } R'.mono I hns ?hP ?hS hg0 hpre (KV := fun i k x S => ∃ p, M[i]? = some p ∧ VInt k p.1 ∧ VInt x p.2) (D := fun S j od => IntD prog w od (M.take j)) (fun h => h) (fun p hp => nomatch hp) (fun _ h => h) (fun h => h.cls) IntD.nil ?put ?fin
    case hP => exact ⟨_, _, _, _, rfl, .inl rfl⟩
    case hS => exact ⟨⟨opl, .inl (.inl hplF), hPx.1, hdatP⟩, fun a o q => .inl (.inl (hupS a o q))⟩
    case put =>
      intro dd A' O' S' tr' s' E' od' j i idx k x Q' hu hi J hD hl hkv hq
      refine xa0_2 (hlist hl) fun he12 hlt => ?_
      obtain rfl := he12
      refine xa1_3 (hkv) fun p hp hk hx => ?_
      refine r_intPut hi J hD hk hx (nodup_take hMn hp) (oT (show M.length ≤ 100 from (List.length_map _).symm ▸ zpl) (by exact rfl)) fun s'' od'' J' hD' => hq s'' od'' J' (by rw [List.take_add_one, hp]; exact hD')
    case fin =>
      intro a S' s' od' ha hS' J hD
      refine hqx _ _ ⟨⟨_, _, _, J, fun b o q => hS' b o (.inl (hchain b o q))⟩, fun P => ?_⟩
      refine (hQ s' a od' P (by rw [ha]; exact Nat.le_of_lt hl12) (J.at (i := 0) rfl) ?_)
      have e : (passing (fun _ => true) esP.size 0).length = M.length := by rw [passing_all, List.length_range, hMl]
      have hD' : IntD prog w od' (M.take (passing (fun _ => true) esP.size 0).length) := hD
      rw [e, List.take_length] at hD'
      exact hD'
    case body =>
      intro A' O' m' S' s' E' io' i v RB hi J hp13 hp14
      dsimp only at J ⊢
      refine xa0_2 (hp13) fun hraw hS1 => ?_
      refine xa1_2 (hp14) fun a he15 ha => ?_
      obtain rfl := he15
      have hi' : i < σ.pl.length := by rw [← hszP]; exact hi
      refine xa1_1 (show ∃ p, σ.pl[i]? = some p from ⟨σ.pl[i], List.getElem?_eq_getElem hi'⟩) fun p hpi => ?_
      refine xa2_1 (hform p (List.mem_of_getElem? hpi)) fun l r he16 => ?_
      obtain rfl := he16
      obtain ⟨ka, kv, hxi, va, he17, hva⟩ := hRP.at hpi
      obtain rfl := he17
      have hMi : M[i]? = some (l, r) := by
        show (σ.pl.map _)[i]? = _
        rw [List.getElem?_map, hpi]; rfl
      have hk1 : (esP[i]?.map (·.key)).getD .none = .ref ka := by rw [entry_at hentP i, hxi]; rfl
      have hk2 : (esP[i]?.map (·.val)).getD .none = .ref va := by rw [entry_at hentP i, hxi]; rfl
      rw [hk1, hk2] at ha
      refine xa1_2 (htupP _ (List.mem_of_getElem? hxi)) fun ok hok1 hok2 => ?_
      refine xa3_2 (hok2.pair) fun ta tb nt hoc hod => ?_
      refine xa1_2 (hva) fun ov hov1 hov2 => ?_
      refine xa3_2 (hov2.pair) fun ta' tb' nt' hoc' hod' => ?_
      refine r_unpack2 RB.hh J (J.get ha) rfl rfl fun s₁ J => ?_
      walk_at "q"
      refine wpAny_assign_Name (r_st J fun s₂ J => wpAny_assign_Name (r_st J fun s₃ J => tests1 (wpAny_isTrue_Compare1 ?_)))
      walk_at "q"
      refine PyProof.Rows.Subscript_ (r_loc J rfl (wpAny_Constant_int ?_))
      walk_at "q"
      replace J := J.toks (s₃.toks + 1)
      refine r_pair0 (J.get (hS1 _ _ hok1)) hoc hod (r_glob B J (gLEFT _) (PyProof.Rows.eq_int (wpAny_truthy_bool ?_)))
      walk_at "q"
      refine xi0_3 rfl (fun h => (nomatch h)) (fun _ => ?_)
      refine Tuple_ (args_cons (PyProof.Rows.Subscript_ (r_loc J rfl (wpAny_Constant_int ?_))))
      walk_at "q"
      replace J := J.toks (s₃.toks + 1 + 1)
      refine r_pair1 (J.get (hS1 _ _ hok1)) hoc hod (args_cons (PyProof.Rows.Subscript_ (r_loc J rfl (wpAny_Constant_int ?_))))
      walk_at "q"
      replace J := J.toks (s₃.toks + 1 + 1 + 1)
      refine r_pair1 (J.get (hS1 _ _ hov1)) hoc' hod' (args_nil (r_newtup J fun b s₄ hb J => ?_))
      walk_at "q"
      exact ⟨_, _, J, fun a o q => .inl q, b, _, _, rfl, ⟨.inr ⟨rfl, rfl⟩, rfl, _, _, rfl⟩, (l, r), hMi, ⟨_, rfl⟩, ⟨_, rfl⟩⟩
end
end Mine
end
section
open PySem PySem.W PySem.Calls PyProof.Rows
open Sem (wp)
namespace Mine
set_option linter.unusedSectionVars false
theorem bind98_0 (x : Value) : bindArgs (fnAt 98) ⟨[x], []⟩ = (do let t ← newTuple []; let d ← alloc { cls := .type "dict", data := .dict #[] }; pure [("self", x), ("args", t), ("kwargs", .ref d)]) := by
  kernel_rfl
theorem bind98_1 (x y : Value) : bindArgs (fnAt 98) ⟨[x, y], []⟩ = (do let t ← newTuple [y]; let d ← alloc { cls := .type "dict", data := .dict #[] }; pure [("self", x), ("args", t), ("kwargs", .ref d)]) := by
  kernel_rfl

section
variable {prog : Program} {w : World} {gB : Heap} {O O' : Og} {L : Addr} {m : Str → Option Value} {S S' : Addr → Obj → Prop} {tr tr' : List (Addr × Obj)} {s : Shared} {A : Around} {E : Value → Shared → Prop} {env : Env} {mg mb : Str → Option Value}

theorem merge_empty {d kd : Addr} {od : Obj} {ep : Nat} {Q : Unit → Shared → Prop} (I : FIn gB O L m S tr s) (hd : s.heap.get? d = some od) (hdd : od.data = .dict #[] ep) (hk : s.heap.get? kd = some emptyDict) (hn : gB.objs.size ≤ kd) (h : Q () s) :
    wpAny (model prog w) A (mergeMapping d (.ref kd) true) Q E s := by
  have hT : s.TypeIs (.ref kd) "dict" := ⟨_, hk, rfl⟩
  unfold mergeMapping
  refine wpAny_bind (wpAny_isInstance hT PySem.isSubtype_dict_dict ?_)
  walk_at "q"
  first | refine wifTb rfl ?_ | refine ifTb rfl ?_ | simp only [if_true]
  refine wpAny_bind (wpAny_specialOf hT PySem.F.slot_dict_iter.lookup (wpAny_bind (wpAny_pure ?_)))
  walk_at "q"
  simp only [beq_self_eq_true]
  first | refine wifF (by rw [I.wd.notMod hn]; exact Bool.false_ne_true) ?_ | refine ifF (by rw [I.wd.notMod hn]; exact Bool.false_ne_true) ?_ | rw [if_neg (by rw [I.wd.notMod hn]; exact Bool.false_ne_true)]
  refine wpAny_bind (wpAny_dictEntries hd hdd ?_)
  walk_at "q"
  simp only [Array.isEmpty_empty, if_true]
  refine wpAny_bind (wpAny_dictEntries hk rfl ?_)
  walk_at "q"
  refine wpAny_bind ?_
  walk_at "q"
  show wpAny _ _ (pure _) _ _ _
  refine wpAny_pure ?_
  walk_at "q"
  refine wpAny_bind (wpAny_dictEntries hk rfl ?_)
  walk_at "q"
  refine wpAny_bind (wpAny_dictEpoch hk rfl ?_)
  walk_at "q"
  refine wpAny_bind ?_
  walk_at "q"
  show wpAny _ _ (pure _) _ _ _
  exact wpAny_pure (wpAny_pure h)

theorem r_call_star {T : String} {pos : PySem.Pos} {items : List Value} {Q : Value → Shared → Prop} {ta kd : Addr} {n : Nat} {args : List (Bool × Sem Value)} {kws : List (Option Str × Sem Value)} {ty tx : Sem Value} (hargs : args = [(true, tx)]) (hkws : kws = [(none, ty)]) (I : FIn gB O L m S tr s) (hta : S ta { cls := .type "tuple", data := .seq items.toArray n })
    (hkd : S kd emptyDict) (nkd : gB.objs.size ≤ kd) (hz : items.length ≤ 1000)
    (hx : ∀ {A : Around} {s₁ : Shared} {tr : List (Addr × Obj)} {Q : Value → Shared → Prop}, FIn gB O L m S tr s₁ → Q (.ref ta) s₁ → wpAny (model prog w) A tx Q E s₁) (hy : ∀ {A : Around} {s₁ : Shared} {tr : List (Addr × Obj)} {Q : Value → Shared → Prop} {E : Value → Shared → Prop}, FIn gB O L m S tr s₁ → Q (.ref kd) s₁ → wpAny (model prog w) A ty Q E s₁)
    (h : ∀ s', FIn gB O L m S tr s' → wpAny (model prog w) A (call (.type T) items) Q E s') :
    wpAny (model prog w) A (callWith pos (.type T) [] args kws) Q E s := by
  subst hargs hkws
  unfold callWith
  refine wpAny_bind (wpAny_holding ?_)
  walk_at "q"
  unfold evalArgs
  refine wpAny_bind (hx I (wpAny_bind (wpAny_pure ?_)))
  walk_at "q"
  dsimp only
  refine wpAny_holding ?_
  walk_at "q"
  first | refine wifF Bool.false_ne_true ?_ | refine wifF (by simp) ?_ | refine ifF (by simp) ?_ | rw [if_neg (by simp)]
  refine wpAny_bind ?_
  walk_at "q"
  unfold mergedKeywords
  refine wpAny_bind (wpAny_alloc ?_)
  walk_at "q"
  have I₁ := I.push emptyDict s.toks
  generalize hd : s.heap.objs.size = d at I₁ ⊢
  have I₁ : FIn gB O L m S ((d, emptyDict) :: tr) { s with heap := s.heap.push { cls := .type "dict", data := .dict #[] } } := I₁
  generalize ({ s with heap := s.heap.push { cls := .type "dict", data := .dict #[] } } : Shared) = s₁ at I₁ ⊢
  refine wpAny_bind (wpAny_holding ?_)
  walk_at "q"
  refine wpAny_bind (wpAny_forIn_list _ (fun rest b s' => (rest = [(none, ty)] ∨ rest = []) ∧ s' = s₁ ∧ b = []) _ ?_ ?_ _ _ ⟨.inl rfl, rfl, rfl⟩)
  · rintro x rest b s' ⟨hr, rfl, rfl⟩
    rcases hr with hr | hr
    · injection hr with e1 e2
      subst e1 e2
      dsimp only
      refine wpAny_bind (wpAny_pure ?_)
      walk_at "q"
      refine wpAny_bind (hy I₁ (wpAny_bind (wpAny_onRaise (wpAny_holding (wpAny_tryCatch (wpAny_onRaise (merge_empty I₁ (I₁.at (i := 0) rfl) rfl (I₁.get hkd) nkd ?_)))))))
      walk_at "q"
      exact wpAny_pure ⟨.inr rfl, rfl, rfl⟩
    · cases hr
  · rintro b s' ⟨_, rfl, rfl⟩
    refine wpAny_bind (wpAny_pure (wpAny_pure ?_))
    walk_at "q"
    refine wpAny_pure ?_
    walk_at "q"
    have hT : s'.TypeIs (.ref ta) "tuple" := ⟨_, I₁.get hta, rfl⟩
    refine wpAny_bind (wpAny_bind ?_)
    walk_at "q"
    unfold notIterableAtAll
    refine wpAny_bind (wpAny_specialOf hT slot_tuple_iter.lookup ?_)
    walk_at "q"
    refine wpAny_pure ?_
    walk_at "q"
    first | refine wifF Bool.false_ne_true ?_ | refine wifF (by decide) ?_ | refine ifF (by decide) ?_ | rw [if_neg (by decide)]
    refine wpAny_holding (wpAny_collect_seq (T := "tuple") ta (.inr rfl) (I₁.get hta) rfl rfl (fun h' hk => ?_) (by rw [List.size_toArray, sizeLine_eq]; exact oL ‹_› (by exact rfl)))
    have I₂ := I₁.keeps (tk := s'.toks) hk
    refine wpAny_bind (wpAny_holding ?_)
    walk_at "q"
    unfold keywordsIn
    refine wpAny_bind (wpAny_dictEntries (I₂.at (i := 0) rfl) rfl ?_)
    walk_at "q"
    refine wpAny_bind ?_
    walk_at "q"
    refine wpAny_pure (wpAny_pure (wpAny_pure ?_))
    walk_at "q"
    refine wpAny_bind (wpAny_standAt ?_)
    walk_at "q"
    refine wpAny_bind (wpAny_pure ?_)
    walk_at "q"
    refine wpAny_bind (wpAny_operating ?_)
    walk_at "q"
    have I₃ : FIn gB O L m S tr { s' with heap := h', toks := s'.toks } := I₂.waste (tk := s'.toks) (Heap.ExtBut.refl _ _)
    refine wpAny_mono (?_ : wpAny (model prog w) A (call (.type T) items) Q E _) (fun r s'' hr => wpAny_bind (wpAny_holding (wpAny_point (wpAny_pure hr)))) fun _ _ x => x
    exact h _ I₃
end
end Mine
end
section
open PySem PySem.W PySem.Calls PyProof.Rows
open Sem (wp)
namespace Mine
noncomputable def SetO (prog : Program) (w : World) (o : Obj) (K : Int → Bool) (n : Nat) : Prop :=
  ∃ es ep t, o.ExactSet ∧ o.data = .set es ep t ∧ ElemsOf (intKind prog w) es.toList ∧ (∀ k, K k = true ↔ ∃ e ∈ es.toList, (intKind prog w).is k e.2 = true) ∧ es.size < scanBound ∧ t.fits es.size = true ∧ es.size = n
section
variable {prog : Program} {w : World} {gB : Heap} {O O' : Og} {L : Addr} {m : Str → Option Value} {S S' : Addr → Obj → Prop} {tr tr' : List (Addr × Obj)} {s : Shared} {A : Around} {E : Value → Shared → Prop} {env : Env} {mg mb : Str → Option Value}
theorem SetO.of {a : Addr} {o : Obj} {K : Int → Bool} {n : Nat} {h : Heap} (hg : h.get? a = some o) (x : SetO prog w o K n) : h.SetOf (intKind prog w) a K n := let ⟨es, ep, t, r⟩ := x; ⟨o, es, ep, t, hg, r⟩
theorem SetO.from {a : Addr} {K : Int → Bool} {n : Nat} {h : Heap} (x : h.SetOf (intKind prog w) a K n) : ∃ o, h.get? a = some o ∧ SetO prog w o K n := let ⟨o, es, ep, t, hg, r⟩ := x; ⟨o, hg, es, ep, t, r⟩
theorem SetO.cls {o : Obj} {K : Int → Bool} {n : Nat} (x : SetO prog w o K n) : o.cls = .type "set" := let ⟨_, _, _, h, _⟩ := x; h.1
noncomputable abbrev freshSet (led : Bool) : Obj := { cls := .type "set", dict := none, data := .set #[] 0 (.fresh 0 0 led) }
theorem SetO.fresh (led : Bool) : SetO prog w (freshSet led) (fun _ => false) 0 := ⟨#[], 0, _, ⟨rfl, rfl, rfl⟩, rfl, (fun e he => by simp at he), (fun k => by simp), by decide, by rfl, rfl⟩

theorem r_setAdd {a : Addr} {i : Nat} {k : Int} {t : Tok} {o : Obj} {K : Int → Bool} {n : Nat} {Q : Bool → Shared → Prop} (I : FIn gB O L m S tr s) (hi : tr[i]? = some (a, o)) (hO : SetO prog w o K n) (hn : n ≤ 1000)
    (h : ∀ s' o' b n', n' ≤ n + 1 → FIn gB O L m S (tr.set i (a, o')) s' → SetO prog w o' (fun k' => K k' || decide (k' = k)) n' → Q b s') :
    wpAny (model prog w) A (setAdd a (.int k t)) Q E s := by
  unfold setAdd
  refine wpAny_holding ?_
  walk_at "q"
  refine wpAny_bind ((intKind prog w).pyHash (k := k) (intKind_is _ _ _ _) ?_)
  walk_at "q"
  refine wpAny_setAddHashed_of (knd := intKind prog w) (s := { s with toks := s.toks + 1 }) (intKind_is _ _ _ _) rfl (hO.of (I.at hi)) (by unfold scanBound; omega) fun h' hsb hS2 => ?_
  walk_at "q"
  obtain ⟨o', ho', hO'⟩ := SetO.from hS2
  exact h _ o' _ _ (by split <;> omega) (I.turn (tk := s.toks + 1) hi hsb ho') hO'

variable {G : GenSpec prog w gB} {d u : Nat}
theorem set_loop (B : Base w.params mg mb gB) (K : G.Ok d u) {dd ga : Addr} {g : Nat} {R : Result → Shared → Prop} (hh : A.handled = none) (hroom : A.depth < recursionLimit)
    (hF : ∀ {i v S}, G.F i v S → ∃ k t, v = .int k t) (hnt : ∀ p ∈ tr, p.2.cls ≠ .type "tuple") (hlen : G.list.length ≤ 1000)
    (hR : ∀ O' S' s' o Kf n, n ≤ G.list.length → (∀ a o, S a o → S' a o) → FIn gB O' L m S' ((dd, o) :: tr) s' → OgStep g O O' → SetO prog w o Kf n → R (.ok (.ret .none)) s') :
    ∀ (r j i : Nat) (O₁ : Og) (S₁ : Addr → Obj → Prop) (s : Shared) (io fo o : Obj) (Kf : Int → Bool) (n : Nat), G.list.length - j = r → j ≤ G.list.length → n ≤ j → OgStep g O O₁ → (∀ a o, S a o → S₁ a o) → FIn gB O₁ L m S₁ ((G.it, io) :: (G.C, fo) :: (dd, o) :: tr) s → GenIn G A.in1 O₁ S₁ s ga g i j io → SetO prog w o Kf n →
      codeAny (model prog w) A (.builtin "set.update.loop" ⟨[.ref dd, .ref ga], []⟩) R s := by
  intro r
  induction r with
  | zero =>
    intro j i O₁ S₁ s io fo o Kf n hr hj hn hO hS I N hD
    obtain rfl : j = G.list.length := by omega
    refine codeAny_builtin PyProof.Rows.F.entry_set_update_loop ?_
    walk_at "q"
    rw [Around.under_plainId PyProof.Rows.F.plain_set_update_loop _]
    show wpAny _ A.in1 (pyNext (.ref ga) >>= _) _ _ s
    refine wpAny_bind (gen_done B K hh hroom I N ?_ (Nat.le_refl _) fun O' s' I' hO' => ?_)
    · intro p hp
      rcases List.mem_cons.mp hp with rfl | hp
      · rw [hD.cls]; decide
      · exact hnt p hp
    · show wpAny _ _ (ret Value.none) _ _ _
      exact wpAny_pure (hR O' S₁ s' o Kf n hn hS I' ⟨hO'.1.trans hO.1, fun k x a b => hO'.2 k x a (hO.2 k x a b)⟩ hD)
  | succ r ih =>
    intro j i O₁ S₁ s io fo o Kf n hr hj hn hO hS I N hD
    have hlt : j < G.list.length := by exact oS1 ‹_›
    refine codeAny_builtin PyProof.Rows.F.entry_set_update_loop ?_
    walk_at "q"
    rw [Around.under_plainId PyProof.Rows.F.plain_set_update_loop _]
    show wpAny _ A.in1 (pyNext (.ref ga) >>= _) _ _ s
    refine wpAny_bind (gen_turn B K hh hroom I N ?_ hlt fun v i' io' fo' O' S' s' hi' hS' hF' I' hO' N' => ?_)
    · intro p hp
      rcases List.mem_cons.mp hp with rfl | hp
      · rw [hD.cls]; decide
      · exact hnt p hp
    obtain ⟨k, t, rfl⟩ := hF hF'
    show wpAny _ _ (holding [Value.int k t] (setAdd dd (.int k t)) >>= _) _ _ _
    refine wpAny_bind (wpAny_holding (r_setAdd (i := 2) I' rfl hD (by omega) fun s₂ o₂ b n' hn' I₂ hD₂ => ?_))
    walk_at "q"
    refine wpAny_pure ⟨plainId_quiet PyProof.Rows.F.plain_set_update_loop _, ?_⟩
    exact ih (j + 1) (i' + 1) O' S' s₂ io' fo' o₂ _ n' (by exact oS ‹_›) hlt (by omega) ⟨hO'.1.trans hO.1, fun k x a b => hO'.2 k x a (hO.2 k x a b)⟩ (fun a o q => hS' _ _ (hS _ _ q)) I₂ (N'.on I' I₂ (fun _ _ q => q) K) hD₂

theorem sub_gen_set : isSubtype (.type "generator") (.type "set") = pure false := by rw [isSubtype_type]; kernel_rfl
theorem sub_gen_frozenset : isSubtype (.type "generator") (.type "frozenset") = pure false := by rw [isSubtype_type]; kernel_rfl

set_option maxHeartbeats 3200000 in
theorem r_set_genexp {g : Nat} (hgs : s.gens[g]? = some (.fresh G.start)) (B : Base w.params mg mb gB) (K : G.Ok d u) {io fo : Obj} {ga : Addr} {nm qn : Value} {m₀ : Str → Option Value} {Q : Value → Shared → Prop} (R : Room A (d + 1) (u + 7))
    (I : FIn gB ⟨O.os, s.gens⟩ L m (And1 S ga (genObj g nm qn)) ((G.it, io) :: (G.C, fo) :: tr) s) (hns : s.heap.Ns G.C m₀) (hP : G.ItP (And1 S ga (genObj g nm qn)) 0 io) (hS : G.Src (And1 S ga (genObj g nm qn))) (hg0 : O.g[g]? = none) (hpre : ∀ (k : Nat) (x : GenState), O.g[k]? = some x → s.gens[k]? = some x)
    (hF : ∀ {i v S}, G.F i v S → ∃ k t, v = .int k t) (hnt : ∀ p ∈ tr, p.2.cls ≠ .type "tuple") (hlen : G.list.length ≤ 1000)
    (h : ∀ a S' s' o Kf n, a = s.heap.objs.size → n ≤ G.list.length → (∀ a o, S a o → S' a o) → FIn gB O L m S' ((a, o) :: tr) s' → SetO prog w o Kf n → Q (.ref a) s') :
    wpAny (model prog w) A (call (.type "set") [.ref ga]) Q E s := by
  obtain ⟨c, tl, hmro⟩ := PySem.F.called_set.mro
  have hmade := PySem.F.called_set.made
  have hsub := PySem.F.called_set.sub
  refine wpAny_call (codeAny_of_tree ?_)
  walk_at "q"
  show wpAny _ _ (callAny (.type "set") _) _ _ _
  refine wpAny_pure ⟨Code.quiet_builtin _ (by decide +kernel), codeAny_builtin PySem.F.entry_type_call ?_⟩
  rw [Around.under_plain (weight_type_call_type "set" [.ref ga] []) rfl]
  have h1 := PySem.F.called_set.notType
  have h2 := PySem.F.called_set.canCreate
  have hct := PySem.F.typeCall_set_1 (.ref ga)
  repeat (any_goals (first | assumption | wp_step))
  refine codeAny_mono (code_set_new_1 (.ref ga) (E := E) (Q₁ := fun obj s₁ => ∃ led : Bool, obj = .ref s.heap.objs.size ∧ s₁ = { s with heap := s.heap.push (freshSet led) }) fun led => ⟨led, rfl, rfl⟩) fun r s₁ hr => ?_
  cases r with
  | error e => exact hr
  | ok fl =>
    cases fl with
    | ret obj =>
      obtain ⟨led, rfl, rfl⟩ := hr
      have hS₀ : (s.heap.push (freshSet led)).get? s.heap.objs.size = some (freshSet led) := Heap.get?_push_size _ rfl
      have hT : Shared.TypeIs { s with heap := s.heap.push (freshSet led) } (.ref s.heap.objs.size) "set" := ⟨_, hS₀, rfl⟩
      have hli := PySem.F.called_set.init.lookup
      have hbi := PySem.F.called_set.init.bind (.ref s.heap.objs.size)
      repeat (any_goals (first | assumption | wp_step))
      refine codeAny_mono (codeAny_call_builtin (R := wants (fun r s₂ => r = .none ∧ Q (.ref s.heap.objs.size) s₂) E) PySem.F.called_set.init.plain PySem.F.entry_set_init (check_set_init_1 hT ?_)) fun r₂ s₂ hr₂ => ?_
      · have I₁ := (I.push (freshSet led) s.toks).swap
        have I₁' : FIn gB ⟨O.os, s.gens⟩ L m (And1 S ga (genObj g nm qn)) ((G.it, io) :: (G.C, fo) :: (s.heap.objs.size, freshSet led) :: tr) { s with heap := s.heap.push (freshSet led) } :=
          FIn.perm (tr := (G.it, io) :: (s.heap.objs.size, freshSet led) :: (G.C, fo) :: tr) I₁ (List.Perm.cons _ (List.Perm.swap ..))
        have hga := I₁'.get (a := ga) (o := genObj g nm qn) (.inr ⟨rfl, rfl⟩)
        have hsgs := sub_gen_set
        have hsgf := sub_gen_frozenset
        have hne : (Value.type "generator" == Value.type "dict") = false := by decide
        unfold Builtin.«set.__init__» noKeywords Builtin.Frozenset.updateFrom
        generalize hPI : pyIter = PI
        wp_walk
        subst hPI
        refine wpAny_pyIter_gen (g := g) ⟨_, nm, qn, hga, rfl, rfl, rfl⟩ ?_
        walk_at "q"
        refine wpAny_bind (wpAny_runValue ?_)
        walk_at "q"
        have hR₃ : Room A.in1.in1.in1 (d + 1) (u + 4) := ((Room.in1 (u := u + 6) R).in1 (u := u + 5)).in1
        have N₂ : GenIn G A.in1.in1.in1 ⟨O.os, s.gens⟩ (And1 S ga (genObj g nm qn)) { s with heap := s.heap.push (freshSet led) } ga g 0 0 io :=
          ⟨⟨nm, qn, .inr ⟨rfl, rfl⟩⟩, ⟨_, m₀, hgs, hns.push _, G.at0 K hR₃ m₀ io⟩, by simp, hP, hS⟩
        refine set_loop (A := A.in1.in1) B K (dd := s.heap.objs.size) R.hh (R.mono (d' := 0) (u' := 0)).depth hF hnt hlen (fun O' S' s' o Kf n hn hS' I' hO' hD' => ?_) G.list.length 0 0 _ _ _ io fo (freshSet led) _ 0 (by simp) (Nat.zero_le _) (Nat.le_refl _) ⟨rfl, fun _ _ _ q => q⟩ (fun _ _ q => q) I₁' N₂ (SetO.fresh led)
        refine wpAny_pure ?_
        walk_at "q"
        show wpAny _ _ (ret Value.none) _ _ _
        refine wpAny_pure ⟨rfl, h _ S' s' o Kf n rfl hn (fun b o q => hS' b o (.inl q)) (I'.reO hO'.1 fun k x q => hO'.2 k x (fun e => ?_) (hpre k x q)) hD'⟩
        rw [e, hg0] at q; cases q
      · cases r₂ with
        | error e => exact hr₂
        | ok fl₂ =>
          cases fl₂ with
          | ret r =>
            obtain ⟨rfl, hq⟩ := hr₂
            repeat (any_goals (first | assumption | wp_step))
          | _ => exact hr₂.elim
    | _ => exact hr.elim
end
end Mine
end
section
open PySem PySem.W PySem.Calls PyProof.Rows
open Sem (wp)
namespace Mine
noncomputable def HN (c i : Nat) : Int := reduceHash (Builtin.Tuple.tupleHashOf ([(c : Int), (i : Int)].map hashInt))
noncomputable def pls (c : Nat) : List (Nat × Nat) := if c = 0 then [(0, 1), (2, 2), (3, 3), (7, 0)] else [(0, 0), (2, 1), (3, 2), (4, 3)]
noncomputable def stp (c b : Nat) : List (Nat × Nat) := (pls c).filter fun p => b.testBit p.2
noncomputable def TT (c b : Nat) (led : Bool) : SetTable := { mask := 7, place := ((stp c b).map (·.1)).toArray, dummies := #[], finger := 0, led, moves := 0, plain := true }
noncomputable def hashAt (c b k : Nat) : Int := (((stp c b)[k]?).map fun p => HN c p.2).getD 0
noncomputable def chk (c b i : Nat) (led : Bool) : Bool :=
  match (TT c b led).probe (hashAt c b) (HN c i) ((TT c b led).probeStart (HN c i)) with
  | some (.empty j none) => !b.testBit i && decide (((TT c b led).put j).1 = TT c (b ||| (1 <<< i)) led) &&
      decide (stp c (b ||| (1 <<< i)) = (stp c b).take ((TT c b led).put j).2 ++ (j, i) :: (stp c b).drop ((TT c b led).put j).2) && !(TT c (b ||| (1 <<< i)) led).tooFull
  | some (.candidate _ k _) => b.testBit i && decide ((stp c b)[k]?.map (·.2) = some i) && decide (b ||| (1 <<< i) = b)
  | _ => false
theorem chk_all : ∀ c, c < 2 → ∀ b, b < 16 → ∀ i, i < 4 → ∀ led, chk c b i led = true := by decide +kernel
theorem tt_fits : ∀ c, c < 2 → ∀ b, b < 16 → ∀ led, (TT c b led).fits (stp c b).length = true := by decide +kernel
theorem bit_lt : ∀ b, b < 16 → ∀ i, i < 4 → b ||| (1 <<< i) < 16 := by decide +kernel

noncomputable def TSet (prog : Program) (w : World) (S : Addr → Obj → Prop) (c b : Nat) (o : Obj) : Prop :=
  ∃ led es ep, o = { cls := .type "set", dict := none, data := .set es ep (TT c b led) } ∧ All2 (fun (e : Int × Value) (p : Nat × Nat) => e.1 = HN c p.2 ∧ ∃ a, e.2 = .ref a ∧ TupS prog w S a [(c : Int), (p.2 : Int)]) es.toList (stp c b)
section
variable {prog : Program} {w : World} {gB : Heap} {O O' : Og} {L : Addr} {m : Str → Option Value} {S S' : Addr → Obj → Prop} {tr tr' : List (Addr × Obj)} {s : Shared} {A : Around} {E : Value → Shared → Prop} {env : Env} {mg mb : Str → Option Value}
theorem TSet.mono {c b : Nat} {o : Obj} (h : TSet prog w S c b o) (hs : ∀ a o, S a o → S' a o) : TSet prog w S' c b o :=
  let ⟨led, es, ep, e, h2⟩ := h
  ⟨led, es, ep, e, h2.mono fun _ _ ⟨x, a, y, z⟩ => ⟨x, a, y, z.mono hs⟩⟩
theorem All2.take {α β : Type} {R : α → β → Prop} {as : List α} {bs : List β} (h : All2 R as bs) : ∀ k, All2 R (as.take k) (bs.take k) := by
  induction h with
  | nil => intro k; simp only [List.take_nil]; exact .nil
  | cons h1 _ ih =>
    intro k
    cases k with
    | zero => exact .nil
    | succ k => exact .cons h1 (ih k)
theorem All2.drop {α β : Type} {R : α → β → Prop} {as : List α} {bs : List β} (h : All2 R as bs) : ∀ k, All2 R (as.drop k) (bs.drop k) := by
  induction h with
  | nil => intro k; simp only [List.drop_nil]; exact .nil
  | cons h1 h2 ih =>
    intro k
    cases k with
    | zero => exact .cons h1 h2
    | succ k => exact ih k
theorem All2.append {α β : Type} {R : α → β → Prop} {as as' : List α} {bs bs' : List β} (h : All2 R as bs) (h' : All2 R as' bs') : All2 R (as ++ as') (bs ++ bs') := by
  induction h with
  | nil => exact h'
  | cons h1 _ ih => exact .cons h1 ih
theorem All2.mem {α β : Type} {R : α → β → Prop} {as : List α} {bs : List β} (h : All2 R as bs) {a : α} (ha : a ∈ as) : ∃ b ∈ bs, R a b := by
  induction h with
  | nil => cases ha
  | cons h1 _ ih =>
    rcases List.mem_cons.mp ha with rfl | ha
    · refine xi1_2 _ (.head _) h1
    · refine xa1_2 (ih ha) fun b hb r => ?_
      refine xi1_2 b (.tail _ hb) r
theorem All2.at {α β : Type} {R : α → β → Prop} {as : List α} {bs : List β} (h : All2 R as bs) (k : Nat) : (as[k]? = none ∧ bs[k]? = none) ∨ ∃ a b, as[k]? = some a ∧ bs[k]? = some b ∧ R a b := by
  induction h generalizing k with
  | nil => exact .inl ⟨rfl, rfl⟩
  | @cons a b as bs h1 _ ih =>
    cases k with
    | zero => exact .inr ⟨a, b, rfl, rfl, h1⟩
    | succ k => exact ih k
theorem TSet.fresh (c : Nat) (led : Bool) : TSet prog w S c 0 (freshSet led) := by
  refine xi3_2 led (#[]) 0 ?_ ?_
  · have : TT c 0 led = SetTable.fresh 0 0 led := by
      unfold TT stp
      have : (pls c).filter (fun p => Nat.testBit 0 p.2) = [] := by simp
      rw [this]; rfl
    rw [this]
  · have : stp c 0 = [] := by unfold stp; simp
    rw [this]; exact .nil
theorem hashAt_none {c b k : Nat} (h : (stp c b)[k]? = none) : hashAt c b k = 0 := by
  unfold hashAt
  rw [h, Option.map_none, Option.getD_none]
theorem hashAt_some {c b k : Nat} {p : Nat × Nat} (h : (stp c b)[k]? = some p) : hashAt c b k = HN c p.2 := by
  unfold hashAt
  rw [h, Option.map_some, Option.getD_some]
theorem hashAt_of {es : Array (Int × Value)} {c b : Nat} {P : Int × Value → Nat × Nat → Prop} (hA : All2 (fun (e : Int × Value) (p : Nat × Nat) => e.1 = HN c p.2 ∧ P e p) es.toList (stp c b)) (k : Nat) : (es[k]?.map (·.1)).getD 0 = hashAt c b k := by
  have e0 : es[k]? = es.toList[k]? := by simp
  rcases hA.at k with ⟨h1, h2⟩ | ⟨e, p, h1, h2, h3, _⟩
  · rw [hashAt_none h2, e0, h1, Option.map_none, Option.getD_none]
  · rw [hashAt_some h2, e0, h1, Option.map_some, Option.getD_some, h3]
theorem hash_pair (c i : Nat) : (KT prog w).hash [(c : Int), (i : Int)] = HN c i := rfl

theorem r_hbv {a : Addr} {k1 k2 : Int} {o : Obj} {Q : Bool → Shared → Prop} (ho : s.heap.get? a = some o) (hT : TupO prog w [k1, k2] o) (h : Q true s) : wpAny (model prog w) A (hashByValue 8 (.ref a)) Q E s := by
  refine xa3_2 (hT.pair) fun ta tb n hc hd => ?_
  unfold hashByValue
  refine wpAny_bind (wpAny_specialOf ⟨o, ho, hc⟩ PySem.F.slot_tuple_hash.lookup ?_)
  walk_at "q"
  dsimp only
  refine wpAny_bind (wpAny_seqItems ho hd ?_)
  walk_at "q"
  refine wpAny_bind ?_
  walk_at "q"
  rw [Option.getD_some, ← Array.forIn_toList]
  refine wpAny_forIn_list _ (fun rest b s' => s' = s ∧ b = (none, ()) ∧ ∀ v ∈ rest, ∃ k t, v = Value.int k t) _ ?_ ?_ _ _ ⟨rfl, rfl, ?_⟩
  · intro x rest b s' hp1
    refine xa0_3 (hp1) fun he2 he3 hr => ?_
    obtain rfl := he2
    obtain rfl := he3
    refine xa2_1 (hr x (.head _)) fun k t he4 => ?_
    obtain rfl := he4
    rw [hashByValue_scannable 7 (x := .int k t) rfl]
    refine wpAny_bind (wpAny_pure ?_)
    walk_at "q"
    simp only [plainKind, Bool.not_true, Bool.false_eq_true, if_false]
    refine wpAny_pure ?_
    refine xi0_3 rfl rfl (fun v hv => hr v (.tail _ hv))
  · intro b s' hp5
    refine xa0_3 (hp5) fun he6 he7 _ => ?_
    obtain rfl := he6
    obtain rfl := he7
    exact wpAny_pure h
  · refine al2 ?_ ?_
    · refine xi2_1 _ _ rfl
    · refine xi2_1 _ _ rfl
theorem r_oac {a : Addr} {k1 k2 : Int} {o : Obj} {Q : Bool → Shared → Prop} (ho : s.heap.get? a = some o) (hT : TupO prog w [k1, k2] o) (h : Q false s) : wpAny (model prog w) A (ofAClassStatement 8 (.ref a)) Q E s := by
  refine xa3_2 (hT.pair) fun ta tb n hc hd => ?_
  unfold ofAClassStatement
  refine wpAny_bind (wpAny_typeOf ⟨o, ho, hc⟩ ?_)
  walk_at "q"
  dsimp only
  first | refine wifT rfl ?_ | refine wifT (by decide) ?_ | refine ifT (by decide) ?_ | rw [if_pos (by decide)]
  refine wpAny_bind (wpAny_pure ?_)
  walk_at "q"
  first | refine wifFb rfl ?_ | refine ifFb rfl ?_ | simp only [Bool.not_true, Bool.false_eq_true, if_false]
  refine wpAny_bind (wpAny_seqItems ho hd ?_)
  walk_at "q"
  dsimp only
  refine wpAny_bind ?_
  walk_at "q"
  rw [← Array.forIn_toList]
  refine wpAny_forIn_list _ (fun rest b s' => s' = s ∧ b = (none, ()) ∧ ∀ v ∈ rest, ∃ k t, v = Value.int k t) _ ?_ ?_ _ _ ⟨rfl, rfl, ?_⟩
  · intro x rest b s' hp8
    refine xa0_3 (hp8) fun he9 he10 hr => ?_
    obtain rfl := he9
    obtain rfl := he10
    refine xa2_1 (hr x (.head _)) fun k t he11 => ?_
    obtain rfl := he11
    have e : ofAClassStatement 7 (.int k t) = pure false := rfl
    rw [e]
    refine wpAny_bind (wpAny_pure ?_)
    walk_at "q"
    first | refine wifFb rfl ?_ | refine ifFb rfl ?_ | simp only [Bool.false_eq_true, if_false]
    refine wpAny_pure ?_
    refine xi0_3 rfl rfl (fun v hv => hr v (.tail _ hv))
  · intro b s' hp12
    refine xa0_3 (hp12) fun he13 he14 _ => ?_
    obtain rfl := he13
    obtain rfl := he14
    exact wpAny_pure h
  · refine al2 ?_ ?_
    · refine xi2_1 _ _ rfl
    · refine xi2_1 _ _ rfl
theorem r_unseen {a : Addr} {k1 k2 : Int} {stored : List Value} {Q : Bool → Shared → Prop} (I : FIn gB O L m S tr s) (ha : TupS prog w S a [k1, k2]) (hs : ∀ v ∈ stored, ∃ b k1 k2, v = .ref b ∧ TupS prog w S b [k1, k2]) (h : Q false s) :
    wpAny (model prog w) A (searchCouldBeSeen (.ref a) stored) Q E s := by
  unfold searchCouldBeSeen
  refine wpAny_bind (wpAny_forIn_list _ (fun rest b s' => s' = s ∧ b = (none, ()) ∧ ∀ v ∈ rest, ∃ b k1 k2, v = Value.ref b ∧ TupS prog w S b [k1, k2]) _ ?_ ?_ _ _ ⟨rfl, rfl, hs⟩)
  · intro x rest b s' hp15
    refine xa0_3 (hp15) fun he16 he17 hr => ?_
    obtain rfl := he16
    obtain rfl := he17
    refine xa3_2 (hr x (.head _)) fun b k1' k2' he18 hb => ?_
    obtain rfl := he18
    dsimp only
    split
    · refine wpAny_pure ?_
      refine xi0_3 rfl rfl (fun v hv => hr v (.tail _ hv))
    · refine wpAny_bind ((KT prog w).quiet (I.tup ha) ?_)
      walk_at "q"
      first | refine wifFb rfl ?_ | refine ifFb rfl ?_ | simp only [Bool.not_true, Bool.false_eq_true, if_false]
      refine wpAny_bind ((KT prog w).quiet (I.tup hb) ?_)
      walk_at "q"
      first | refine wifFb rfl ?_ | refine ifFb rfl ?_ | simp only [Bool.not_true, Bool.false_eq_true, if_false]
      refine xa1_2 (ha) fun o ho hT => ?_
      refine xa1_2 (hb) fun o' ho' hT' => ?_
      refine wpAny_bind (r_oac (I.get ho) hT ?_)
      walk_at "q"
      first | refine wifFb rfl ?_ | refine ifFb rfl ?_ | simp only [Bool.false_eq_true, if_false]
      refine wpAny_bind (r_oac (I.get ho') hT' ?_)
      walk_at "q"
      first | refine wifFb rfl ?_ | refine ifFb rfl ?_ | simp only [Bool.false_eq_true, if_false]
      refine wpAny_pure ?_
      refine xi0_3 rfl rfl (fun v hv => hr v (.tail _ hv))
  · intro b s' hp19
    refine xa0_3 (hp19) fun he20 he21 _ => ?_
    obtain rfl := he20
    obtain rfl := he21
    exact wpAny_pure h

theorem r_tadd {S₁ : Addr → Obj → Prop} {q a : Addr} {i c b x : Nat} {o : Obj} {Q : Bool → Shared → Prop} (I : FIn gB O L m S tr s) (hS : ∀ a o, S₁ a o → S a o) (hu : A.units + 3 < cLine) (hi : tr[i]? = some (q, o)) (hO : TSet prog w S₁ c b o) (hc : c < 2) (hb : b < 16) (hx : x < 4) (ha : TupS prog w S₁ a [(c : Int), (x : Int)])
    (h : ∀ s' o' r, FIn gB O L m S (tr.set i (q, o')) s' → TSet prog w S₁ c (b ||| (1 <<< x)) o' → Q r s') : wpAny (model prog w) A (setAdd q (.ref a)) Q E s := by
  refine xa3_2 (hO) fun led es ep he22 hA => ?_
  obtain rfl := he22
  have hlen : es.size = (stp c b).length := by have := hA.length; simpa using this
  have hfit : (TT c b led).fits es.size = true := by rw [hlen]; exact tt_fits c hc b hb led
  unfold setAdd
  refine wpAny_holding (wpAny_bind ((KT prog w).pyHash (k := [(c : Int), (x : Int)]) (by show A.units < cLine; exact oV ‹_›) (I.tup (ha.mono hS)) ?_))
  walk_at "q"
  rw [hash_pair]
  replace I := I.toks (s.toks + (KT prog w).draws [(c : Int), (x : Int)])
  generalize ({ s with toks := s.toks + (KT prog w).draws [(c : Int), (x : Int)] } : Shared) = s₁ at I ⊢
  have hq := I.at hi
  unfold setAddHashed setAddHashedIn
  refine wpAny_holding (wpAny_bind (wpAny_setState_of hq rfl hfit ?_))
  walk_at "q"
  dsimp only
  first | refine wifF (by simp [byScan, Value.scannable]) ?_ | refine ifF (by simp [byScan, Value.scannable]) ?_ | rw [if_neg (by simp [byScan, Value.scannable])]
  refine wpAny_bind ?_
  walk_at "q"
  unfold setSearch
  refine wpAny_bind (wpAny_setState_of hq rfl hfit ?_)
  walk_at "q"
  dsimp only
  first | refine wifF (show ¬ ((TT c b led).gaveWay = true) from (by show ¬ ((7 % 2 == 0) = true); decide)) ?_ | refine ifF (show ¬ ((TT c b led).gaveWay = true) from (by show ¬ ((7 % 2 == 0) = true); decide)) ?_ | rw [if_neg (show ¬ ((TT c b led).gaveWay = true) from (by show ¬ ((7 % 2 == 0) = true); decide))]
  have hH : (fun i => (es[i]?.map (·.1)).getD 0) = hashAt c b := funext (hashAt_of (P := fun e p => ∃ a, e.2 = .ref a ∧ TupS prog w S₁ a [(c : Int), (p.2 : Int)]) hA)
  have hk := chk_all c hc b hb x hx led
  unfold chk at hk
  rw [← hH] at hk
  split
  · rename_i met hmet
    have hmet : (TT c b led).probe (fun i => (es[i]?.map (·.1)).getD 0) (HN c x) ((TT c b led).probeStart (HN c x)) = some met := hmet
    rw [hmet] at hk
    cases met with
    | empty j dummy =>
      cases dummy with
      | some _ => exact absurd hk (by simp)
      | none =>
        dsimp only at hk ⊢
        simp only [Bool.and_eq_true, decide_eq_true_eq, Bool.not_eq_true'] at hk
        refine xa0_2 (hk) fun hp23 k4 => ?_
        refine xa0_2 (hp23) fun hp24 k3 => ?_
        refine xa0_2 (hp24) fun k1 k2 => ?_
        refine wpAny_pure ?_
        walk_at "q"
        dsimp only
        refine wpAny_bind (wpAny_setState_of hq rfl hfit ?_)
        walk_at "q"
        dsimp only
        generalize hput : (TT c b led).put j = tp at k2 k3 ⊢
        obtain ⟨t', p'⟩ := tp
        dsimp only at k2 k3 ⊢
        subst k2
        have hb' := bit_lt b hb x hx
        refine xa1_2 (ha) fun oa hoa1 hoa2 => ?_
        refine wpAny_bind ?_
        walk_at "q"
        refine r_hbv (I.get (hS _ _ hoa1)) hoa2 ?_
        walk_at "q"
        first | refine wifTb rfl ?_ | refine ifTb rfl ?_ | simp only [if_true]
        have hsz : (SetTable.insertAt es p' (HN c x, Value.ref a)).size = es.size + 1 := by
          have := (SetTable.insertAt_perm es p' (HN c x, Value.ref a)).length_eq
          rw [Array.length_toList, Array.length_toList, Array.size_push] at this
          exact this
        have hles : (stp c b).length ≤ 4 := by
          have h1 : (stp c b).length ≤ (pls c).length := List.length_filter_le _ _
          have h2 : (pls c).length = 4 := by unfold pls; split <;> rfl
          exact oR' ‹_› ‹_›
        refine wpAny_bind (wpAny_storeSet_of hq rfl ?_ (by rw [hsz, sizeLine_eq]; omega))
        first | refine wifF (by rw [k4]; decide) ?_ | refine ifF (by rw [k4]; decide) ?_ | rw [if_neg (by rw [k4]; decide)]
        refine wpAny_pure ?_
        walk_at "q"
        have hg := Heap.get?_update_self (h := s₁.heap) (a := q) (Obj.putSet (SetTable.insertAt es p' (HN c x, Value.ref a)) (TT c (b ||| (1 <<< x)) led)) hq rfl
        refine h _ _ true (I.turn (tk := s₁.toks) hi (Heap.SameBut.update ..) hg) ⟨led, _, ep + 1, rfl, ?_⟩
        rw [SetTable.toList_insertAt, k3]
        exact (hA.take p').append (.cons ⟨rfl, a, rfl, oa, hoa1, hoa2⟩ (hA.drop p'))
    | candidate j k nx =>
      dsimp only at hk ⊢
      simp only [Bool.and_eq_true, decide_eq_true_eq] at hk
      refine xa0_2 (hk) fun hp25 k3 => ?_
      refine xa0_2 (hp25) fun k1 k2 => ?_
      have hst : ∀ v ∈ (es.filter (·.1 == HN c x)).toList.map (·.2), ∃ b k1 k2, v = Value.ref b ∧ TupS prog w S b [k1, k2] := by
        intro v hv
        refine xa1_2 (List.mem_map.mp hv) fun e he he26 => ?_
        obtain rfl := he26
        rw [Array.toList_filter] at he
        obtain ⟨p, _, _, a', ha', hta'⟩ := hA.mem (List.mem_filter.mp he).1
        refine xi3_2 a' _ _ ha' (hta'.mono hS)
      refine xa1_2 (Option.map_eq_some_iff.mp k2) fun p hp hpx => ?_
      rcases hA.at k with ⟨_, h2⟩ | ⟨e, p', h1, h2, h3, a', ha', hta'⟩
      · rw [h2] at hp; cases hp
      rw [h2] at hp
      cases hp
      rw [hpx] at hta'
      have hek : es[k]? = some (e.1, .ref a') := by
        have : es[k]? = es.toList[k]? := by simp
        rw [this, h1, ← ha']
      have hsame : tr.set i (q, { cls := .type "set", dict := none, data := .set es ep (TT c b led) }) = tr := PySem.W.X.set_same hi
      have done : Q false s₁ := h s₁ { cls := .type "set", dict := none, data := .set es ep (TT c b led) } false (by rw [hsame]; exact I) (by rw [k3]; exact ⟨led, es, ep, rfl, hA⟩)
      split
      · refine wpAny_bind (r_unseen I (ha.mono hS) hst ?_)
        walk_at "q"
        first | refine wifF Bool.false_ne_true ?_ | refine wifF (by decide) ?_ | refine ifF (by decide) ?_ | rw [if_neg (by decide)]
        rw [hek]
        dsimp only
        refine wpAny_bind (wpAny_holding ((KT prog w).eqBool (x := [(c : Int), (x : Int)]) (y := [(c : Int), (x : Int)]) (by show A.units < cLine; exact oV ‹_›) (I.tup (hta'.mono hS)) (I.tup (ha.mono hS)) ?_))
        walk_at "q"
        refine wpAny_bind (wpAny_setState_of hq rfl hfit ?_)
        walk_at "q"
        dsimp only
        first | refine wifT rfl ?_ | refine wifT (by simp) ?_ | refine ifT (by simp) ?_ | rw [if_pos (by simp)]
        exact wpAny_pure (wpAny_pure done)
      · rw [hek]
        dsimp only
        refine wpAny_bind (wpAny_holding ((KT prog w).eqBool (x := [(c : Int), (x : Int)]) (y := [(c : Int), (x : Int)]) (by show A.units < cLine; exact oV ‹_›) (I.tup (hta'.mono hS)) (I.tup (ha.mono hS)) ?_))
        walk_at "q"
        refine wpAny_bind (wpAny_setState_of hq rfl hfit ?_)
        walk_at "q"
        dsimp only
        first | refine wifT rfl ?_ | refine wifT (by simp) ?_ | refine ifT (by simp) ?_ | rw [if_pos (by simp)]
        exact wpAny_pure (wpAny_pure done)
  · rename_i hmet
    exfalso
    have hmet : ∀ met, (TT c b led).probe (fun i => (es[i]?.map (·.1)).getD 0) (HN c x) ((TT c b led).probeStart (HN c x)) = some met → False := hmet
    cases hp : (TT c b led).probe (fun i => (es[i]?.map (·.1)).getD 0) (HN c x) ((TT c b led).probeStart (HN c x)) with
    | none => rw [hp] at hk; cases hk
    | some met => exact hmet met hp
end
end Mine
end
section
open PySem PySem.W PySem.Calls PyProof.Rows
open Sem (wp)
namespace Mine
inductive PosS (prog : Program) (w : World) (S : Addr → Obj → Prop) : List (List Int × Addr × Value) → List (Addr × Obj) → Prop
  | nil : PosS prog w S [] []
  | cons {c b : Nat} {y : Int} {a l : Addr} {o : Obj} {xs ls} : c < 2 → b < 16 → TSet prog w S c b o → PosS prog w S xs ls → PosS prog w S (([1 - (c : Int), y], a, .ref l) :: xs) ((l, o) :: ls)
section
variable {prog : Program} {w : World} {gB : Heap} {O O' : Og} {L : Addr} {m : Str → Option Value} {S S' : Addr → Obj → Prop} {tr tr' : List (Addr × Obj)} {s : Shared} {A : Around} {E : Value → Shared → Prop} {env : Env} {mg mb : Str → Option Value}
variable {xs : List (List Int × Addr × Value)} {ls : List (Addr × Obj)}
theorem PosS.mono (h : PosS prog w S xs ls) (hs : ∀ a o, S a o → S' a o) : PosS prog w S' xs ls := by
  induction h with
  | nil => exact .nil
  | cons h1 h2 h3 _ ih => exact .cons h1 h2 (h3.mono hs) ih
theorem PosS.snoc (h : PosS prog w S xs ls) {c b : Nat} {y : Int} {a l : Addr} {o : Obj} (h1 : c < 2) (h2 : b < 16) (h3 : TSet prog w S c b o) : PosS prog w S (xs ++ [([1 - (c : Int), y], a, .ref l)]) (ls ++ [(l, o)]) := by
  induction h with
  | nil => exact .cons h1 h2 h3 .nil
  | cons g1 g2 g3 _ ih => exact .cons g1 g2 g3 ih
theorem PosS.at (h : PosS prog w S xs ls) {c : Nat} {y : Int} {a : Addr} {v : Value} (hc : c < 2) (hg : atKey xs [1 - (c : Int), y] = some (a, v)) : ∃ i l o b, v = .ref l ∧ ls[i]? = some (l, o) ∧ b < 16 ∧ TSet prog w S c b o ∧
    ∀ (S₂ : Addr → Obj → Prop) o' b', (∀ a o, S a o → S₂ a o) → b' < 16 → TSet prog w S₂ c b' o' → PosS prog w S₂ xs (ls.set i (l, o')) := by
  induction h with
  | nil => cases hg
  | @cons c' b y' a' l o xs ls h1 h2 h3 h4 ih =>
    by_cases e : [1 - (c' : Int), y'] = [1 - (c : Int), y]
    · have e1 : c' = c := by
        have : (1 - (c' : Int)) = 1 - (c : Int) := by injection e
        omega
      subst e1
      have : (a', Value.ref l) = (a, v) := by simpa [atKey, e] using hg
      cases this
      refine xi4_5 0 l o b rfl rfl h2 h3 (fun S₂ o' b' hs hb' ho' => .cons h1 hb' ho' (h4.mono hs))
    · have hg' : atKey xs [1 - (c : Int), y] = some (a, v) := by
        unfold atKey at hg ⊢
        rw [List.find?_cons_of_neg (by simpa using e)] at hg
        exact hg
      refine xa4_5 (ih hg') fun i l' o' b' q1 q2 q3 q4 q5 => ?_
      refine xi4_5 (i + 1) l' o' b' q1 (by simpa using q2) q3 q4 (fun S₂ o₂ b₂ hs g1 g2 => .cons h1 h2 (h3.mono hs) (q5 S₂ o₂ b₂ hs g1 g2))
theorem PosS.len (h : PosS prog w S xs ls) : xs.length = ls.length := by
  induction h with
  | nil => rfl
  | cons _ _ _ _ ih => simp [ih]

theorem FIn.sub (I : FIn gB O L m S tr s) (h : tr'.Sublist tr) : FIn gB O L m S tr' s where
  wd := I.wd
  ns := I.ns
  lL := I.lL
  st := fun a o q => let ⟨a1, a2, a3, a4⟩ := I.st a o q; ⟨a1, a2, a3, fun e => a4 ((h.map (·.1)).subset e)⟩
  tk := fun p hp => I.tk p (h.subset hp)
  nd := I.nd.sublist (h.map (·.1))
  bare := I.bare
  os := I.os

theorem r_newset {Q : Value → Shared → Prop} (I : FIn gB O L m S tr s) (h : ∀ a s' led, a = s.heap.objs.size → FIn gB O L m S ((a, freshSet led) :: tr) s' → Q (.ref a) s') : wpAny (model prog w) A (call (.type "set") []) Q E s :=
  call_set_0 fun led => h _ _ led rfl (I.push _ s.toks)

theorem r_setdef {S₁ : Addr → Obj → Prop} {gr t q : Addr} {c : Nat} {y : Int} {led : Bool} {pre : List (Addr × Obj)} {ogr : Obj} {Q : Value → Shared → Prop} (I : FIn gB O L m S ((q, freshSet led) :: (pre ++ (gr, ogr) :: ls)) s) (hS : ∀ a o, S₁ a o → S a o) (hu : A.units + 1 < cLine) (hD : DicO prog w S₁ ogr xs) (hP : PosS prog w S₁ xs ls) (hc : c < 2) (ht : TupS prog w S₁ t [1 - (c : Int), y]) (hz : xs.length ≤ 1000)
    (h : ∀ l s' ogr' xs' ls' i o b, FIn gB O L m S (pre ++ (gr, ogr') :: ls') s' → DicO prog w S₁ ogr' xs' → xs'.length ≤ xs.length + 1 → (∀ p ∈ ls', p.1 ∈ ls.map (·.1) ∨ p.1 = q) → ls'[i]? = some (l, o) → b < 16 → TSet prog w S₁ c b o → (∀ (S₂ : Addr → Obj → Prop) o' b', (∀ a o, S₁ a o → S₂ a o) → b' < 16 → TSet prog w S₂ c b' o' → PosS prog w S₂ xs' (ls'.set i (l, o'))) → Q (.ref l) s') :
    wpAny (model prog w) A (call (.builtin "dict.setdefault") [.ref gr, .ref t, .ref q]) Q E s := by
  have hi : ((q, freshSet led) :: (pre ++ (gr, ogr) :: ls))[pre.length + 1]? = some (gr, ogr) := by simp
  have hg := I.at hi
  have hm := I.dic hg (hD.mono fun _ _ o => hS _ o)
  have hT : s.TypeIs (.ref gr) "dict" := ⟨ogr, hg, hD.1.1⟩
  refine wpAny_call_entry PySem.F.slot_dict_setdefault hT PySem.F.entry_dict_setdefault ?_ (PySem.F.args_dict_setdefault_3 _ _ _)
  unfold Builtin.«dict.setdefault»
  refine wpAny_bind ?_
  walk_at "q"
  unfold Builtin.Dict.keyAndDefault
  refine wpAny_bind (wpAny_notOrdered_dict hT ?_)
  walk_at "q"
  show wpAny _ _ (pure (gr, Value.ref t, some (Value.ref q))) _ _ s
  refine wpAny_pure ?_
  walk_at "q"
  show wpAny _ _ (if (gr == sysModules) = true then _ else (dictSetDefault gr (.ref t) (.ref q) >>= _)) _ _ s
  first | refine wifF (by rw [I.wd.notMod (I.new hi)]; exact Bool.false_ne_true) ?_ | refine ifF (by rw [I.wd.notMod (I.new hi)]; exact Bool.false_ne_true) ?_ | rw [if_neg (by rw [I.wd.notMod (I.new hi)]; exact Bool.false_ne_true)]
  refine wpAny_bind ?_
  walk_at "q"
  refine xa3_6 (id hm) fun o es ep ho hE hd he his hn => ?_
  unfold dictSetDefault
  try with_reducible refine wpAny_holding ?_
  refine wpAny_bind ((KT prog w).pyHash (k := [1 - (c : Int), y]) (by show A.units + 1 < cLine; assumption) (I.tup (ht.mono hS)) ?_)
  walk_at "q"
  replace I := I.toks (s.toks + (KT prog w).draws [1 - (c : Int), y])
  generalize hs₁ : ({ s with toks := s.toks + (KT prog w).draws [1 - (c : Int), y] } : Shared) = s₁ at I ⊢
  have hh : s₁.heap = s.heap := by rw [← hs₁]
  refine wpAny_bind (wpAny_dictFind_heap (by show A.units + 1 < cLine; assumption) (I.tup (ht.mono hS)) (hh ▸ ho) hd he (fun x hx => hh ▸ his x hx) hn ?_ ?_)
  · intro hno
    have hnot : [1 - (c : Int), y] ∉ xs.map (·.1) := not_mem_keys_of_get hno
    refine wpAny_bind (wpAny_rule (wpAny_bind (wpAny_updateDictKeys (hz := by have e := size_of_entries he; rw [sizeLine_eq]; exact oE ‹_› ‹_› (by exact rfl)) (hh ▸ ho) hd (wpAny_pure (wpAny_pure ⟨_, rfl, ?_⟩)))))
    obtain rfl : o = ogr := by rw [hg] at ho; exact (Option.some.inj ho).symm
    have hg₁ : s₁.heap.get? gr = some o := hh ▸ hg
    have hup := Heap.get?_update_self (h := s₁.heap) (a := gr) (Obj.mapDictKeys fun es => es.push ⟨(KT prog w).hash [1 - (c : Int), y], .ref t, .ref q⟩) hg₁ (Obj.isFreed_of_dict (Obj.data_mapDictKeys hd _))
    have I' := I.turn (tk := s₁.toks) hi (Heap.SameBut.update s₁.heap gr (Obj.mapDictKeys fun es => es.push ⟨(KT prog w).hash [1 - (c : Int), y], .ref t, .ref q⟩)) hup
    have hset : ((q, freshSet led) :: (pre ++ (gr, o) :: ls)).set (pre.length + 1) (gr, Obj.mapDictKeys (fun es => es.push ⟨(KT prog w).hash [1 - (c : Int), y], .ref t, .ref q⟩) o) = (q, freshSet led) :: (pre ++ (gr, Obj.mapDictKeys (fun es => es.push ⟨(KT prog w).hash [1 - (c : Int), y], .ref t, .ref q⟩) o) :: ls) := by
      simp
    rw [hset] at I'
    have hperm : List.Perm ((q, freshSet led) :: (pre ++ (gr, Obj.mapDictKeys (fun es => es.push ⟨(KT prog w).hash [1 - (c : Int), y], .ref t, .ref q⟩) o) :: ls)) (pre ++ (gr, Obj.mapDictKeys (fun es => es.push ⟨(KT prog w).hash [1 - (c : Int), y], .ref t, .ref q⟩) o) :: (ls ++ [(q, freshSet led)])) := by
      have := (List.perm_append_singleton (q, freshSet led) (pre ++ (gr, Obj.mapDictKeys (fun es => es.push ⟨(KT prog w).hash [1 - (c : Int), y], .ref t, .ref q⟩) o) :: ls)).symm
      simpa using this
    obtain ⟨hc1, es1, ep1, hd1, he1, ht1, hn1⟩ := hD
    refine h q _ _ (xs ++ [([1 - (c : Int), y], t, .ref q)]) (ls ++ [(q, freshSet led)]) ls.length (freshSet led) 0 (I'.perm hperm) ⟨hE.mapDictKeys _, _, _, Obj.data_mapDictKeys hd _, ?_, ?_, ?_⟩ (by simp) (fun p hp => by
      rcases List.mem_append.mp hp with hp | hp
      · exact .inl (List.mem_map_of_mem hp)
      · simp only [List.mem_singleton] at hp; exact .inr (by rw [hp])) (by simp) (by decide) (TSet.fresh c led) (fun S₂ o' b' hs hb' ho' => ?_)
    · rw [Array.toList_push, he, List.map_append]; rfl
    · intro x hx
      rcases List.mem_append.mp hx with hx | hx
      · exact ht1 x hx
      · simp only [List.mem_singleton] at hx; subst hx; exact ht
    · rw [List.map_append, List.nodup_append]
      refine xi0_3 hn (by simp) (fun a ha b hb => ?_)
      simp only [List.map_cons, List.map_nil, List.mem_singleton] at hb
      subst hb
      exact fun e => hnot (e ▸ ha)
    · have : (ls ++ [(q, freshSet led)]).set ls.length (q, o') = ls ++ [(q, o')] := by simp
      rw [this]
      exact (hP.mono hs).snoc hc hb' ho'
  · intro j p hj
    have hat := atKey_of_get hn hj
    refine xa4_5 (hP.at hc hat) fun i l os b e1 e2 e3 e4 e5 => ?_
    refine wpAny_bind (wpAny_dictEntries (hh ▸ ho) hd ?_)
    walk_at "q"
    rw [entry_at he j, hj]
    refine wpAny_bind (wpAny_rule (wpAny_pure (wpAny_pure ?_)))
    refine xi1_2 _ rfl ?_
    show Q p.2 s₁
    rw [e1]
    exact h l s₁ ogr xs ls i os b (I.sub (List.sublist_cons_self ..)) hD (by omega) (fun p hp => .inl (List.mem_map_of_mem hp)) e2 e3 e4 e5
end
end Mine
end
section
open PySem PySem.W PySem.Calls PyProof.Rows
open Sem (wp)
namespace Mine
section
variable {prog : Program} {w : World} {gB : Heap} {O O' : Og} {L : Addr} {m : Str → Option Value} {S S' : Addr → Obj → Prop} {tr tr' : List (Addr × Obj)} {s : Shared} {A : Around} {E : Value → Shared → Prop} {env : Env} {mg mb : Str → Option Value}

theorem r_addI {a : Addr} {i : Nat} {k : Int} {t : Tok} {o : Obj} {K : Int → Bool} {n : Nat} {Q : Value → Shared → Prop} (I : FIn gB O L m S tr s) (hi : tr[i]? = some (a, o)) (hO : SetO prog w o K n) (hn : n ≤ 1000)
    (h : ∀ s' o' n', n' ≤ n + 1 → FIn gB O L m S (tr.set i (a, o')) s' → SetO prog w o' (fun k' => K k' || decide (k' = k)) n' → Q .none s') :
    wpAny (model prog w) A (call (.builtin "set.add") [.ref a, .int k t]) Q E s := by
  have hT : s.TypeIs (.ref a) "set" := ⟨o, I.at hi, hO.cls⟩
  refine wpAny_call_entry PySem.F.slot_set_add hT PySem.F.entry_set_add ?_ (PySem.F.args_set_add_2 _ _)
  unfold Builtin.«set.add» Builtin.Frozenset.oneOther
  show wpAny _ _ (setAdd a (.int k t) >>= _) _ _ _
  exact wpAny_bind (r_setAdd I hi hO hn fun s' o' b n' hn' I' hO' => wpAny_pure ⟨_, rfl, h s' o' n' hn' I' hO'⟩)
theorem r_addP {S₁ : Addr → Obj → Prop} {q a : Addr} {i c b x : Nat} {o : Obj} {Q : Value → Shared → Prop} (I : FIn gB O L m S tr s) (hS : ∀ a o, S₁ a o → S a o) (hu : A.units + 4 < cLine) (hi : tr[i]? = some (q, o)) (hO : TSet prog w S₁ c b o) (hc : c < 2) (hb : b < 16) (hx : x < 4) (ha : TupS prog w S₁ a [(c : Int), (x : Int)])
    (h : ∀ s' o', FIn gB O L m S (tr.set i (q, o')) s' → TSet prog w S₁ c (b ||| (1 <<< x)) o' → Q .none s') : wpAny (model prog w) A (call (.builtin "set.add") [.ref q, .ref a]) Q E s := by
  have hT : s.TypeIs (.ref q) "set" := ⟨o, I.at hi, by obtain ⟨_, _, _, rfl, _⟩ := hO; rfl⟩
  refine wpAny_call_entry PySem.F.slot_set_add hT PySem.F.entry_set_add ?_ (PySem.F.args_set_add_2 _ _)
  unfold Builtin.«set.add» Builtin.Frozenset.oneOther
  show wpAny _ _ (setAdd q (.ref a) >>= _) _ _ _
  exact wpAny_bind (r_tadd I hS (by show A.units + 1 + 3 < cLine; assumption) hi hO hc hb hx ha fun s' o' r I' hO' => wpAny_pure ⟨_, rfl, h s' o' I' hO'⟩)

end
end Mine
end
section
open PySem PySem.W PySem.Calls PyProof.Rows
open Sem (wp)
namespace Mine
structure GObs (prog : Program) (w : World) (gB : Heap) (S : Addr → Obj → Prop) (H : GA) (Ed : List (Int × Int)) (oe ol or' og : Obj) (ls : List (Addr × Obj)) : Prop where
  ed : EdD prog w S oe Ed
  lf : ∃ K n, SetO prog w ol K n ∧ n ≤ Ed.length
  rt : ∃ K n, SetO prog w or' K n ∧ n ≤ Ed.length
  gr : ∃ xs, DicO prog w S og xs ∧ PosS prog w S xs ls ∧ xs.length ≤ 2 * Ed.length
section
variable {prog : Program} {w : World} {S : Addr → Obj → Prop} {gB : Heap} {mg mb : Str → Option Value}
noncomputable abbrev gtr (H : GA) (oe ol or' og : Obj) (ls : List (Addr × Obj)) : List (Addr × Obj) := (H.ed, oe) :: (H.lf, ol) :: (H.rt, or') :: (H.gr, og) :: ls

theorem set_spec (B : Base w.params mg mb gB) {H : GA} {es : List DictEntry} {nn : Nat} {Ed : List (Int × Int)} {oe ol or' ogr : Obj} {ls : List (Addr × Obj)} (hx : ∃ sl, S H.x ⟨.ref 199, some H.dx, .plain, sl⟩) (hdx : S H.dx (dictOf es nn)) (hf : FldO es H.flds)
    (hG : GObs prog w gB S H Ed oe ol or' ogr ls) (hn : ((gtr H oe ol or' ogr ls).map (·.1)).Nodup) (zE : Ed.length ≤ 12) {t : Addr} {l r : Nat} (ht : TupS prog w S t [(l : Int), (r : Int)]) (hl : l < 4) (hr : r < 4) (hnew : ((l : Int), (r : Int)) ∉ Ed)
    {A : Around} {s : Shared} {Q : Value → Shared → Prop} {E : Value → Shared → Prop} (R : Room A 10 60) (W : Pre gB s) (hS : ∀ a o, S a o → s.heap.get? a = some o ∧ a ∉ tabP ∧ a ∉ (gtr H oe ol or' ogr ls).map (·.1)) (hfoot : ∀ p ∈ gtr H oe ol or' ogr ls, s.heap.get? p.1 = some p.2 ∧ gB.objs.size ≤ p.1)
    (hQ : ∀ s' S' oe' ol' or'' og' ls', Post gB ((gtr H oe ol or' ogr ls).map (·.1)) s s' → (∀ a o, S a o → S' a o) → (∀ a o, S' a o → S a o ∨ (s.heap.get? a = none ∧ s'.heap.get? a = some o ∧ a ∉ tabP ∧ a ∉ (gtr H oe' ol' or'' og' ls').map (·.1))) → GObs prog w gB S' H (Ed ++ [((l : Int), (r : Int))]) oe' ol' or'' og' ls' →
      ((gtr H oe' ol' or'' og' ls').map (·.1)).Nodup → (∀ p ∈ gtr H oe' ol' or'' og' ls', s'.heap.get? p.1 = some p.2 ∧ gB.objs.size ≤ p.1 ∧ (p.1 ∈ (gtr H oe ol or' ogr ls).map (·.1) ∨ s.heap.get? p.1 = none)) → Q .none s') :
    wpAny (model prog w) A (call (.ref 105) [.ref H.x, .ref t, .bool true]) Q E s := by
  obtain ⟨sl, hx⟩ := hx
  refine call_atQ B W (at105 _) nc105 [("self", .ref H.x), ("key", .ref t), ("value", .bool true)] (gtr H oe ol or' ogr ls) hfoot hn R.depth (by kernel_rfl) (by kernel_rfl) (fun s₁ L Sf qx O A' hSf hL hO hA I hqx => ?_)
  have hF : ∀ a o, S a o → Sf a o := fun a o h => hSf ▸ Froz.of hL (hS a o h).1 (hS a o h).2.1 (hS a o h).2.2
  have R' : Room A' (9) (57) := hA ▸ R.deeper (d := 9) (u := 57) (envAt 105 L)
  have U := R'.un
  obtain ⟨ot, hot1, hot2⟩ := ht
  obtain ⟨ta, tb, nt, hotc, hotd⟩ := hot2.pair
  obtain ⟨⟨xsE, hDE, hkE⟩, ⟨K1, n1, hL1, zn1⟩, ⟨K2, n2, hL2, zn2⟩, ⟨xsG, hDG, hPG, zG⟩⟩ := hG
  refine wpAny_execs_cons (wpAny_If (wpAny_isTrue_BoolOp (wpAny_allTrue_Or_cons (wpAny_isTrue_Not (wpAny_isTrue_value ?_)))))
  walk_at "q"
  refine PyProof.Rows.Call_ (r_blt B I (g_isinstance _) (v := .builtin "isinstance") (by decide +kernel) (by decide) ?_) rfl
  refine callWith_builtin rfl (evalArgs_plain (args_cons (r_loc I rfl (args_cons (r_blt B I (g_tuple _) (v := .type "tuple") (by decide +kernel) (by decide) (args_nil ?_))))))
  walk_at "q"
  refine IsiPair.tuple_tuple (I.get (hF _ _ hot1)) hotc (wpAny_truthy_bool ?_)
  first | refine ifFb rfl ?_ | refine wifFb rfl ?_ | simp only [Bool.not_true, Bool.false_eq_true, if_false]
  refine wpAny_allTrue_Or_cons (wpAny_isTrue_Compare1 ?_)
  walk_at "q"
  refine PyProof.Rows.Call_ (r_blt B I (g_len _) (v := .builtin "len") (by decide +kernel) (by decide) ?_) rfl
  refine callWith_builtin rfl (evalArgs_plain (args_cons (r_loc I rfl (args_nil ?_))))
  walk_at "q"
  refine len_tuple (items := #[.int l ta, .int r tb]) ⟨_, I.get (hF _ _ hot1), hotc, nt, hotd⟩ (by show ((2 : Nat) : Int) < 2 ^ 63; decide) (wpAny_Constant_int (PyProof.Rows.ne_int (wpAny_truthy_bool ?_)))
  replace I := I.toks (s₁.toks + 1 + 1 + 1)
  first | refine ifF (show ¬ ((((#[Value.int (l : Int) ta, Value.int (r : Int) tb] : Array Value).size : Nat) : Int) != 2) = true from by show ¬ (((2 : Nat) : Int) != 2) = true; decide) ?_ | refine wifF (show ¬ ((((#[Value.int (l : Int) ta, Value.int (r : Int) tb] : Array Value).size : Nat) : Int) != 2) = true from by show ¬ (((2 : Nat) : Int) != 2) = true; decide) ?_ | rw [if_neg (show ¬ ((((#[Value.int (l : Int) ta, Value.int (r : Int) tb] : Array Value).size : Nat) : Int) != 2) = true from by show ¬ (((2 : Nat) : Int) != 2) = true; decide)]
  refine wpAny_allTrue_Or_nil ?_
  walk_at "q"
  first | refine ifFb rfl ?_ | refine wifFb rfl ?_ | simp only [Bool.false_eq_true, if_false]
  refine wpAny_execs_nil ?_
  walk_at "q"
  refine wpAny_execs_cons (wpAny_Assign_Subscript (r_loc I rfl ?_))
  walk_at "q"
  refine Attribute_Name_ (r_loc I rfl (r_attr B I (I.get (hF _ _ hx)) (I.get (hF _ _ hdx)) hf (v := .ref H.ed) rfl rfl (f199_edges _) fun s₂ I _ => r_loc I rfl ?_))
  walk_at "q"
  have hnone : atKey xsE [(l : Int), (r : Int)] = none := by
    cases q : atKey xsE [(l : Int), (r : Int)] with
    | none => rfl
    | some p =>
      exfalso
      obtain ⟨x, hx', _⟩ := Option.map_eq_some_iff.mp q
      have h1 := List.mem_of_find?_eq_some hx'
      have h2 : x.1 = [(l : Int), (r : Int)] := by simpa using List.find?_some hx'
      have h3 : [(l : Int), (r : Int)] ∈ Ed.map fun e => [e.1, e.2] := by rw [← hkE, ← h2]; exact List.mem_map_of_mem h1
      obtain ⟨e, he, e'⟩ := List.mem_map.mp h3
      have : e = ((l : Int), (r : Int)) := by
        injection e' with a1 a2
        injection a2 with a3 _
        exact Prod.ext a1 a3
      exact hnew (this ▸ he)
  refine r_setX I hF (by exact oU ‹_› (by exact rfl)) ⟨ot, hot1, hot2⟩ (i := 0) rfl hDE (by have := congrArg List.length hkE; simp only [List.length_map] at this; exact oE ‹_› ‹_› (by exact rfl)) fun s₃ oe' I hDE' => ?_
  walk_at "q"
  rw [storedH_new hnone] at hDE'
  refine wpAny_execs_cons (wpAny_Expr (MethodCall_ (Attribute_Name_ (r_loc I rfl (r_attr B I (I.get (hF _ _ hx)) (I.get (hF _ _ hdx)) hf (v := .ref H.lf) rfl rfl (f199_left _) fun s₄ I _ => ?_))) (eval_callm rfl rfl rfl)))
  refine getMethod_builtin ⟨_, I.at (i := 1) rfl, hL1.cls⟩ PySem.F.plainAttrs_set PySem.F.slot_set_add PySem.F.type_set_add (fun a e => ⟨_, by cases e; exact I.at (i := 1) rfl, by obtain ⟨_, _, _, h, _⟩ := hL1; exact h.2.1⟩) ?_
  refine callWith_method1 (args_cons (PyProof.Rows.Subscript_ (r_loc I rfl (wpAny_Constant_int ?_))))
  walk_at "q"
  replace I := I.toks (s₄.toks + 1)
  refine r_pair0 (I.get (hF _ _ hot1)) hotc hotd (args_nil (r_addI I (i := 1) rfl hL1 (by omega) fun s₅ ol' n1' hn1' I hL1 => ?_))
  walk_at "q"
  refine wpAny_execs_cons (wpAny_Expr (MethodCall_ (Attribute_Name_ (r_loc I rfl (r_attr B I (I.get (hF _ _ hx)) (I.get (hF _ _ hdx)) hf (v := .ref H.rt) rfl rfl (f199_right _) fun s₆ I _ => ?_))) (eval_callm rfl rfl rfl)))
  refine getMethod_builtin ⟨_, I.at (i := 2) rfl, hL2.cls⟩ PySem.F.plainAttrs_set PySem.F.slot_set_add PySem.F.type_set_add (fun a e => ⟨_, by cases e; exact I.at (i := 2) rfl, by obtain ⟨_, _, _, h, _⟩ := hL2; exact h.2.1⟩) ?_
  refine callWith_method1 (args_cons (PyProof.Rows.Subscript_ (r_loc I rfl (wpAny_Constant_int ?_))))
  walk_at "q"
  replace I := I.toks (s₆.toks + 1)
  refine r_pair1 (I.get (hF _ _ hot1)) hotc hotd (args_nil (r_addI I (i := 2) rfl hL2 (by omega) fun s₇ or'' n2' hn2' I hL2 => ?_))
  walk_at "q"
  refine wpAny_execs_cons (wpAny_Expr (MethodCall_ (MethodCall_ (Attribute_Name_ (r_loc I rfl (r_attr B I (I.get (hF _ _ hx)) (I.get (hF _ _ hdx)) hf (v := .ref H.gr) rfl rfl (f199_graph _) fun s₈ I _ => ?_))) (eval_callm rfl rfl rfl)) (eval_callm rfl rfl rfl)))
  refine getMethod_builtin ⟨_, I.at (i := 3) rfl, hDG.1.1⟩ PySem.F.plainAttrs_dict PySem.F.slot_dict_setdefault PySem.F.type_dict_setdefault (fun a e => ⟨_, by cases e; exact I.at (i := 3) rfl, hDG.1.2.1⟩) ?_
  refine callWith_method1 (args_cons (Tuple_ (args_cons (r_glob B I (gLEFT _) (args_cons (PyProof.Rows.Subscript_ (r_loc I rfl (wpAny_Constant_int ?_))))))))
  walk_at "q"
  replace I := I.toks (s₈.toks + 1)
  have lt1 := I.L_lt
  refine r_pair0 (I.get (hF _ _ hot1)) hotc hotd (args_nil (r_newtup I fun t1 s₉ ht1 I => ?_))
  walk_at "q"
  have ltq1 := I.L_lt
  refine args_cons (PyProof.Rows.Call_ (r_blt B I (g_set _) (v := .type "set") (by decide +kernel) (by decide) ?_) rfl)
  refine PyProof.Rows.callWith_type0 (r_newset I fun q s₁₀ led hq I => args_nil ?_)
  walk_at "q"
  have hF1 : ∀ a o, And1 S t1 (tup [.int 0 292, .int l ta]) a o → And1 Sf t1 (tup [.int 0 292, .int l ta]) a o := fun a o q => q.imp (hF a o) id
  have hup1 : ∀ a o, S a o → And1 S t1 (tup [.int 0 292, .int l ta]) a o := fun a o q => .inl q
  refine r_setdef (S₁ := And1 S t1 (tup [.int 0 292, .int l ta])) (pre := [(H.ed, oe'), (H.lf, ol'), (H.rt, or'')]) (c := 1) (y := l) I hF1 (by exact oU ‹_› (by exact rfl)) (hDG.mono fun _ _ o q => hup1 _ o q) (hPG.mono hup1) (by decide) ⟨_, .inr ⟨rfl, rfl⟩, TupO.of⟩ (by omega) fun l1 s₁₁ og1 xs1 ls1 i1 o1 b1 I hD1 hz1 hls1 hi1 hb1 ho1 hP1 => ?_
  walk_at "q"
  have hi1' : ([(H.ed, oe'), (H.lf, ol'), (H.rt, or'')] ++ (H.gr, og1) :: ls1)[i1 + 4]? = some (l1, o1) := by simpa using hi1
  refine getMethod_builtin ⟨_, I.at hi1', by obtain ⟨_, _, _, rfl, _⟩ := ho1; rfl⟩ PySem.F.plainAttrs_set PySem.F.slot_set_add PySem.F.type_set_add (fun a e => ⟨_, by cases e; exact I.at hi1', by obtain ⟨_, _, _, rfl, _⟩ := ho1; rfl⟩) ?_
  refine callWith_method1 (args_cons (Tuple_ (args_cons (r_glob B I (gRIGHT _) (args_cons (PyProof.Rows.Subscript_ (r_loc I rfl (wpAny_Constant_int ?_))))))))
  walk_at "q"
  replace I := I.toks (s₁₁.toks + 1)
  have lt2 := I.L_lt
  refine r_pair1 (I.get (.inl (hF _ _ hot1))) hotc hotd (args_nil (r_newtup I fun t2 s₁₂ ht2 I => args_nil ?_))
  walk_at "q"
  have hF2 : ∀ a o, And1 (And1 S t1 (tup [.int 0 292, .int l ta])) t2 (tup [.int 1 294, .int r tb]) a o → And1 (And1 Sf t1 (tup [.int 0 292, .int l ta])) t2 (tup [.int 1 294, .int r tb]) a o := fun a o q => q.imp (hF1 a o) id
  refine r_addP (S₁ := And1 (And1 S t1 (tup [.int 0 292, .int l ta])) t2 (tup [.int 1 294, .int r tb])) I hF2 (by exact oU ‹_› (by exact rfl)) hi1' (ho1.mono fun _ _ q => .inl q) (by decide) hb1 hr ⟨_, .inr ⟨rfl, rfl⟩, TupO.of⟩ fun s₁₃ o1' I ho1' => ?_
  walk_at "q"
  have hset1 : ([(H.ed, oe'), (H.lf, ol'), (H.rt, or'')] ++ (H.gr, og1) :: ls1).set (i1 + 4) (l1, o1') = [(H.ed, oe'), (H.lf, ol'), (H.rt, or'')] ++ (H.gr, og1) :: ls1.set i1 (l1, o1') := by simp
  rw [hset1] at I
  refine gen1 (And1 (And1 S t1 (tup [.int 0 292, .int l ta])) t2 (tup [.int 1 294, .int r tb])) fun T2 hT2 => ?_
  rw [hT2] at hF2 ho1'
  have hup2 : ∀ a o, And1 S t1 (tup [.int 0 292, .int l ta]) a o → T2 a o := fun a o q => by rw [← hT2]; exact .inl q
  have hD1' := hD1.mono (S' := T2) fun _ _ o q => hup2 _ o q
  have hP1' := hP1 T2 o1' _ hup2 (bit_lt b1 hb1 r hr) ho1'
  have hI2 : ∀ a o, Sf a o → And1 (And1 Sf t1 (tup [.int 0 292, .int l ta])) t2 (tup [.int 1 294, .int r tb]) a o := fun a o q => .inl (.inl q)
  refine FIn.abs I fun Sf2 hSf2 I => ?_
  rw [hSf2] at hF2 hI2
  have hFF : ∀ a o, S a o → Sf2 a o := fun a o q => hI2 _ _ (hF a o q)
  refine wpAny_execs_cons (wpAny_Expr (MethodCall_ (MethodCall_ (Attribute_Name_ (r_loc I rfl (r_attr B I (I.get (hFF _ _ hx)) (I.get (hFF _ _ hdx)) hf (v := .ref H.gr) rfl rfl (f199_graph _) fun s₁₄ I _ => ?_))) (eval_callm rfl rfl rfl)) (eval_callm rfl rfl rfl)))
  refine getMethod_builtin ⟨_, I.at (i := 3) rfl, hD1.1.1⟩ PySem.F.plainAttrs_dict PySem.F.slot_dict_setdefault PySem.F.type_dict_setdefault (fun a e => ⟨_, by cases e; exact I.at (i := 3) rfl, hD1.1.2.1⟩) ?_
  refine callWith_method1 (args_cons (Tuple_ (args_cons (r_glob B I (gRIGHT _) (args_cons (PyProof.Rows.Subscript_ (r_loc I rfl (wpAny_Constant_int ?_))))))))
  walk_at "q"
  replace I := I.toks (s₁₄.toks + 1)
  have lt3 := I.L_lt
  refine r_pair1 (I.get (hFF _ _ hot1)) hotc hotd (args_nil (r_newtup I fun t3 s₁₅ ht3 I => ?_))
  walk_at "q"
  have ltq2 := I.L_lt
  refine args_cons (PyProof.Rows.Call_ (r_blt B I (g_set _) (v := .type "set") (by decide +kernel) (by decide) ?_) rfl)
  refine PyProof.Rows.callWith_type0 (r_newset I fun q2 s₁₆ led2 hq2 I => args_nil ?_)
  walk_at "q"
  have hF3 : ∀ a o, And1 T2 t3 (tup [.int 1 294, .int r tb]) a o → And1 Sf2 t3 (tup [.int 1 294, .int r tb]) a o := fun a o q => q.imp (hF2 a o) id
  have hup3 : ∀ a o, T2 a o → And1 T2 t3 (tup [.int 1 294, .int r tb]) a o := fun a o q => .inl q
  refine r_setdef (S₁ := And1 T2 t3 (tup [.int 1 294, .int r tb])) (pre := [(H.ed, oe'), (H.lf, ol'), (H.rt, or'')]) (c := 0) (y := r) I hF3 (by exact oU ‹_› (by exact rfl)) (hD1'.mono fun _ _ o q => hup3 _ o q) (hP1'.mono hup3) (by decide) ⟨_, .inr ⟨rfl, rfl⟩, TupO.of⟩ (by omega) fun l2 s₁₇ og2 xs2 ls2 i2 o2 b2 I hD2 hz2 hls2 hi2 hb2 ho2 hP2 => ?_
  walk_at "q"
  have hi2' : ([(H.ed, oe'), (H.lf, ol'), (H.rt, or'')] ++ (H.gr, og2) :: ls2)[i2 + 4]? = some (l2, o2) := by simpa using hi2
  refine getMethod_builtin ⟨_, I.at hi2', by obtain ⟨_, _, _, rfl, _⟩ := ho2; rfl⟩ PySem.F.plainAttrs_set PySem.F.slot_set_add PySem.F.type_set_add (fun a e => ⟨_, by cases e; exact I.at hi2', by obtain ⟨_, _, _, rfl, _⟩ := ho2; rfl⟩) ?_
  refine callWith_method1 (args_cons (Tuple_ (args_cons (r_glob B I (gLEFT _) (args_cons (PyProof.Rows.Subscript_ (r_loc I rfl (wpAny_Constant_int ?_))))))))
  walk_at "q"
  replace I := I.toks (s₁₇.toks + 1)
  have lt4 := I.L_lt
  refine r_pair0 (I.get (.inl (hFF _ _ hot1))) hotc hotd (args_nil (r_newtup I fun t4 s₁₈ ht4 I => args_nil ?_))
  walk_at "q"
  have hF4 : ∀ a o, And1 (And1 T2 t3 (tup [.int 1 294, .int r tb])) t4 (tup [.int 0 292, .int l ta]) a o → And1 (And1 Sf2 t3 (tup [.int 1 294, .int r tb])) t4 (tup [.int 0 292, .int l ta]) a o := fun a o q => q.imp (hF3 a o) id
  refine r_addP (S₁ := And1 (And1 T2 t3 (tup [.int 1 294, .int r tb])) t4 (tup [.int 0 292, .int l ta])) I hF4 (by exact oU ‹_› (by exact rfl)) hi2' (ho2.mono fun _ _ q => .inl q) (by decide) hb2 hl ⟨_, .inr ⟨rfl, rfl⟩, TupO.of⟩ fun s₁₉ o2' I ho2' => wpAny_execs_nil ?_
  walk_at "q"
  have hset2 : ([(H.ed, oe'), (H.lf, ol'), (H.rt, or'')] ++ (H.gr, og2) :: ls2).set (i2 + 4) (l2, o2') = [(H.ed, oe'), (H.lf, ol'), (H.rt, or'')] ++ (H.gr, og2) :: ls2.set i2 (l2, o2') := by simp
  rw [hset2] at I
  refine gen1 (And1 (And1 T2 t3 (tup [.int 1 294, .int r tb])) t4 (tup [.int 0 292, .int l ta])) fun T4 hT4 => ?_
  rw [hT4] at hF4 ho2'
  have hup4 : ∀ a o, And1 T2 t3 (tup [.int 1 294, .int r tb]) a o → T4 a o := fun a o q => by rw [← hT4]; exact .inl q
  have hP2' := hP2 T4 o2' _ hup4 (bit_lt b2 hb2 l hl) ho2'
  have hD2' := hD2.mono (S' := T4) fun _ _ o q => hup4 _ o q
  have hST4 : ∀ a o, S a o → T4 a o := fun a o q => hup4 _ _ (.inl (hup2 _ _ (.inl q)))
  refine hqx _ _ ⟨⟨_, _, _, I, fun a o q => .inl (.inl (hI2 a o q))⟩, fun P => hQ s₁₉ T4 oe' ol' or'' og2 (ls2.set i2 (l2, o2')) P hST4 ?_ ⟨⟨_, hDE'.mono fun _ _ o q => hST4 _ o q, ?_⟩, ⟨_, n1', hL1, ?_⟩, ⟨_, n2', hL2, ?_⟩, ⟨xs2, hD2', hP2', ?_⟩⟩ I.nd ?_⟩
  · have hnone : ∀ {n : Nat}, (L : Nat) < n → s.heap.get? n = none := fun {n} h => by
      refine Heap.get?_none_of_le ?_
      have : (L : Nat) = s.heap.objs.size := hL
      omega
    intro a o q
    rw [← hT4, ← hT2] at q
    have st : ∀ {a o}, And1 (And1 Sf2 t3 (tup [.int 1 294, .int r tb])) t4 (tup [.int 0 292, .int l ta]) a o → s₁₉.heap.get? a = some o ∧ a ∉ tabP ∧ a ∉ (gtr H oe' ol' or'' og2 (ls2.set i2 (l2, o2'))).map (·.1) := fun h => by
      obtain ⟨a1, a2, a3, a4⟩ := I.st _ _ h
      exact ⟨a1, a3, a4⟩
    rcases q with (((q | ⟨rfl, rfl⟩) | ⟨rfl, rfl⟩) | ⟨rfl, rfl⟩) | ⟨rfl, rfl⟩
    · exact .inl q
    · exact .inr ⟨by rw [ht1]; exact hnone lt1, st (.inl (.inl (by rw [← hSf2]; exact .inl (.inr ⟨rfl, rfl⟩))))⟩
    · exact .inr ⟨by rw [ht2]; exact hnone lt2, st (.inl (.inl (by rw [← hSf2]; exact .inr ⟨rfl, rfl⟩)))⟩
    · exact .inr ⟨by rw [ht3]; exact hnone lt3, st (.inl (.inr ⟨rfl, rfl⟩))⟩
    · exact .inr ⟨by rw [ht4]; exact hnone lt4, st (.inr ⟨rfl, rfl⟩)⟩
  · rw [List.map_append, hkE, List.map_append]; rfl
  · rw [List.length_append]; simp; omega
  · rw [List.length_append]; simp; omega
  · rw [List.length_append]; simp; omega
  · have hnone : ∀ {n : Nat}, (L : Nat) < n → s.heap.get? n = none := fun {n} h => by
      refine Heap.get?_none_of_le ?_
      have : (L : Nat) = s.heap.objs.size := hL
      omega
    intro p hp
    have tk := I.tk p hp
    refine ⟨tk.1, tk.2.2, ?_⟩
    simp only [List.mem_cons] at hp
    rcases hp with rfl | rfl | rfl | rfl | hp
    · exact .inl (by simp)
    · exact .inl (by simp)
    · exact .inl (by simp)
    · exact .inl (by simp)
    · have h1 : p.1 ∈ ls2.map (·.1) := by
        rw [← map_fst_set (o' := o2') hi2]; exact List.mem_map_of_mem hp
      obtain ⟨p1, hp1, e1⟩ := List.mem_map.mp h1
      rcases hls2 p1 hp1 with h2 | h2
      · rw [map_fst_set (o' := o1') hi1] at h2
        obtain ⟨p2, hp2, e2⟩ := List.mem_map.mp h2
        rcases hls1 p2 hp2 with h3 | h3
        · left
          rw [← e1, ← e2]
          simp only [List.map_cons, List.mem_cons]
          exact .inr (.inr (.inr (.inr h3)))
        · right
          rw [← e1, ← e2, h3, hq]; exact hnone ltq1
      · right
        rw [← e1, h2, hq2]; exact hnone ltq2
end
end Mine
end
section
open PySem PySem.W PySem.Calls PyProof.Rows
open Sem (wp)
namespace Mine
noncomputable def OgLe (O O' : Og) : Prop := O'.os = O.os ∧ ∀ (k : Nat) (x : GenState), O.g[k]? = some x → O'.g[k]? = some x
theorem OgLe.refl (O : Og) : OgLe O O := ⟨rfl, fun _ _ h => h⟩
theorem OgLe.ok {O O' : Og} {s : Shared} (h : OgLe O O') (k : OgOk O' s) : OgOk O s := ⟨k.1.trans h.1, fun a x q => k.2 a x (h.2 a x q)⟩

structure PostG (gB : Heap) (ws : List Addr) (O : Og) (s s' : Shared) : Prop where
  wd : Wd gB s'.heap
  kp : ∀ b o, s.heap.get? b = some o → b ∉ ws → b ∉ tabP → s'.heap.get? b = some o
  sz : s.heap.objs.size ≤ s'.heap.objs.size
  bare : AllBare s'.gens
  os : OgOk O s'
section
variable {prog : Program} {w : World} {gB : Heap} {O O' : Og} {L : Addr} {m : Str → Option Value} {S S' : Addr → Obj → Prop} {tr tr' : List (Addr × Obj)} {s s' : Shared} {A : Around} {E : Value → Shared → Prop} {env : Env} {mg mb : Str → Option Value}

theorem FIn.postG (I : FIn gB O L m S tr s) {ws : List Addr} (P : PostG gB ws O' s s') (hO : OgLe O O') (hws : ∀ a ∈ ws, a ∈ tr.map (·.1)) {tr' : List (Addr × Obj)}
    (h1 : ∀ p ∈ tr', s'.heap.get? p.1 = some p.2 ∧ p.1 ≠ L ∧ gB.objs.size ≤ p.1) (hn : (tr'.map (·.1)).Nodup) :
    FIn gB O L m (Froz L tr' s') tr' s' ∧ ∀ a o, S a o → a ∉ tr'.map (·.1) → Froz L tr' s' a o := by
  have keep : ∀ a o, S a o → s'.heap.get? a = some o := fun a o h => by
    refine xa0_4 (I.st a o h) fun a1 a2 a3 a4 => ?_
    exact P.kp a o a1 (fun e => a4 (hws a e)) a3
  refine ⟨⟨P.wd, ?_, I.lL, fun a o h => h, h1, hn, P.bare, hO.ok P.os⟩, fun a o h h2 => ?_⟩
  · refine xa3_2 (I.ns) fun o es ep ho r => ?_
    refine ⟨o, es, ep, P.kp L o ho (fun e => ?_) (I.wd.notTab I.lL), r⟩
    refine xa1_2 (List.mem_map.mp (hws L e)) fun p hp e => ?_
    exact (I.tk p hp).2.1 e
  · refine xa0_4 (I.st a o h) fun a1 a2 a3 a4 => ?_
    exact ⟨keep a o h, a2, a3, h2⟩

theorem code98 (B : Base w.params mg mb gB) (W : Pre gB s) (hO : OgOk O' s) {x : Value} {items : List Value} {Q : Value → Shared → Prop} (hi : items.length ≤ 1)
    (foot : List (Addr × Obj)) (hfoot : ∀ p ∈ foot, s.heap.get? p.1 = some p.2 ∧ gB.objs.size ≤ p.1) (hnd : (foot.map (·.1)).Nodup) (hroom : A.depth < recursionLimit)
    (h : ∀ s₁ L ta kd, (s.heap.objs.size : Nat) ≤ ta → (s.heap.objs.size : Nat) ≤ kd → (s.heap.objs.size : Nat) ≤ L → FIn gB O' L (fun y => ([("self", x), ("args", .ref ta), ("kwargs", .ref kd)] : List (Str × Value)).reverse.lookup y) (fun a o => (s.heap.get? a = some o ∧ a ∉ tabP ∧ a ∉ foot.map (·.1)) ∨ (a = ta ∧ o = tup items) ∨ (a = kd ∧ o = emptyDict)) foot s₁ →
      wpAny (model prog w) (A.deeper (envAt 98 L)) (execs (bodyAt 98) (envAt 98 L)) (fun fl s' => (∃ m' S' tr', FIn gB O L m' S' tr' s' ∧ (∀ a o, s.heap.get? a = some o → a ∉ tabP → a ∉ foot.map (·.1) → S' a o)) ∧
        (PostG gB (foot.map (·.1)) O s s' → Q (match fl with | .ret v => v | _ => .none) s')) (fun _ _ => False) s₁) :
    codeAny (model prog w) A (.call (.ref 98) ⟨x :: items, []⟩) (fun r s' => match r with | .ok (.ret v) => Q v s' | .ok _ => False | .error e => E e s') s := by
  have D := at98 w.params
  refine codeAny_call_function (fd := fnAt 98) (body := bodyAt 98) hroom (B.K W.wd _ _ D.k) rfl D.co D.gen D.b (codeRec_of (B.K W.wd) D.c) ?_
  have hb : bindArgs (fnAt 98) ⟨x :: items, []⟩ = (do let t ← newTuple items; let d ← alloc { cls := .type "dict", data := .dict #[] }; pure [("self", x), ("args", t), ("kwargs", .ref d)]) := by
    cases items with
    | nil => exact bind98_0 x
    | cons y items =>
      cases items with
      | nil => exact bind98_1 x y
      | cons z t => exact absurd hi (Nat.not_le_of_gt (Nat.succ_lt_succ (Nat.succ_pos _)))
  rw [hb]
  refine wpAny_bind (wpAny_newTuple ?_ (by rw [sizeLine_eq]; exact oL ‹_› (by exact rfl)))
  refine wpAny_bind (wpAny_alloc (wpAny_pure ?_))
  walk_at "q"
  have k₂ : ∀ b o, s.heap.get? b = some o → ((s.heap.push (tup items)).push emptyDict).get? b = some o := fun b o e => Heap.get?_push_of_some _ (Heap.get?_push_of_some _ e)
  have z₂ : ((s.heap.push (tup items)).push emptyDict).objs.size = s.heap.objs.size + 2 := by rw [Heap.size_push, Heap.size_push]
  have W₂ : Wd gB ((s.heap.push (tup items)).push emptyDict) := W.wd.keeps k₂ (by rw [z₂]; exact Nat.le_succ_of_le (Nat.le_succ_of_le W.wd.sz))
  have hta : ((s.heap.push (tup items)).push emptyDict).get? s.heap.objs.size = some (tup items) := Heap.get?_push_of_some _ (Heap.get?_push_size _ rfl)
  have z₁ : (s.heap.push (tup items)).objs.size = s.heap.objs.size + 1 := Heap.size_push ..
  have hkd : ((s.heap.push (tup items)).push emptyDict).get? (s.heap.push (tup items)).objs.size = some emptyDict := Heap.get?_push_size (h := s.heap.push (tup items)) (o := emptyDict) rfl
  refine wpAny_newFunctionEnv nc98 (locs (by kernel_rfl)) (fun h₀ hns₀ hsb₀ => ⟨(B.lim W₂).fresh _ hsb₀, codeAny_func ?_⟩) D.kd
  have k₃ : ∀ b o, ((s.heap.push (tup items)).push emptyDict).get? b = some o → h₀.get? b = some o := fun b o e => hsb₀.extBut b o (Nat.ne_of_lt (Heap.lt_size e)) (Heap.get?_push_of_some _ e)
  have nta : (s.heap.objs.size : Nat) ∉ tabP := W.wd.notTab W.wd.sz
  have nkd : ((s.heap.push (tup items)).objs.size : Nat) ∉ tabP := W.wd.notTab (by rw [z₁]; exact Nat.le_succ_of_le W.wd.sz)
  have hft : ∀ a : Nat, s.heap.objs.size ≤ a → a ∉ foot.map (·.1) := fun a q e => by
    refine xa1_2 (List.mem_map.mp e) fun p hp e => ?_
    have := Heap.lt_size (hfoot p hp).1
    rw [e] at this
    exact Nat.not_lt.mpr q this
  have I : FIn gB O' ((s.heap.push (tup items)).push emptyDict).objs.size (fun y => ([("self", x), ("args", .ref s.heap.objs.size), ("kwargs", .ref (s.heap.push (tup items)).objs.size)] : List (Str × Value)).reverse.lookup y)
      (fun a o => (s.heap.get? a = some o ∧ a ∉ tabP ∧ a ∉ foot.map (·.1)) ∨ (a = s.heap.objs.size ∧ o = tup items) ∨ (a = (s.heap.push (tup items)).objs.size ∧ o = emptyDict)) foot { s with heap := h₀, toks := s.toks + 3 } := by
    refine ⟨W₂.keeps k₃ (Nat.le_trans W₂.sz (Nat.le_of_lt hns₀.lt)), hns₀, W₂.sz, ?_, fun p hp => ?_, hnd, W.bare, hO⟩
    · rintro a o (⟨h1, h2, h3⟩ | ⟨rfl, rfl⟩ | ⟨rfl, rfl⟩)
      · refine ⟨k₃ _ _ (k₂ _ _ h1), ?_, h2, h3⟩
        have := Heap.lt_size h1
        rw [z₂]; exact Nat.ne_of_lt (Nat.lt_of_lt_of_le this (Nat.le_add_right _ _))
      · exact ⟨k₃ _ _ hta, by rw [z₂]; exact Nat.ne_of_lt (Nat.lt_add_of_pos_right (by decide)), nta, hft _ (Nat.le_refl _)⟩
      · exact ⟨k₃ _ _ hkd, by rw [z₂, z₁]; exact Nat.ne_of_lt (Nat.lt_succ_self _), nkd, hft _ (by rw [z₁]; exact Nat.le_succ _)⟩
    · have h1 := hfoot p hp
      refine ⟨k₃ _ _ (k₂ _ _ h1.1), ?_, h1.2⟩
      have := Heap.lt_size h1.1
      rw [z₂]; exact Nat.ne_of_lt (Nat.lt_of_lt_of_le this (Nat.le_add_right _ _))
  refine wpAny_mono (h _ _ _ _ (Nat.le_refl _) (by rw [z₁]; exact Nat.le_succ _) (by rw [z₂]; exact Nat.le_add_right _ _) I) (fun fl s' hq => ?_) fun _ _ x => x.elim
  refine xa0_2 (hq) fun hp1 hq => ?_
  refine xa3_2 (hp1) fun m' S' tr' I' hS => ?_
  refine hq ⟨I'.wd, fun b o e h1 h2 => (I'.st b o (hS b o e h2 h1)).1, ?_, I'.bare, I'.os⟩
  have := I'.ns.lt
  rw [z₂] at this
  exact Nat.le_of_lt (Nat.lt_of_le_of_lt (Nat.le_add_right _ _) this)
end
end Mine
end
section
open PySem PySem.W PySem.Calls PyProof.Rows
open Sem (wp)
namespace Mine
section
variable {prog : Program} {w : World} {S : Addr → Obj → Prop} {gB : Heap} {mg mb : Str → Option Value}

theorem nt1 {a : Addr} {es : List DictEntry} {n : Nat} : ∀ p ∈ [((a : Addr), (dictOf es n : Obj))], p.2.cls ≠ .type "tuple" := fun p hp => by
  simp only [List.mem_cons, List.not_mem_nil, or_false] at hp
  subst hp
  exact fun e => by injection e with e; exact absurd e (by decide)
theorem nt2 {a b : Addr} {o : Obj} {es : List DictEntry} {n : Nat} (h : o.cls = .type "set") : ∀ p ∈ [(b, o), ((a : Addr), (dictOf es n : Obj))], p.2.cls ≠ .type "tuple" := fun p hp => by
  rcases List.mem_cons.mp hp with rfl | hp
  · rw [h]; decide
  · exact nt1 p hp
theorem CallKw_ {M : Model} {A : Around} {E : Value → Shared → Prop} {s : Shared} {env : Env} {func : Expr} {args : List Expr} {kws : List Keyword} {pos : PySem.Pos} {Q : Value → Shared → Prop}
    (h : wpAny M A (eval func env) (fun f s₁ => wpAny M A (callWith pos f [] (backTo pos (starEach args env)) (backToKw pos (keywordEach kws env))) Q E s₁) E s)
    (he : eval (.Call func args kws pos) env = (do callWith pos (← eval func env) [] (backTo pos (starEach args env)) (backToKw pos (keywordEach kws env))) := by rfl) :
    wpAny M A (eval (.Call func args kws pos) env) Q E s := by
  rw [he]; exact wpAny_bind h
theorem TupS.tup {S S' : Addr → Obj → Prop} {a : Addr} {k : List Int} (h : TupS prog w S a k) (hs : ∀ o, S a o → S' a o) : TupS prog w (fun a o => S' a o ∧ o.cls = .type "tuple") a k :=
  let ⟨o, h1, h2⟩ := h
  ⟨o, ⟨hs _ h1, h2.1⟩, h2⟩
theorem DicO.tup {S S' : Addr → Obj → Prop} {od : Obj} {xs} (h : DicO prog w S od xs) (hs : ∀ x ∈ xs, ∀ o, S x.2.1 o → S' x.2.1 o) : DicO prog w (fun a o => S' a o ∧ o.cls = .type "tuple") od xs :=
  let ⟨h1, es, ep, h2, h3, h4, h5⟩ := h
  ⟨h1, es, ep, h2, h3, fun x hx => (h4 x hx).tup (hs x hx), h5⟩
theorem TSet.tup {S : Addr → Obj → Prop} {c b : Nat} {o : Obj} (h : TSet prog w S c b o) : TSet prog w (fun a o => S a o ∧ o.cls = .type "tuple") c b o :=
  let ⟨led, es, ep, e, h2⟩ := h
  ⟨led, es, ep, e, h2.mono fun _ _ ⟨x, a, y, z⟩ => ⟨x, a, y, z.tup fun _ h => h⟩⟩
theorem PosS.tup {S : Addr → Obj → Prop} {xs : List (List Int × Addr × Value)} {ls : List (Addr × Obj)} (h : PosS prog w S xs ls) : PosS prog w (fun a o => S a o ∧ o.cls = .type "tuple") xs ls := by
  induction h with
  | nil => exact .nil
  | cons h1 h2 h3 _ ih => exact .cons h1 h2 h3.tup ih
noncomputable def Small (Ed : List (Int × Int)) : Prop := ∀ e ∈ Ed, ∃ l r : Nat, e = ((l : Int), (r : Int)) ∧ l < 4 ∧ r < 4

inductive GiI (prog : Program) (w : World) (s : Shared) (S3 : Addr → Obj → Prop) (dx : Nat) (a1 a2 gr : Addr) (o1 o2 : Obj) (es₄ : List DictEntry) (n₄ : Nat) (k : Nat) (m : Str → Option Value) (Sk : Addr → Obj → Prop) (tr : List (Addr × Obj)) : Prop
  | mk (h1 : (∀ a o, S3 a o → Sk a o))
    (h2 : m "self" = some (.ref (dx + 1)))
    (og xs ls)
    (h3 : tr = [(a2, o2), (a1, o1), (dx, dictOf es₄ n₄)] ++ (gr, og) :: ls)
    (h4 : DicO prog w Sk og xs)
    (h5 : PosS prog w Sk xs ls)
    (h6 : xs.length ≤ 2 * k)
    (h7 : ∀ p ∈ ls, (s.heap.objs.size : Nat) ≤ p.1) : GiI prog w s S3 dx a1 a2 gr o1 o2 es₄ n₄ k m Sk tr

theorem init_spec (B : Base w.params mg mb gB) {O O' : Og} {dx : Nat} {items : List Value} {foot0 : List (Addr × Obj)} {Ed : List (Int × Int)} (hEd : Small Ed) (zE : Ed.length ≤ 12)
    {A : Around} {s : Shared} {Q : Value → Shared → Prop} {E : Value → Shared → Prop} (R : Room A 30 120) (W : Pre gB s) (hO : OgOk O' s) (hx : s.heap.get? (dx + 1) = some (instObj 199 dx)) (hdx : s.heap.get? dx = some (dictOf [] 0)) (ndx : gB.objs.size ≤ dx) (hi : items.length ≤ 1)
    (hfoot : ∀ p ∈ foot0, s.heap.get? p.1 = some p.2 ∧ gB.objs.size ≤ p.1) (hnd : ((dx :: foot0.map (·.1))).Nodup) (hxn : (dx + 1) ∉ foot0.map (·.1))
    (hcall : ∀ {A' : Around} {L : Addr} {m : Str → Option Value} {S : Addr → Obj → Prop} {s₁ : Shared} {Q : Value → Shared → Prop} {E : Value → Shared → Prop}, Room A' 28 110 → FIn gB O' L m S ((dx, dictOf [] 0) :: foot0) s₁ → (∀ a o, s.heap.get? a = some o → a ∉ tabP → a ∉ (dx :: foot0.map (·.1)) → S a o) →
      (∀ a S' s' od, (s₁.heap.objs.size : Nat) ≤ a → (∀ a o, S a o → S' a o) → FIn gB O L m S' [(a, od), (dx, dictOf [] 0)] s' → EdD prog w S' od Ed → Q (.ref a) s') → wpAny (model prog w) A' (call (.type "dict") items) Q E s₁)
    (hQ : ∀ s' S' H es n oe ol or' og' ls, PostG gB (dx :: foot0.map (·.1)) O s s' → H.x = dx + 1 → H.dx = dx → s'.heap.get? dx = some (dictOf es n) → FldO es H.flds → GObs prog w gB S' H Ed oe ol or' og' ls → ((gtr H oe ol or' og' ls).map (·.1)).Nodup →
      (∀ p ∈ gtr H oe ol or' og' ls, s'.heap.get? p.1 = some p.2 ∧ gB.objs.size ≤ p.1 ∧ s.heap.get? p.1 = none) → (∀ a o, S' a o → s'.heap.get? a = some o ∧ a ∉ tabP ∧ a ∉ (gtr H oe ol or' og' ls).map (·.1) ∧ o.cls = .type "tuple") → Q .none s') :
    codeAny (model prog w) A (.call (.ref 98) ⟨.ref (dx + 1) :: items, []⟩) (fun r s' => match r with | .ok (.ret v) => Q v s' | .ok _ => False | .error e => E e s') s := by
  refine code98 (O := O) (O' := O') B W hO hi ((dx, dictOf [] 0) :: foot0) ?_ hnd R.depth fun s₁ L ta kd nta nkd nL I => ?_
  · intro p hp
    rcases List.mem_cons.mp hp with rfl | hp
    · refine xi0_2 hdx ndx
    · exact hfoot p hp
  have R' := R.deeper (d := 29) (u := 117) (envAt 98 L)
  have hx₀ : (s.heap.get? (dx + 1) = some (instObj 199 dx) ∧ (dx + 1) ∉ tabP ∧ (dx + 1) ∉ ((dx, dictOf [] 0) :: foot0).map (·.1)) := ⟨hx, W.wd.notTab (Nat.le_succ_of_le ndx), by simp only [List.map_cons, List.mem_cons, not_or]; exact ⟨Nat.succ_ne_self dx, hxn⟩⟩
  have hf0 : FldO [] ([] : List (Str × Value)) := ⟨fun _ h => (nomatch h), fun _ => rfl, by simp⟩
  refine wpAny_execs_cons (plainObj_wpAny_Assign_Attribute (CallKw_ (r_blt B I (g_dict _) (v := .type "dict") (by decide +kernel) (by decide) ?_) rfl))
  refine r_call_star rfl rfl I (.inr (.inl ⟨rfl, rfl⟩)) (.inr (.inr ⟨rfl, rfl⟩)) (Nat.le_trans W.wd.sz nkd) (by exact oL ‹_› (by exact rfl)) (fun J q => wpAny_bind (r_loc J rfl (wpAny_bind (wpAny_standAt (wpAny_pure q))))) (fun J q => wpAny_bind (r_loc J rfl (wpAny_bind (wpAny_standAt (wpAny_pure q))))) fun s₂ I => ?_
  walk_at "q"
  have gz : (gB.objs.size : Nat) ≤ s₂.heap.objs.size := I.wd.sz
  have lte := I.L_lt
  refine hcall (R'.mono) I (fun a o h1 h2 h3 => .inl ⟨h1, h2, h3⟩) fun ed S' s₃ oed hed hS' I hE => ?_
  replace I := I.settle
  have ned : gB.objs.size ≤ ed := Nat.le_trans gz hed
  have hSx : ∀ a o, s.heap.get? a = some o → a ∉ tabP → a ∉ (dx :: foot0.map (·.1)) → S' a o := fun a o h1 h2 h3 => hS' _ _ (.inl ⟨h1, h2, h3⟩)
  refine xa1_2 (hE) fun xsE hDE hkE => ?_
  obtain ⟨hEx, esE, epE, hdatE, hentE, htupE, hndE⟩ := id hDE
  have hszE : esE.size = Ed.length := by
    have h1 := size_of_entries hentE
    have h2 := congrArg List.length hkE
    simp only [List.length_map] at h2
    omega
  refine r_loc I rfl (r_setattr B I (I.get (.inl (hSx _ _ hx₀.1 hx₀.2.1 hx₀.2.2))) (i := 0) rfl hf0 (.inl (by simp)) (s199_edges _) fun s₄ es₁ n₁ I hf₁ z₁ => ?_)
  walk_at "q"
  refine wpAny_execs_cons (plainObj_wpAny_Assign_Attribute (PyProof.Rows.Call_ (r_blt B I (g_set _) (v := .type "set") (by decide +kernel) (by decide) ?_) rfl))
  refine PyProof.Rows.callWith_type1 (args_cons (r_genexp (gB := gB) (L := L) B R'.depth (c := 97) (P := 93) (cl := []) (by kernel_rfl) (by decide) rfl rfl (by kernel_rfl) (by decide) rfl rfl ?_ (fun _ => rfl)))
  refine MethodCall_ (Attribute_Name_ (r_loc I rfl (r_attr B I (I.get (.inl (hSx _ _ hx₀.1 hx₀.2.1 hx₀.2.2))) (I.at (i := 0) rfl) hf₁ (v := .ref ed) rfl rfl (f199_edges _) fun t0 I _ => ?_))) (eval_callm rfl rfl rfl)
  refine getMethod_builtin ⟨_, I.get (.inr ⟨rfl, rfl⟩), hEx.1⟩ PySem.F.plainAttrs_dict PySem.F.slot_dict_keys PySem.F.type_dict_keys (fun a e => ⟨_, by cases e; exact I.get (.inr ⟨rfl, rfl⟩), hEx.2.1⟩) ?_
  refine callWith_method0 (r_keys I (I.get (.inr ⟨rfl, rfl⟩)) hEx.1 ned fun v t1 hv I => ?_)
  walk_at "q"
  replace I := I.settle
  refine iter_keys I (I.get (.inr ⟨rfl, rfl⟩)) (I.get (.inl (.inr ⟨rfl, rfl⟩))) hdatE fun it t2 hit I => ?_
  walk_at "q"
  refine xi6_3 it _ _ _ _ _ rfl I (fun code C ga g fo t3 nm qn I hgs hns hg0 hpre => args_nil ?_)
  have lt1 := I.L_lt
  refine r_set_genexp (hgs esE.size (fun S k v => v = (esE[k]?.map (·.key)).getD .none) (fun S k io => KIt ed esE.size epE k io) (fun S => RawD S ed esE epE ∧ ∀ a o, S' a o → S a o) (fun _ => true) (fun i v S => ∃ k t, v = .int k t)) B (d := 0) (u := 20)
    { J := (keysItr (prog := prog) (w := w) (gB := gB) (d := ed) (it := it) (es := esE) (ep := epE)).more (fun h => h.1) (fun hs h => ⟨h.1.mono hs, fun a o q => hs _ _ (h.2 a o q)⟩)
      fmono := fun hs h => h
      loc := rfl
      ne := by
        exact fun e => (List.nodup_cons.mp I.nd).1 (List.mem_cons.mpr (.inl e.symm))
      co := rfl
      body := ?body } R'.mono I hns ⟨rfl, rfl⟩ ⟨⟨oed, .inl (.inl (.inr ⟨rfl, rfl⟩)), hEx.1, hdatE⟩, fun a o q => .inl (.inl (.inl q))⟩ hg0 hpre (fun h => h) nt1 (by rw [show (passing (fun _ => true) esE.size 0).length = esE.size by rw [passing_all, List.length_range]]; exact oE ‹_› ‹_› (by exact rfl)) ?fin
  case body =>
    intro A' O' m' Sx sx E' io' i v RB hi J hp1 he2
    dsimp only at J ⊢
    refine xa0_2 (hp1) fun hraw hS1 => ?_
    obtain rfl := he2
    obtain ⟨x, hxk⟩ : ∃ x, xsE[i]? = some x := ⟨xsE[i]'(by rw [← size_of_entries hentE]; exact hi), List.getElem?_eq_getElem _⟩
    obtain ⟨e, hek⟩ : ∃ e, Ed[i]? = some e := ⟨Ed[i]'(by rw [← hszE]; exact hi), List.getElem?_eq_getElem _⟩
    have hx1 : x.1 = [e.1, e.2] := by
      have h1 : (xsE.map (·.1))[i]? = some x.1 := by rw [List.getElem?_map, hxk]; rfl
      rw [hkE, List.getElem?_map, hek] at h1
      simpa using h1.symm
    have hitem : (esE[i]?.map (·.key)).getD .none = .ref x.2.1 := by rw [entry_at hentE i, hxk]; rfl
    rw [hitem]
    refine xa1_2 (htupE x (List.mem_of_getElem? hxk)) fun ot hot1 hot2 => ?_
    rw [hx1] at hot2
    refine xa3_2 (hot2.pair) fun ta tb nt hotc hotd => ?_
    refine r_unpack2 RB.hh J (J.get (hS1 _ _ hot1)) hotc hotd fun s₁ J => ?_
    walk_at "q"
    refine wpAny_assign_Name (r_st J fun s₂ J => wpAny_assign_Name (r_st J fun s₃ J => tests0 ⟨rfl, fun h => (nomatch h), fun _ => ?_⟩))
    exact r_loc J rfl ⟨_, _, J, fun _ _ q => q, _, _, rfl⟩
  case fin =>
    intro a1 S2 t4 o1 K1 m1 ha1 hm1 hSs1 I hO1
    have hup2 : ∀ a o, And1 S' ed oed a o → S2 a o := fun a o q => hSs1 a o (.inl q)
    have y₁ := z₁ (by simp)
    refine r_loc I rfl (r_setattr B I (I.get (hup2 _ _ (.inl (hSx _ _ hx₀.1 hx₀.2.1 hx₀.2.2)))) (i := 1) rfl hf₁ (.inl (by simp at y₁; exact oL ‹_› (by exact rfl))) (s199_left _) fun s₅ es₂ n₂ I hf₂ z₂ => ?_)
    walk_at "q"
    refine wpAny_execs_cons (plainObj_wpAny_Assign_Attribute (PyProof.Rows.Call_ (r_blt B I (g_set _) (v := .type "set") (by decide +kernel) (by decide) ?_) rfl))
    refine PyProof.Rows.callWith_type1 (args_cons (r_genexp (gB := gB) (L := L) B R'.depth (c := 97) (P := 93) (cl := []) (by kernel_rfl) (by decide) rfl rfl (by kernel_rfl) (by decide) rfl rfl ?_ (fun _ => rfl)))
    refine MethodCall_ (Attribute_Name_ (r_loc I rfl (r_attr B I (I.get (hup2 _ _ (.inl (hSx _ _ hx₀.1 hx₀.2.1 hx₀.2.2)))) (I.at (i := 1) rfl) hf₂ (v := .ref ed) rfl rfl (f199_edges _) fun u0 I _ => ?_))) (eval_callm rfl rfl rfl)
    refine getMethod_builtin ⟨_, I.get (hup2 _ _ (.inr ⟨rfl, rfl⟩)), hEx.1⟩ PySem.F.plainAttrs_dict PySem.F.slot_dict_keys PySem.F.type_dict_keys (fun a e => ⟨_, by cases e; exact I.get (hup2 _ _ (.inr ⟨rfl, rfl⟩)), hEx.2.1⟩) ?_
    refine callWith_method0 (r_keys I (I.get (hup2 _ _ (.inr ⟨rfl, rfl⟩))) hEx.1 ned fun v u1 hv I => ?_)
    walk_at "q"
    replace I := I.settle
    refine iter_keys I (I.get (.inr ⟨rfl, rfl⟩)) (I.get (.inl (hup2 _ _ (.inr ⟨rfl, rfl⟩)))) hdatE fun it u2 hit I => ?_
    walk_at "q"
    refine xi6_3 it _ _ _ _ _ rfl I (fun code C ga g fo u3 nm qn I hgs hns hg0 hpre => args_nil ?_)
    have lt2 := I.L_lt
    refine r_set_genexp (hgs esE.size (fun S k v => v = (esE[k]?.map (·.key)).getD .none) (fun S k io => KIt ed esE.size epE k io) (fun S => RawD S ed esE epE ∧ ∀ a o, S' a o → S a o) (fun _ => true) (fun i v S => ∃ k t, v = .int k t)) B (d := 0) (u := 20)
      { J := (keysItr (prog := prog) (w := w) (gB := gB) (d := ed) (it := it) (es := esE) (ep := epE)).more (fun h => h.1) (fun hs h => ⟨h.1.mono hs, fun a o q => hs _ _ (h.2 a o q)⟩)
        fmono := fun hs h => h
        loc := rfl
        ne := by
          exact fun e => (List.nodup_cons.mp I.nd).1 (List.mem_cons.mpr (.inl e.symm))
        co := rfl
        body := ?body2 } R'.mono I hns ⟨rfl, rfl⟩ ⟨⟨oed, .inl (.inl (hup2 _ _ (.inr ⟨rfl, rfl⟩))), hEx.1, hdatE⟩, fun a o q => .inl (.inl (hup2 _ _ (.inl q)))⟩ hg0 hpre (fun h => h) (nt2 hO1.cls) (by rw [show (passing (fun _ => true) esE.size 0).length = esE.size by rw [passing_all, List.length_range]]; exact oE ‹_› ‹_› (by exact rfl)) ?fin2
    case body2 =>
      intro A' O' m' Sx sx E' io' i v RB hi J hp3 he4
      dsimp only at J ⊢
      refine xa0_2 (hp3) fun hraw hS1 => ?_
      obtain rfl := he4
      obtain ⟨x, hxk⟩ : ∃ x, xsE[i]? = some x := ⟨xsE[i]'(by rw [← size_of_entries hentE]; exact hi), List.getElem?_eq_getElem _⟩
      obtain ⟨e, hek⟩ : ∃ e, Ed[i]? = some e := ⟨Ed[i]'(by rw [← hszE]; exact hi), List.getElem?_eq_getElem _⟩
      have hx1 : x.1 = [e.1, e.2] := by
        have h1 : (xsE.map (·.1))[i]? = some x.1 := by rw [List.getElem?_map, hxk]; rfl
        rw [hkE, List.getElem?_map, hek] at h1
        simpa using h1.symm
      have hitem : (esE[i]?.map (·.key)).getD .none = .ref x.2.1 := by rw [entry_at hentE i, hxk]; rfl
      rw [hitem]
      refine xa1_2 (htupE x (List.mem_of_getElem? hxk)) fun ot hot1 hot2 => ?_
      rw [hx1] at hot2
      refine xa3_2 (hot2.pair) fun ta tb nt hotc hotd => ?_
      refine r_unpack2 RB.hh J (J.get (hS1 _ _ hot1)) hotc hotd fun s₁ J => ?_
      walk_at "q"
      refine wpAny_assign_Name (r_st J fun s₂ J => wpAny_assign_Name (r_st J fun s₃ J => tests0 ⟨rfl, fun h => (nomatch h), fun _ => ?_⟩))
      exact r_loc J rfl ⟨_, _, J, fun _ _ q => q, _, _, rfl⟩

    case fin2 =>
      intro a2 S3 u4 o2 K2 m2 ha2 hm2 hSs2 I hO2
      have hup3 : ∀ a o, S2 a o → S3 a o := fun a o q => hSs2 a o (.inl q)
      have hupE : ∀ a o, And1 S' ed oed a o → S3 a o := fun a o q => hup3 _ _ (hup2 _ _ q)
      have HXX : S3 (dx + 1) (instObj 199 dx) := hupE _ _ (.inl (hSx _ _ hx₀.1 hx₀.2.1 hx₀.2.2))
      have y₂ := z₂ (by simp at y₁; exact oL ‹_› (by exact rfl))
      refine r_loc I rfl (r_setattr B I (I.get HXX) (i := 2) rfl hf₂ (.inl (by simp at y₁ y₂; omega)) (s199_right _) fun s₆ es₃ n₃ I hf₃ z₃ => ?_)
      walk_at "q"
      have y₃ := z₃ (by simp at y₁ y₂; omega)
      have ltg := I.L_lt
      refine wpAny_execs_cons (plainObj_wpAny_Assign_Attribute (r_newdict I fun gr s₇ hgr I => r_loc I rfl ?_))
      walk_at "q"
      refine r_setattr B I (I.get HXX) (i := 3) rfl hf₃ (.inl (by simp at y₁ y₂ y₃; omega)) (s199_graph _) fun s₈ es₄ n₄ I hf₄ _ => ?_
      walk_at "q"
      replace I : FIn gB O L _ S3 ([(a2, o2), (a1, o1), (dx, dictOf es₄ n₄)] ++ (gr, emptyDict) :: []) s₈ := I.perm (by
        simp only [List.set]
        exact (List.perm_append_singleton (gr, emptyDict) [(a2, o2), (a1, o1), (dx, dictOf es₄ n₄)]).symm)
      have U5 : (A.deeper (envAt 98 L)).units + 10 < cLine := by have := R'.un; exact oU ‹_› (by exact rfl)
      refine wpAny_execs_cons (r_for_any (gB := gB) (O := O) (L := L) R'.hh ?_)
      walk_at "q"
      refine Attribute_Name_ (r_loc I rfl (r_attr B I (I.get HXX) (I.at (i := 2) rfl) hf₄ (v := .ref ed) rfl rfl (f199_edges _) fun s₉ I _ => ?_))
      walk_at "q"
      refine iter_dict I (I.get (hupE _ _ (.inr ⟨rfl, rfl⟩))) hEx.1 hdatE ned fun it s₁₀ hit I => ?_
      walk_at "q"
      refine ⟨it, esE.size, _, _, _, _, _, _, _, GiI prog w s S3 dx a1 a2 gr o1 o2 es₄ n₄,
        rfl, KIter (d := ed) (es := esE) (ep := epE), I, ⟨rfl, rfl⟩, fun k m Sk tr h => ⟨oed, (let ⟨h1, _, _, _, _, _, _, _, _, _⟩ := h; h1) _ _ (hupE _ _ (.inr ⟨rfl, rfl⟩)), hEx.1, hdatE⟩, ⟨fun _ _ h => h, rfl, emptyDict, [], [], rfl, ⟨ExactDict.new, #[], 0, rfl, rfl, (fun _ h => nomatch h), List.nodup_nil⟩, .nil, Nat.zero_le _, fun _ h => nomatch h⟩, ?_, ?_⟩
      · intro k m Sk tr s₁₁ io hk hp5 I
        obtain ⟨hSS, hms, og, xs, ls, he6, hD, hP, hzk, hlsz⟩ := hp5
        obtain rfl := he6
        obtain ⟨x, hxk⟩ : ∃ x, xsE[k]? = some x := ⟨xsE[k]'(by rw [← size_of_entries hentE]; exact hk), List.getElem?_eq_getElem _⟩
        obtain ⟨e, hek⟩ : ∃ e, Ed[k]? = some e := ⟨Ed[k]'(by rw [← hszE]; exact hk), List.getElem?_eq_getElem _⟩
        refine xa2_3 (hEd e (List.mem_of_getElem? hek)) fun l r he7 hl hr => ?_
        obtain rfl := he7
        have hx1 : x.1 = [(l : Int), (r : Int)] := by
          have h1 : (xsE.map (·.1))[k]? = some x.1 := by rw [List.getElem?_map, hxk]; rfl
          rw [hkE, List.getElem?_map, hek] at h1
          simpa using h1.symm
        have hitem : (esE[k]?.map (·.key)).getD .none = .ref x.2.1 := by rw [entry_at hentE k, hxk]; rfl
        rw [hitem]
        refine xa1_2 (htupE x (List.mem_of_getElem? hxk)) fun ot hot1 hot2 => ?_
        rw [hx1] at hot2
        refine xa3_2 (hot2.pair) fun ta tb nt hotc hotd => ?_
        have hkl : k < Ed.length := by exact oQ' ‹_› ‹_›
        refine r_unpack2 R'.hh I (I.get (hSS _ _ (hupE _ _ (.inl hot1)))) hotc hotd fun s₁₂ I => ?_
        walk_at "q"
        refine wpAny_assign_Name (r_st I fun s₁₃ I => wpAny_assign_Name (r_st I fun s₁₄ I => ?_))
        walk_at "q"
        replace I : FIn gB O L _ Sk ([(it, io), (a2, o2), (a1, o1), (dx, dictOf es₄ n₄)] ++ (gr, og) :: ls) s₁₄ := I
        refine wpAny_execs_cons (wpAny_Expr (MethodCall_ (MethodCall_ (Attribute_Name_ (r_loc I hms (r_attr B I (I.get (hSS _ _ HXX)) (I.at (i := 3) rfl) hf₄ (v := .ref gr) rfl rfl (f199_graph _) fun rA₁ I _ => ?_))) (eval_callm rfl rfl rfl)) (eval_callm rfl rfl rfl)))
        refine getMethod_builtin ⟨_, I.at (i := 4) rfl, hD.1.1⟩ PySem.F.plainAttrs_dict PySem.F.slot_dict_setdefault PySem.F.type_dict_setdefault (fun a e => ⟨_, by cases e; exact I.at (i := 4) rfl, hD.1.2.1⟩) ?_
        refine callWith_method1 (args_cons (Tuple_ (args_cons (r_glob B I (gLEFT _) (args_cons (r_loc I rfl (args_nil (r_newtup I fun p1 rB₁ hp1 I => ?_))))))))
        walk_at "q"
        have ltqa := I.L_lt
        refine args_cons (PyProof.Rows.Call_ (r_blt B I (g_set _) (v := .type "set") (by decide +kernel) (by decide) ?_) rfl)
        refine PyProof.Rows.callWith_type0 (r_newset I fun qa rC₁ ledQ hqa I => args_nil ?_)
        walk_at "q"
        refine r_setdef (S₁ := And1 Sk p1 (tup [.int 0 292, .int l ta])) (pre := [(it, io), (a2, o2), (a1, o1), (dx, dictOf es₄ n₄)]) (c := 1) (y := l) I (fun _ _ q => q) (by exact oU ‹_› (by exact rfl)) (hD.mono fun _ _ o q => .inl q) (hP.mono fun _ _ q => .inl q) (by decide) ⟨_, .inr ⟨rfl, rfl⟩, TupO.of⟩ (by omega) fun l₁ rD₁ og₁ xs₁ ls₁ i₁ o₁ b₁ I hD₁ hz₁ hls₁ hi₁ hb₁ ho₁ hP₁ => ?_
        walk_at "q"
        have hi₁' : ([(it, io), (a2, o2), (a1, o1), (dx, dictOf es₄ n₄)] ++ (gr, og₁) :: ls₁)[i₁ + 5]? = some (l₁, o₁) := by simpa using hi₁
        refine getMethod_builtin ⟨_, I.at hi₁', by obtain ⟨_, _, _, rfl, _⟩ := ho₁; rfl⟩ PySem.F.plainAttrs_set PySem.F.slot_set_add PySem.F.type_set_add (fun a e => ⟨_, by cases e; exact I.at hi₁', by obtain ⟨_, _, _, rfl, _⟩ := ho₁; rfl⟩) ?_
        refine callWith_method1 (args_cons (Tuple_ (args_cons (r_glob B I (gRIGHT _) (args_cons (r_loc I rfl (args_nil (r_newtup I fun p2 rE₁ hp2 I => args_nil ?_))))))))
        walk_at "q"
        refine r_addP (S₁ := And1 (And1 Sk p1 (tup [.int 0 292, .int l ta])) p2 (tup [.int 1 294, .int r tb])) I (fun _ _ q => q) (by exact oU ‹_› (by exact rfl)) hi₁' (ho₁.mono fun _ _ q => .inl q) (by decide) hb₁ hr ⟨_, .inr ⟨rfl, rfl⟩, TupO.of⟩ fun rF₁ o₁' I ho₁' => ?_
        walk_at "q"
        have hset₁ : ([(it, io), (a2, o2), (a1, o1), (dx, dictOf es₄ n₄)] ++ (gr, og₁) :: ls₁).set (i₁ + 5) (l₁, o₁') = [(it, io), (a2, o2), (a1, o1), (dx, dictOf es₄ n₄)] ++ (gr, og₁) :: ls₁.set i₁ (l₁, o₁') := by simp
        rw [hset₁] at I
        have hP₁' := hP₁ _ o₁' _ (fun _ _ q => .inl q) (bit_lt b₁ hb₁ r hr) ho₁'
        have hD₁' := hD₁.mono (S' := And1 (And1 Sk p1 (tup [.int 0 292, .int l ta])) p2 (tup [.int 1 294, .int r tb])) fun _ _ o q => .inl q
        generalize hS5' : And1 (And1 Sk p1 (tup [.int 0 292, .int l ta])) p2 (tup [.int 1 294, .int r tb]) = S5 at I hP₁' hD₁'
        have hS5 : ∀ a o, Sk a o → S5 a o := fun a o q => by rw [← hS5']; exact .inl (.inl q)
        refine wpAny_execs_cons (wpAny_Expr (MethodCall_ (MethodCall_ (Attribute_Name_ (r_loc I hms (r_attr B I (I.get (hS5 _ _ (hSS _ _ HXX))) (I.at (i := 3) rfl) hf₄ (v := .ref gr) rfl rfl (f199_graph _) fun rA₂ I _ => ?_))) (eval_callm rfl rfl rfl)) (eval_callm rfl rfl rfl)))
        refine getMethod_builtin ⟨_, I.at (i := 4) rfl, hD₁'.1.1⟩ PySem.F.plainAttrs_dict PySem.F.slot_dict_setdefault PySem.F.type_dict_setdefault (fun a e => ⟨_, by cases e; exact I.at (i := 4) rfl, hD₁'.1.2.1⟩) ?_
        refine callWith_method1 (args_cons (Tuple_ (args_cons (r_glob B I (gRIGHT _) (args_cons (r_loc I rfl (args_nil (r_newtup I fun p3 rB₂ hp3 I => ?_))))))))
        walk_at "q"
        have ltqb := I.L_lt
        refine args_cons (PyProof.Rows.Call_ (r_blt B I (g_set _) (v := .type "set") (by decide +kernel) (by decide) ?_) rfl)
        refine PyProof.Rows.callWith_type0 (r_newset I fun qb rC₂ ledQ hqb I => args_nil ?_)
        walk_at "q"
        refine r_setdef (S₁ := And1 S5 p3 (tup [.int 1 294, .int r tb])) (pre := [(it, io), (a2, o2), (a1, o1), (dx, dictOf es₄ n₄)]) (c := 0) (y := r) I (fun _ _ q => q) (by exact oU ‹_› (by exact rfl)) (hD₁'.mono fun _ _ o q => .inl q) (hP₁'.mono fun _ _ q => .inl q) (by decide) ⟨_, .inr ⟨rfl, rfl⟩, TupO.of⟩ (by omega) fun l₂ rD₂ og₂ xs₂ ls₂ i₂ o₂ b₂ I hD₂ hz₂ hls₂ hi₂ hb₂ ho₂ hP₂ => ?_
        walk_at "q"
        have hi₂' : ([(it, io), (a2, o2), (a1, o1), (dx, dictOf es₄ n₄)] ++ (gr, og₂) :: ls₂)[i₂ + 5]? = some (l₂, o₂) := by simpa using hi₂
        refine getMethod_builtin ⟨_, I.at hi₂', by obtain ⟨_, _, _, rfl, _⟩ := ho₂; rfl⟩ PySem.F.plainAttrs_set PySem.F.slot_set_add PySem.F.type_set_add (fun a e => ⟨_, by cases e; exact I.at hi₂', by obtain ⟨_, _, _, rfl, _⟩ := ho₂; rfl⟩) ?_
        refine callWith_method1 (args_cons (Tuple_ (args_cons (r_glob B I (gLEFT _) (args_cons (r_loc I rfl (args_nil (r_newtup I fun p4 rE₂ hp4 I => args_nil ?_))))))))
        walk_at "q"
        refine r_addP (S₁ := And1 (And1 S5 p3 (tup [.int 1 294, .int r tb])) p4 (tup [.int 0 292, .int l ta])) I (fun _ _ q => q) (by exact oU ‹_› (by exact rfl)) hi₂' (ho₂.mono fun _ _ q => .inl q) (by decide) hb₂ hl ⟨_, .inr ⟨rfl, rfl⟩, TupO.of⟩ fun rF₂ o₂' I ho₂' => ?_
        walk_at "q"
        have hset₂ : ([(it, io), (a2, o2), (a1, o1), (dx, dictOf es₄ n₄)] ++ (gr, og₂) :: ls₂).set (i₂ + 5) (l₂, o₂') = [(it, io), (a2, o2), (a1, o1), (dx, dictOf es₄ n₄)] ++ (gr, og₂) :: ls₂.set i₂ (l₂, o₂') := by simp
        rw [hset₂] at I
        have hP₂' := hP₂ _ o₂' _ (fun _ _ q => .inl q) (bit_lt b₂ hb₂ l hl) ho₂'
        have hD₂' := hD₂.mono (S' := And1 (And1 S5 p3 (tup [.int 1 294, .int r tb])) p4 (tup [.int 0 292, .int l ta])) fun _ _ o q => .inl q
        refine wpAny_execs_nil ?_
        refine xi3_2 _ (And1 (And1 S5 p3 (tup [.int 1 294, .int r tb])) p4 (tup [.int 0 292, .int l ta])) ([(a2, o2), (a1, o1), (dx, dictOf es₄ n₄)] ++ (gr, og₂) :: ls₂.set i₂ (l₂, o₂')) I ⟨fun a o q => .inl (.inl (hS5 _ _ (hSS _ _ q))) , hms , og₂ , xs₂ , ls₂.set i₂ (l₂, o₂') , rfl , hD₂' , hP₂' , by omega , fun p hp => ?_⟩
        have hfr₁ : ∀ p ∈ ls₁, (s.heap.objs.size : Nat) ≤ p.1 := fun p hp => by
          rcases hls₁ p hp with h | h
          · obtain ⟨p', h1, h2⟩ := List.mem_map.mp h; rw [← h2]; exact hlsz p' h1
          · rw [h, hqa]; exact Nat.le_trans nL (Nat.le_of_lt ltqa)
        have hfr₁' : ∀ p ∈ ls₁.set i₁ (l₁, o₁'), (s.heap.objs.size : Nat) ≤ p.1 := fun p hp => by
          rcases List.mem_or_eq_of_mem_set hp with h | rfl
          · exact hfr₁ p h
          · exact hfr₁ (l₁, o₁) (List.mem_of_getElem? hi₁)
        have hfr₂ : ∀ p ∈ ls₂, (s.heap.objs.size : Nat) ≤ p.1 := fun p hp => by
          rcases hls₂ p hp with h | h
          · obtain ⟨p', h1, h2⟩ := List.mem_map.mp h; rw [← h2]; exact hfr₁' p' h1
          · rw [h, hqb]; exact Nat.le_trans nL (Nat.le_of_lt ltqb)
        rcases List.mem_or_eq_of_mem_set hp with h | rfl
        · exact hfr₂ p h
        · exact hfr₂ (l₂, o₂) (List.mem_of_getElem? hi₂)
      · intro m Sk tr s₁₁ hp8 I
        obtain ⟨hSS, hms, og, xs, ls, he9, hD, hP, hzk, hlsz⟩ := hp8
        obtain rfl := he9
        refine wpAny_execs_nil ?_
        refine xi0_2 ⟨_, _, _, I, fun a o h1 h2 h3 => hSS _ _ (hupE _ _ (.inl (hSx _ _ h1 h2 h3)))⟩ (fun hp => ?_)
        have hdE := I.get (hSS _ _ (hupE _ _ (.inr ⟨rfl, rfl⟩)))
        refine hQ _ (fun a o => Sk a o ∧ o.cls = .type "tuple") ⟨dx + 1, dx, ed, a1, a2, gr⟩ es₄ n₄ oed o1 o2 og ls hp rfl rfl (I.at (i := 2) rfl) (hf₄.same fun n => lookup_extB ["_edges", "_left", "_right", "_graph"] (by exact rfl) (by exact rfl) (by exact rfl) n) ⟨⟨xsE, hDE.tup fun x hx o h => hSS _ _ (hupE _ _ (.inl h)), hkE⟩, ⟨K1, m1, hO1, ?_⟩, ⟨K2, m2, hO2, ?_⟩, ⟨xs, hD.tup fun x hx o h => h, hP.tup, by omega⟩⟩ ?_ ?_ ?_
        · change m1 ≤ (passing (fun _ => true) esE.size 0).length at hm1
          rw [passing_all, List.length_range] at hm1; exact oR' ‹_› ‹_›
        · change m2 ≤ (passing (fun _ => true) esE.size 0).length at hm2
          rw [passing_all, List.length_range] at hm2; exact oR' ‹_› ‹_›
        · have h1 := (I.st ed oed (hSS _ _ (hupE _ _ (.inr ⟨rfl, rfl⟩)))).2.2.2
          have h2 := I.nd
          simp only [List.map_cons, List.map_append, List.map_nil, List.cons_append, List.nil_append, List.mem_cons, not_or] at h1
          simp only [List.map_cons, List.map_append, List.map_nil, List.cons_append, List.nil_append, List.nodup_cons, List.mem_cons, not_or] at h2
          simp only [gtr, List.map_cons, List.nodup_cons, List.mem_cons, not_or]
          refine xi0_4 ⟨h1.2.1, h1.1, h1.2.2.2.1, h1.2.2.2.2⟩ ⟨fun e => h2.1.1 e.symm, h2.2.1.2.1, h2.2.1.2.2⟩ ⟨h2.1.2.2.1, h2.1.2.2.2⟩ h2.2.2.2
        · have hnone : ∀ a : Addr, (s.heap.objs.size : Nat) ≤ a → s.heap.get? a = none := fun a ha => Heap.get?_none_of_le ha
          intro p hp
          have htk : ∀ (i : Nat) (p : Addr × Obj), ([(a2, o2), (a1, o1), (dx, dictOf es₄ n₄)] ++ (gr, og) :: ls)[i]? = some p → (s.heap.objs.size : Nat) ≤ p.1 → s₁₁.heap.get? p.1 = some p.2 ∧ gB.objs.size ≤ p.1 ∧ s.heap.get? p.1 = none := fun i p hi hp =>
            ⟨I.at hi, (I.tk p (List.mem_of_getElem? hi)).2.2, hnone _ hp⟩
          simp only [gtr, List.mem_cons] at hp
          rcases hp with rfl | rfl | rfl | rfl | hp
          · refine xi0_3 hdE ned (hnone _ (Nat.le_trans nL (Nat.le_trans (Nat.le_of_lt lte) hed)))
          · exact htk 1 _ rfl (by rw [ha1]; exact Nat.le_trans nL (Nat.le_of_lt lt1))
          · exact htk 0 _ rfl (by rw [ha2]; exact Nat.le_trans nL (Nat.le_of_lt lt2))
          · exact htk 3 _ rfl (by rw [hgr]; exact Nat.le_trans nL (Nat.le_of_lt ltg))
          · refine xi0_3 ((I.tk p (by simp [hp])).1) ((I.tk p (by simp [hp])).2.2) (hnone _ (hlsz p hp))
        · intro a o hp10
          refine xa0_2 (hp10) fun h1 h2 => ?_
          refine xa0_4 (I.st a o h1) fun q1 q2 q3 q4 => ?_
          refine xi0_4 q1 q3 ?_ h2
          have hae : a ≠ ed := by
            rintro rfl
            rw [hdE] at q1
            injection q1 with q1
            rw [← q1, hEx.1] at h2
            exact absurd h2 (by decide)
          simp only [List.map_cons, List.map_append, List.map_nil, List.cons_append, List.nil_append, List.mem_cons, not_or] at q4
          simp only [gtr, List.map_cons, List.mem_cons, not_or]
          refine xi0_5 hae q4.2.1 q4.1 q4.2.2.2.1 q4.2.2.2.2
end
end Mine
end
section
open PySem PySem.W PySem.Calls PyProof.Rows
open Sem (wp)
namespace Mine

section
variable {prog : Program} {w : World} {S : Addr → Obj → Prop} {gB : Heap} {mg mb : Str → Option Value}

theorem make199 (B : Base w.params mg mb gB) {O O' : Og} {items : List Value} {foot0 : List (Addr × Obj)} {Ed : List (Int × Int)} (hEd : Small Ed) (zE : Ed.length ≤ 12)
    {A : Around} {s : Shared} {Q : Value → Shared → Prop} {E : Value → Shared → Prop} (R : Room A 31 121) (W : Pre gB s) (hO : OgOk O' s) (hi : items.length ≤ 1)
    (hfoot : ∀ p ∈ foot0, s.heap.get? p.1 = some p.2 ∧ gB.objs.size ≤ p.1) (hnd : (foot0.map (·.1)).Nodup)
    (hcall : ∀ {dx : Addr} {A' : Around} {L : Addr} {m : Str → Option Value} {S : Addr → Obj → Prop} {s₁ : Shared} {Q : Value → Shared → Prop} {E : Value → Shared → Prop}, Room A' 28 110 → FIn gB O' L m S ((dx, dictOf [] 0) :: foot0) s₁ → (∀ a o, s.heap.get? a = some o → a ∉ tabP → a ∉ foot0.map (·.1) → S a o) →
      (∀ a S' s' od, (s₁.heap.objs.size : Nat) ≤ a → (∀ a o, S a o → S' a o) → FIn gB O L m S' [(a, od), (dx, dictOf [] 0)] s' → EdD prog w S' od Ed → Q (.ref a) s') → wpAny (model prog w) A' (call (.type "dict") items) Q E s₁)
    (hQ : ∀ s' S' H es n oe ol or' og' ls, PostG gB (foot0.map (·.1)) O s s' → s'.heap.get? H.x = some (instObj 199 H.dx) → s'.heap.get? H.dx = some (dictOf es n) → FldO es H.flds → GObs prog w gB S' H Ed oe ol or' og' ls → (H.x :: H.dx :: (gtr H oe ol or' og' ls).map (·.1)).Nodup →
      (∀ p ∈ gtr H oe ol or' og' ls, s'.heap.get? p.1 = some p.2) → (∀ a ∈ H.x :: H.dx :: (gtr H oe ol or' og' ls).map (·.1), gB.objs.size ≤ a ∧ s.heap.get? a = none) → (∀ a o, S' a o → s'.heap.get? a = some o ∧ a ∉ tabP ∧ a ∉ (H.x :: H.dx :: (gtr H oe ol or' og' ls).map (·.1)) ∧ o.cls = .type "tuple") → Q (.ref H.x) s') :
    wpAny (model prog w) A (call (.ref 199) items) Q E s := by
  refine r_make B W (cl199 _) (args := ⟨items, []⟩) fun s₁ dx hdx hs₁ W₁ => ?_
  walk_at "q"
  have hgx : s₁.heap.get? (dx + 1) = some (instObj 199 dx) := by
    rw [hs₁, hdx]
    have := Heap.get?_push_size (h := s.heap.push emptyDict) (o := instObj 199 s.heap.objs.size) rfl
    rwa [Heap.size_push] at this
  have hgd : s₁.heap.get? dx = some (dictOf [] 0) := by
    rw [hs₁, hdx]
    exact Heap.get?_push_of_some _ (Heap.get?_push_size (h := s.heap) (o := emptyDict) rfl)
  have hk₁ : ∀ b o, s.heap.get? b = some o → s₁.heap.get? b = some o := fun b o e => by rw [hs₁]; exact Heap.get?_push_of_some _ (Heap.get?_push_of_some _ e)
  have hz₁ : s₁.heap.objs.size = s.heap.objs.size + 2 := by rw [hs₁]; show ((s.heap.push emptyDict).push _).objs.size = _; rw [Heap.size_push, Heap.size_push]
  have ho₁ : OgOk O' s₁ := by rw [hs₁]; exact hO
  have hndx : gB.objs.size ≤ dx := hdx ▸ W.wd.sz
  have R₁ := R.making (d := 30) (u := 120) 199 ⟨items, []⟩
  have hlt : ∀ p ∈ foot0.map (·.1), (p : Nat) < s.heap.objs.size := fun a ha => by
    refine xa1_2 (List.mem_map.mp ha) fun p hp he1 => ?_
    obtain rfl := he1
    exact Heap.lt_size (hfoot p hp).1
  have hd1 : dx ∉ foot0.map (·.1) := fun h => by have := hlt _ h; rw [hdx] at this; exact Nat.lt_irrefl _ this
  have hd2 : dx + 1 ∉ foot0.map (·.1) := fun h => by have := hlt _ h; rw [hdx] at this; exact absurd this (Nat.not_lt.mpr (Nat.le_succ _))
  have hno : ∀ a : Addr, (s.heap.objs.size : Nat) ≤ a → s.heap.get? a = none := fun a h => Heap.get?_none_of_le h
  have hold : ∀ a o, s.heap.get? a = some o → a ≠ dx ∧ a ≠ dx + 1 := fun a o h => by
    have := Heap.lt_size h
    rw [hdx]
    exact ⟨Nat.ne_of_lt this, Nat.ne_of_lt (Nat.lt_succ_of_lt this)⟩
  refine init_spec (O := O) (O' := O') B hEd zE R₁ W₁ ho₁ hgx hgd hndx hi (fun p hp => ⟨hk₁ _ _ (hfoot p hp).1, (hfoot p hp).2⟩) (List.nodup_cons.mpr ⟨hd1, hnd⟩) hd2 (fun R' I hS h => hcall R' I (fun a o h1 h2 h3 => hS a o (hk₁ _ _ h1) h2 (by simp only [List.mem_cons, not_or]; exact ⟨(hold a o h1).1, h3⟩)) h) ?_
  walk_at "q"
  intro s' S' H es n oe ol or' og' ls P hx hdx' hgd' hf hG hn hg hS'
  refine ⟨rfl, ?_⟩
  have hgx' : s'.heap.get? (dx + 1) = some (instObj 199 dx) := P.kp _ _ hgx (by simp only [List.mem_cons, not_or]; exact ⟨Nat.succ_ne_self dx, hd2⟩) (W₁.wd.notTab (Nat.le_succ_of_le hndx))
  have hxn : ∀ a o, s₁.heap.get? a = some o → a ∉ (gtr H oe ol or' og' ls).map (·.1) := fun a o h hm => by
    refine xa1_2 (List.mem_map.mp hm) fun p hp he2 => ?_
    obtain rfl := he2
    rw [(hg p hp).2.2] at h; cases h
  rw [← hx]
  rw [← hx, ← hdx'] at hgx'
  rw [← hdx'] at hgd'
  refine hQ s' S' H es n oe ol or' og' ls ⟨P.wd, fun b o h1 h2 h3 => P.kp b o (hk₁ b o h1) (by simp only [List.mem_cons, not_or]; exact ⟨(hold b o h1).1, h2⟩) h3, Nat.le_trans (by rw [hz₁]; exact Nat.le_add_right _ _) P.sz, P.bare, P.os⟩ hgx' hgd' hf hG ?_ (fun p hp => (hg p hp).1) ?_ ?_
  · refine List.nodup_cons.mpr ⟨?_, List.nodup_cons.mpr ⟨?_, hn⟩⟩
    rw [List.mem_cons, not_or]
    refine ⟨?_, ?_⟩
    · rw [hx, hdx']; exact Nat.succ_ne_self dx
    · rw [hx]; exact hxn _ _ hgx
    · rw [hdx']; exact hxn _ _ hgd
  · intro a ha
    rcases List.mem_cons.mp ha with rfl | ha
    · rw [hx]; exact ⟨Nat.le_succ_of_le hndx, hno _ (by rw [hdx]; exact Nat.le_succ _)⟩
    rcases List.mem_cons.mp ha with rfl | ha
    · rw [hdx']; exact ⟨hndx, hno _ (Nat.le_of_eq hdx.symm)⟩
    refine xa1_2 (List.mem_map.mp ha) fun p hp he3 => ?_
    obtain rfl := he3
    refine ⟨(hg p hp).2.1, ?_⟩
    cases h : s.heap.get? p.1 with
    | none => rfl
    | some o => have := hk₁ _ _ h; rw [(hg p hp).2.2] at this; cases this
  · intro a o h
    refine xa0_4 (hS' a o h) fun q1 q2 q3 q4 => ?_
    refine ⟨q1, q2, ?_, q4⟩
    rw [List.mem_cons, List.mem_cons, not_or, not_or]
    refine ⟨?_, ?_, q3⟩
    · rintro rfl
      rw [hgx'] at q1
      injection q1 with q1
      rw [← q1] at q4
      exact absurd q4 (by intro e; cases e)
    · rintro rfl
      rw [hgd'] at q1
      injection q1 with q1
      rw [← q1] at q4
      exact absurd q4 (by intro e; injection e with e; exact absurd e (by decide))
end
end Mine
end
section
open PySem PySem.W PySem.Calls PyProof.Rows
open Sem (wp)
namespace Mine

set_option linter.unusedSectionVars false
theorem typeCall_dict_0 : checkTypeCall "dict" ⟨[], []⟩ = pure () := by kernel_rfl
theorem newCall_dict_0 : checkBuiltinCall "dict.__new__" ⟨[.type "dict"], []⟩ = pure () := by kernel_rfl
section
variable {prog : Program} {w : World} {gB : Heap} {O O' : Og} {L : Addr} {m : Str → Option Value} {S S' : Addr → Obj → Prop} {tr tr' : List (Addr × Obj)} {s : Shared} {A : Around} {E : Value → Shared → Prop} {env : Env} {mg mb : Str → Option Value}
theorem code_dict_new0 {Q₁ : Value → Shared → Prop} (h : Q₁ (.ref s.heap.objs.size) { s with heap := s.heap.push { cls := .type "dict", data := .dict #[] } }) :
    codeAny (model prog w) A (.call (.builtin "dict.__new__") ⟨[.type "dict"], []⟩) (wants Q₁ E) s := by
  refine codeAny_call_builtin PySem.F.kt_plain_dict_new PySem.F.kt_entry_dict_new (wpAny_of_eq newCall_dict_0 ?_)
  walk_at "q"
  have hsub := PySem.F.kt_sub_dict
  have hmro := PySem.F.kt_mro_dict
  obtain ⟨hp, g, d, tk, os⟩ := s
  unfold Builtin.«dict.__new__»
  wp_walk
  exact h
theorem r_dict0 {Q : Value → Shared → Prop} (I : FIn gB O L m S tr s) (h : ∀ a s', a = s.heap.objs.size → FIn gB O L m S ((a, emptyDict) :: tr) s' → Q (.ref a) s') :
    wpAny (model prog w) A (call (.type "dict") []) Q E s := by
  refine callType_codes (Q₁ := fun obj s₁ => obj = .ref s.heap.objs.size ∧ s₁ = { s with heap := s.heap.push { cls := .type "dict", data := .dict #[] } }) PySem.F.kt_called_dict typeCall_dict_0 PySem.F.entry_dict_init (code_dict_new0 ⟨rfl, rfl⟩) ?_
  rintro obj s₁ ⟨rfl, rfl⟩
  have I₁ := I.push emptyDict s.toks
  have hT : Shared.TypeIs { s with heap := s.heap.push emptyDict } (.ref s.heap.objs.size) "dict" := ⟨_, I₁.at (i := 0) rfl, rfl⟩
  refine ⟨hT, PySem.F.args_dict_init_1 _, ?_⟩
  unfold Builtin.«dict.__init__»
  refine wpAny_bind ?_
  walk_at "q"
  unfold Builtin.Dict.selfAndRest
  refine wpAny_bind (wpAny_notOrdered_dict hT ?_)
  walk_at "q"
  show wpAny _ _ (pure (s.heap.objs.size, [])) _ _ _
  refine wpAny_pure ?_
  walk_at "q"
  show wpAny _ _ (Builtin.Dict.updateCommon "dict.__init__" "dict" s.heap.objs.size [] []) _ _ _
  unfold Builtin.Dict.updateCommon
  show wpAny _ _ (Builtin.Dict.addKeywords s.heap.objs.size [] >>= _) _ _ _
  exact wpAny_bind (wpAny_pure (wpAny_pure ⟨rfl, h _ _ rfl I₁⟩))

theorem emptyEd : EdD prog w S emptyDict [] := ⟨[], ⟨ExactDict.new, #[], 0, rfl, rfl, (fun _ h => nomatch h), List.nodup_nil⟩, rfl⟩

theorem make199_0 (B : Base w.params mg mb gB) {O : Og} {Q : Value → Shared → Prop} (R : Room A 31 121) (W : Pre gB s) (hO : OgOk O s)
    (hQ : ∀ s' S' H es n oe ol or' og' ls, PostG gB [] O s s' → s'.heap.get? H.x = some (instObj 199 H.dx) → s'.heap.get? H.dx = some (dictOf es n) → FldO es H.flds → GObs prog w gB S' H [] oe ol or' og' ls → (H.x :: H.dx :: (gtr H oe ol or' og' ls).map (·.1)).Nodup →
      (∀ p ∈ gtr H oe ol or' og' ls, s'.heap.get? p.1 = some p.2) → (∀ a ∈ H.x :: H.dx :: (gtr H oe ol or' og' ls).map (·.1), gB.objs.size ≤ a ∧ s.heap.get? a = none) → (∀ a o, S' a o → s'.heap.get? a = some o ∧ a ∉ tabP ∧ a ∉ (H.x :: H.dx :: (gtr H oe ol or' og' ls).map (·.1)) ∧ o.cls = .type "tuple") → Q (.ref H.x) s') :
    wpAny (model prog w) A (call (.ref 199) []) Q E s :=
  make199 (O := O) (O' := O) B (foot0 := []) (Ed := []) (fun _ h => nomatch h) (by decide) R W hO (by decide) (fun _ h => nomatch h) List.nodup_nil
    (fun R' I _ h => r_dict0 I fun a s' ha I' => h a _ s' emptyDict (Nat.le_of_eq ha.symm) (fun _ _ q => q) I' emptyEd) hQ
end
end Mine
end
section
open PySem PySem.W PySem.Calls PyProof.Rows
open Sem (wp)
namespace Mine
section
variable {prog : Program} {w : World} {mg mb : Str → Option Value} {gB : Heap} {A : Around} {E : Value → Shared → Prop} {s : Shared}

theorem call_cells (B : Base w.params mg mb gB) (W : Pre gB s) {f : Addr} {oc : Value} {od : Option Addr} {osl : Array (Option Value)} {fd : FuncData} {body : List Stmt} {vals : List Value} {binds : List (Str × Value)} {Q : Value → Shared → Prop}
    (foot : List (Addr × Obj)) (hfoot : ∀ p ∈ foot, s.heap.get? p.1 = some p.2 ∧ gB.objs.size ≤ p.1) (hnd : (foot.map (·.1)).Nodup)
    (hk : (KH w.params).lookup f = some ⟨oc, od, .func fd, osl⟩) (hbody : fd.body = .stmts body) (hcd : codeIn (KH w.params) fd.code fd.qualname = true)
    (hroom : A.depth < recursionLimit) (hbind : bindArgs fd ⟨vals, []⟩ = pure binds) (hclo : fd.closure = [])
    (hkind : ∀ L : Addr, ∀ x ∈ binds, fd.scope.names.lookup x.1 = some .local ∨ (fd.scope.names.lookup x.1 = some .cell ∧ ((cellsFrom (L + 1) fd.scope.names []).lookup x.1).isSome = true))
    (h : ∀ s₁ L, L = s.heap.objs.size → FIn gB (og s) L (bindL (callEnvC fd L f).kindOf binds fun _ => none) (Froz L foot s₁) foot s₁ → (∀ a o, Froz L foot s a o → Froz L foot s₁ a o) →
      (∀ n c, (cellsFrom (L + 1) fd.scope.names []).lookup n = some c → (L : Nat) < c ∧ ∃ o, Froz L foot s₁ c o ∧ o.data = .cell (bindC (callEnvC fd L f).kindOf binds (fun _ => none) n)) →
      wpAny (model prog w) (A.deeper (callEnvC fd L f)) (execs body (callEnvC fd L f)) (fun fl s' => (∃ m' S' tr', FIn gB (og s) L m' S' tr' s' ∧ (∀ a o, Froz L foot s a o → S' a o)) ∧
        (Post gB (foot.map (·.1)) s s' → Q (match fl with | .ret v => v | _ => .none) s')) (fun _ _ => False) s₁)
    (hco : fd.scope.isCoroutine = false := by rfl) (hgen : fd.scope.isGenerator = false := by rfl) (hkd : fd.scope.kind = .function := by rfl) :
    wpAny (model prog w) A (call (.ref f) vals) Q E s := by
  refine wpAny_call (codeAny_call_cells (fd := fd) (body := body) (binds := binds) hroom (B.K W.wd _ _ hk) rfl (B.lim W.wd) (codeRec_of (B.K W.wd) hcd) hbody hbind hclo (hkind _) (fun s₁ x => ?_) hco hgen hkd)
  refine xa2_2 (x.done) fun hp tk e hkeep => ?_
  have hz : (s.heap.objs.size : Nat) ≤ s₁.heap.objs.size := Nat.le_of_lt x.toInCall.ns.lt
  have hk₁ : ∀ b o, s.heap.get? b = some o → s₁.heap.get? b = some o := fun b o q => by rw [e]; exact hkeep b o q
  have W₁ : Wd gB s₁.heap := W.wd.keeps hk₁ (Nat.le_trans W.wd.sz hz)
  have I : FIn gB (og s) s.heap.objs.size (bindL (callEnvC fd s.heap.objs.size f).kindOf binds fun _ => none) (Froz s.heap.objs.size foot s₁) foot s₁ :=
    ⟨W₁, x.toInCall.ns, W.wd.sz, fun a o h => h, fun p hp => ⟨hk₁ _ _ (hfoot p hp).1, Nat.ne_of_lt (Heap.lt_size (hfoot p hp).1), (hfoot p hp).2⟩, hnd, by rw [e]; exact W.bare, by rw [e]; exact OgOk.refl _⟩
  have hff : ∀ a o, Froz s.heap.objs.size foot s a o → Froz s.heap.objs.size foot s₁ a o := fun a o h => ⟨hk₁ _ _ h.1, h.2⟩
  refine wpAny_mono (h _ _ rfl I hff fun n c hc => ?_) (fun fl s' hq => ?_) fun _ _ x => x.elim
  · have hlt := x.above n c (mem_of_lookup hc)
    refine xa1_2 (x.cell n c hc) fun o ho hd => ?_
    have hlt' : (s.heap.objs.size : Nat) < c := hlt
    refine ⟨hlt', o, ⟨ho, (Nat.ne_of_lt hlt').symm, W₁.notTab (Nat.le_trans W.wd.sz (Nat.le_of_lt hlt')), fun hm => ?_⟩, hd⟩
    refine xa1_2 (List.mem_map.mp hm) fun p hp he1 => ?_
    obtain rfl := he1
    exact Nat.lt_asymm hlt' (Heap.lt_size (hfoot p hp).1)
  · refine xa0_2 (hq) fun hp2 hq => ?_
    refine xa3_2 (hp2) fun m' S' tr' I' hS => ?_
    exact hq ⟨I'.wd, fun b o e h1 h2 => (I'.st b o (hS b o ⟨e, Nat.ne_of_lt (Heap.lt_size e), h2, h1⟩)).1, Nat.le_of_lt I'.ns.lt, I'.bare, I'.os⟩
theorem call_cellsQ (B : Base w.params mg mb gB) (W : Pre gB s) {f : Addr} {oc : Value} {od : Option Addr} {osl : Array (Option Value)} {fd : FuncData} {body : List Stmt} {vals : List Value} {binds : List (Str × Value)} {Q : Value → Shared → Prop}
    (foot : List (Addr × Obj)) (hfoot : ∀ p ∈ foot, s.heap.get? p.1 = some p.2 ∧ gB.objs.size ≤ p.1) (hnd : (foot.map (·.1)).Nodup)
    (hk : (KH w.params).lookup f = some ⟨oc, od, .func fd, osl⟩) (hbody : fd.body = .stmts body) (hcd : codeIn (KH w.params) fd.code fd.qualname = true)
    (hroom : A.depth < recursionLimit) (hbind : bindArgs fd ⟨vals, []⟩ = pure binds) (hclo : fd.closure = [])
    (hkind : ∀ L : Addr, ∀ x ∈ binds, fd.scope.names.lookup x.1 = some .local ∨ (fd.scope.names.lookup x.1 = some .cell ∧ ((cellsFrom (L + 1) fd.scope.names []).lookup x.1).isSome = true))
    (h : ∀ (s₁ : Shared) (L : Addr) (Sf S1 : Addr → Obj → Prop) (qx : Flow → Shared → Prop) (O : Og) (A' : Around), Froz L foot s = Sf → L = s.heap.objs.size → og s = O → A.deeper (callEnvC fd L f) = A' → FIn gB O L (bindL (callEnvC fd L f).kindOf binds fun _ => none) S1 foot s₁ → (∀ a o, Sf a o → S1 a o) →
      (∀ n c, (cellsFrom (L + 1) fd.scope.names []).lookup n = some c → (L : Nat) < c ∧ ∃ o, S1 c o ∧ o.data = .cell (bindC (callEnvC fd L f).kindOf binds (fun _ => none) n)) →
      (∀ fl s', (∃ m' S' tr', FIn gB O L m' S' tr' s' ∧ (∀ a o, Sf a o → S' a o)) ∧ (Post gB (foot.map (·.1)) s s' → Q (match fl with | .ret v => v | _ => .none) s') → qx fl s') →
      wpAny (model prog w) A' (execs body (callEnvC fd L f)) qx (fun _ _ => False) s₁)
    (hco : fd.scope.isCoroutine = false := by rfl) (hgen : fd.scope.isGenerator = false := by rfl) (hkd : fd.scope.kind = .function := by rfl) :
    wpAny (model prog w) A (call (.ref f) vals) Q E s :=
  call_cells B W foot hfoot hnd hk hbody hcd hroom hbind hclo hkind (fun s₁ L hL I hold hcell => h s₁ L _ _ _ _ _ rfl hL rfl rfl I hold hcell fun _ _ x => x) hco hgen hkd
end
end Mine
end
section
open PySem PySem.W PySem.Calls PyProof.Rows
open Sem (wp)
namespace Mine
section
variable {prog : Program} {w : World} {gB : Heap} {O O' : Og} {L : Addr} {m : Str → Option Value} {S S' : Addr → Obj → Prop} {tr tr' : List (Addr × Obj)} {s : Shared} {A : Around} {E : Value → Shared → Prop} {env : Env} {mg mb : Str → Option Value}

theorem EdD.mono {od : Obj} {Ed : List (Int × Int)} (h : EdD prog w S od Ed) (hs : ∀ a o, S a o → S' a o) : EdD prog w S' od Ed :=
  let ⟨xs, h1, h2⟩ := h
  ⟨xs, h1.mono fun _ _ o q => hs _ o q, h2⟩
theorem EdD.cls {od : Obj} {Ed : List (Int × Int)} (h : EdD prog w S od Ed) : od.cls = .type "dict" := let ⟨_, h1, _⟩ := h; h1.1.1

theorem r_edgePut {dd a : Addr} {od : Obj} {idx : Nat} {x : Value} {Ed : List (Int × Int)} {e : Int × Int} {Q : Unit → Shared → Prop} (hu : A.units < cLine) (hi : tr[idx]? = some (dd, od)) (I : FIn gB O L m S tr s) (hD : EdD prog w S od Ed) (hk : TupS prog w S a [e.1, e.2]) (hn : e ∉ Ed) (hz : Ed.length ≤ 1000)
    (h : ∀ s' od', FIn gB O L m S (tr.set idx (dd, od')) s' → EdD prog w S od' (Ed ++ [e]) → Q () s') : wpAny (model prog w) A (dictSet dd (.ref a) x) Q E s := by
  refine xa1_2 (hD) fun xs hD hk2 => ?_
  have hl := congrArg List.length hk2
  simp only [List.length_map] at hl
  have hnone : atKey xs [e.1, e.2] = none := by
    cases q : atKey xs [e.1, e.2] with
    | none => rfl
    | some p =>
      exfalso
      refine xa1_2 (Option.map_eq_some_iff.mp q) fun x hx' _ => ?_
      have h1 := List.mem_of_find?_eq_some hx'
      have h2 : x.1 = [e.1, e.2] := by simpa using List.find?_some hx'
      have h3 : [e.1, e.2] ∈ Ed.map fun e => [e.1, e.2] := by rw [← hk2, ← h2]; exact List.mem_map_of_mem h1
      refine xa1_2 (List.mem_map.mp h3) fun e' he' he2 => ?_
      injection he2 with q1 q2
      injection q2 with q2 _
      exact hn (by rw [show e = e' from Prod.ext q1.symm q2.symm]; exact he')
  refine r_dictSetX I (fun _ _ q => q) hu hk hi hD (by exact oE ‹_› ‹_› (by exact rfl)) fun s' od' I' hD' => h s' od' I' ?_
  walk_at "q"
  rw [storedH_new hnone] at hD'
  exact ⟨_, hD', by rw [List.map_append, List.map_append, hk2]; rfl⟩
variable {G : GenSpec prog w gB} {d u : Nat}
theorem make199_gen {g : Nat} (hgs : s.gens[g]? = some (.fresh G.start)) (B : Base w.params mg mb gB) (K : G.Ok d u) {Ed : List (Int × Int)} (hEd : Small Ed) (zE : Ed.length ≤ 12) (nE : Ed.Nodup) {EN : Nat → Option (Int × Int)} (hEN : ∀ {j i : Nat} {e : Int × Int}, G.list[j]? = some i → EN i = some e → Ed[j]? = some e) (hlen : G.list.length = Ed.length)
    {io fo : Obj} {ga : Addr} {nm qn : Value} {m₀ : Str → Option Value} {Q : Value → Shared → Prop} (R : Room A 31 121) (hd : d ≤ 20) (hu : u ≤ 60)
    (I : FIn gB ⟨O.os, s.gens⟩ L m (And1 S ga (genObj g nm qn)) ((G.it, io) :: (G.C, fo) :: tr) s) (hns : s.heap.Ns G.C m₀) (hP : G.ItP (And1 S ga (genObj g nm qn)) 0 io) (hS : G.Src (And1 S ga (genObj g nm qn))) (hg0 : O.g[g]? = none) (hpre : ∀ (k : Nat) (x : GenState), O.g[k]? = some x → s.gens[k]? = some x)
    (hF : ∀ {i v S}, G.F i v S → ∃ a b x e, v = .ref a ∧ S a (tup [.ref b, x]) ∧ EN i = some e ∧ TupS prog w S b [e.1, e.2])
    (hQ : ∀ s' S' H es n oe ol or' og' ls, PostG gB [G.it, G.C] O s s' → s'.heap.get? H.x = some (instObj 199 H.dx) → s'.heap.get? H.dx = some (dictOf es n) → FldO es H.flds → GObs prog w gB S' H Ed oe ol or' og' ls → (H.x :: H.dx :: (gtr H oe ol or' og' ls).map (·.1)).Nodup →
      (∀ p ∈ gtr H oe ol or' og' ls, s'.heap.get? p.1 = some p.2) → (∀ a ∈ H.x :: H.dx :: (gtr H oe ol or' og' ls).map (·.1), gB.objs.size ≤ a ∧ s.heap.get? a = none) → (∀ a o, S' a o → s'.heap.get? a = some o ∧ a ∉ tabP ∧ a ∉ (H.x :: H.dx :: (gtr H oe ol or' og' ls).map (·.1)) ∧ o.cls = .type "tuple") → Q (.ref H.x) s') :
    wpAny (model prog w) A (call (.ref 199) [.ref ga]) Q E s := by
  have hne : G.it ≠ G.C := fun e => K.ne e.symm
  refine make199 (O := O) (O' := ⟨O.os, s.gens⟩) B (foot0 := [(G.it, io), (G.C, fo)]) hEd zE R I.pre I.os (by simp) ?_ (by simp [hne]) ?_ hQ
  · refine al2 ?_ ?_
    · refine xi0_2 (I.at (i := 0) rfl) (I.new (i := 0) rfl)
    · refine xi0_2 (I.at (i := 1) rfl) (I.new (i := 1) rfl)
  · intro dx A' L' m' S₁ s₁ Q' E' R' J hS₁ h
    have hup : ∀ a o, And1 S ga (genObj g nm qn) a o → S₁ a o := fun a o q => by
      refine xa0_4 (I.st a o q) fun q1 q2 q3 q4 => ?_
      refine hS₁ a o q1 q3 fun e => q4 ?_
      simp only [List.map_cons, List.map_nil, List.mem_cons, List.not_mem_nil, or_false] at e ⊢
      rcases e with e | e
      · exact .inl e
      · exact .inr (.inl e)
    have hup1 : ∀ a o, And1 S ga (genObj g nm qn) a o → And1 S₁ ga (genObj g nm qn) a o := fun a o q => .inl (hup a o q)
    have J1 : FIn gB ⟨O.os, s₁.gens⟩ L' m' (And1 S₁ ga (genObj g nm qn)) ((G.it, io) :: (G.C, fo) :: [(dx, dictOf [] 0)]) s₁ := by
      have J0 : FIn gB ⟨O.os, s.gens⟩ L' m' (And1 S₁ ga (genObj g nm qn)) ((dx, dictOf [] 0) :: [(G.it, io), (G.C, fo)]) s₁ := J.monoS fun a o q => by
        rcases q with q | ⟨rfl, rfl⟩
        · exact q
        · exact hup _ _ (.inr ⟨rfl, rfl⟩)
      have J0 := J0.perm (List.perm_append_singleton (dx, dictOf [] 0) [(G.it, io), (G.C, fo)]).symm
      exact ⟨J0.wd, J0.ns, J0.lL, J0.st, J0.tk, J0.nd, J0.bare, ⟨J0.os.1, fun _ _ q => q⟩⟩
    have hns' : s₁.heap.Ns G.C m₀ := by
      refine xa3_2 (hns) fun o es ep ho r => ?_
      rw [I.at (i := 1) rfl] at ho
      injection ho with ho
      subst ho
      refine xi3_2 _ es ep (J1.at (i := 1) rfl) r
    refine r_dict_genexp (J.os.2 _ _ hgs) B K (KV := fun i k x S => ∃ b e, k = .ref b ∧ EN i = some e ∧ TupS prog w S b [e.1, e.2]) (D := fun S j od => EdD prog w S od (Ed.take j)) (by
      refine ⟨R'.hh, ?_, ?_⟩
      · have := R'.dp; omega
      · have := R'.un; omega) J1 hns' (K.J.mono hup1 hP) (K.J.smono hup1 hS) hg0 (fun k x q => J.os.2 _ _ (hpre k x q)) ?_ ?_ (fun hs h => h.mono hs) (fun h => h.cls) ?_ ?_ ?_
    · intro i v S h
      refine xa4_4 (hF h) fun a b x e h1 h2 h3 h4 => ?_
      refine xi3_2 a (.ref b) x h1 ⟨h2 , b , e , rfl , h3 , h4⟩
    · exact nt1
    · exact emptyEd
    · intro dd A₂ O₂ S₂ tr₂ s₂ E₂ od j i idx k x Q₂ hu hi J₂ hD hl hkv hq
      refine xa2_3 (hkv) fun b e he1 he ht => ?_
      obtain rfl := he1
      have hej := hEN hl he
      refine r_edgePut (by exact oV ‹_›) hi J₂ hD ht ?_ (oT zE (by exact rfl)) fun s'' od'' J' hD' => hq s'' od'' J' (by rw [List.take_add_one, hej]; exact hD')
      intro hm
      obtain ⟨j', hj', e'⟩ := List.mem_take_iff_getElem.mp hm
      have hj'2 : j' < Ed.length := Nat.lt_of_lt_of_le (by simpa using hj') (Nat.min_le_right j _)
      have h1 : j < Ed.length := (List.getElem?_eq_some_iff.mp hej).1
      have hlt : j' < j := Nat.lt_of_lt_of_le (by simpa using hj') (Nat.min_le_left _ Ed.length)
      have h2 : Ed[j']? = some e := by rw [List.getElem?_eq_getElem hj'2]; exact congrArg some e'
      have hpw := List.pairwise_iff_getElem.mp nE j' j hj'2 h1 hlt
      exact hpw (e'.trans (List.getElem?_eq_some_iff.mp hej).2.symm)
    · intro a S' s' od ha hS' J' hD
      have hD' : EdD prog w S' od (Ed.take G.list.length) := hD
      rw [hlen, List.take_length] at hD'
      exact h a S' s' od (Nat.le_of_eq ha.symm) hS' J' hD'
end
end Mine
end
section
open PySem PySem.W PySem.Calls PyProof.Rows
open Sem (wp)
namespace Mine
section
variable {prog : Program} {w : World} {gB : Heap} {O O' : Og} {L : Addr} {m : Str → Option Value} {S S' : Addr → Obj → Prop} {tr tr' : List (Addr × Obj)} {s : Shared} {A : Around} {E : Value → Shared → Prop} {env : Env} {mg mb : Str → Option Value}

theorem r_free {M : Model} {x : Str} {pos : PySem.Pos} {v : Value} {c : Addr} {o : Obj} {Q : Value → Shared → Prop} (I : FIn gB O L m S tr s) (hc : env.cells.lookup x = some c) (hS : S c o) (hd : o.data = .cell (some v)) (h : Q v s)
    (hk : env.scope.kind = .function := by rfl) (hl : env.kindOf x = some .free := by rfl) (hn : (x == ("__classdict__" : Str)) = false := by decide) (hd' : (x == ("__debug__" : Str)) = false := by decide) :
    wpAny M A (eval (.Name x pos) env) Q E s := wpAny_Name (wpAny_loadName_free hk hl hc ⟨o, I.get hS, hd⟩ h hn) hd'

theorem r_pairNe {a b : Addr} {oa ob : Obj} {x y x' y' : Int} {tx ty tx' ty' : Tok} {n n' : Nat} {Q : Value → Shared → Prop} (hu : A.units < cLine) (ha : s.heap.get? a = some oa) (hac : oa.cls = .type "tuple") (had : oa.data = .seq #[.int x tx, .int y ty] n) (hb : s.heap.get? b = some ob) (hbc : ob.cls = .type "tuple") (hbd : ob.data = .seq #[.int x' tx', .int y' ty'] n')
    (h : Q (.bool (decide ((x, y) ≠ (x', y')))) s) : wpAny (model prog w) A (compareOp .NotEq (.ref a) (.ref b)) Q E s := by
  have hl : s.heap.IsTuple a #[.int x tx, .int y ty] := ⟨oa, ha, hac, n, had⟩
  have hr : s.heap.IsTuple b #[.int x' tx', .int y' ty'] := ⟨ob, hb, hbc, n', hbd⟩
  refine SeqAt.RcNeAt.tuples (e := fun j => if j = 0 then x == x' else y == y') hl hr hu ?_ prog w E Q ?_
  · intro j h1 h2
    match j, h1 with
    | 0, _ => exact SeqAt.EqAt.int_int x tx x' tx'
    | 1, _ => exact SeqAt.EqAt.int_int y ty y' ty'
    | j + 2, h1 => exact absurd h1 (by show ¬ j + 2 < 2; omega)
  · have e : (!((List.range (min (#[Value.int x tx, Value.int y ty] : Array Value).size (#[Value.int x' tx', Value.int y' ty'] : Array Value).size)).all (fun j => if j = 0 then x == x' else y == y') && (#[Value.int x tx, Value.int y ty] : Array Value).size == (#[Value.int x' tx', Value.int y' ty'] : Array Value).size)) = decide ((x, y) ≠ (x', y')) := by
      show (!((List.range 2).all (fun j => if j = 0 then x == x' else y == y') && true)) = _
      have : List.range 2 = [0, 1] := rfl
      rw [this]
      by_cases h1 : x = x' <;> by_cases h2 : y = y' <;> simp [h1, h2]
    rw [e]; exact h
end
end Mine
end
section
open PySem PySem.W PySem.Calls PyProof.Rows
open Sem (wp)
namespace Mine
set_option linter.unusedSectionVars false
theorem gBG (P : Params) : nsIn (KH P) mainGlobals "BipartiteGraph" = some (some (.ref 199)) := by kernel_rfl
theorem kBG (P : Params) : keepIn (KH P) (.ref 199) = true := by kernel_rfl
noncomputable abbrev envC (f L : Addr) : Env := callEnvC (fnAt f) L f
theorem cs189 (L : Addr) : (envC 189 L).cells = [(("edge" : Str), L + 1)] := by kernel_rfl
section
variable {prog : Program} {w : World} {S : Addr → Obj → Prop} {gB : Heap} {mg mb : Str → Option Value}

theorem pass_filter {Ed : List (Int × Int)} {e : Int × Int} {n : Nat} (h : n = Ed.length) : (passing (fun i => decide (Ed[i]? ≠ some e)) n 0).map (fun i => Ed[i]?) = (Ed.filter (· ≠ e)).map some := by
  subst h
  unfold passing
  rw [List.drop_zero]
  have h1 : (List.range Ed.length).map (fun i => Ed[i]?) = Ed.map some := by
    refine List.ext_getElem (by simp) fun i q1 q2 => ?_
    simp only [List.length_map, List.length_range] at q1
    simp [q1]
  have h2 : ((List.range Ed.length).filter (fun i => decide (Ed[i]? ≠ some e))).map (fun i => Ed[i]?) = ((List.range Ed.length).map (fun i => Ed[i]?)).filter (fun x => decide (x ≠ some e)) := by
    rw [List.filter_map]; rfl
  rw [h2, h1, List.filter_map]
  congr 1
  refine List.filter_congr fun x _ => ?_
  walk_at "q"
  simp
theorem pass_filter_len {Ed : List (Int × Int)} {e : Int × Int} {n : Nat} (h : n = Ed.length) : (passing (fun i => decide (Ed[i]? ≠ some e)) n 0).length = (Ed.filter (· ≠ e)).length := by
  have := congrArg List.length (pass_filter (e := e) h)
  simpa using this
theorem pass_filter_at {Ed : List (Int × Int)} {e e' : Int × Int} {n j i : Nat} (h1 : (passing (fun i => decide (Ed[i]? ≠ some e)) n 0)[j]? = some i) (h2 : Ed[i]? = some e') (h : n = Ed.length) : (Ed.filter (· ≠ e))[j]? = some e' := by
  have := congrArg (·[j]?) (pass_filter (e := e) h)
  simp only [List.getElem?_map, h1, Option.map_some, h2] at this
  cases q : (Ed.filter (· ≠ e))[j]? with
  | none => rw [q] at this; cases this
  | some y => rw [q] at this; simp only [Option.map_some, Option.some.injEq] at this; rw [this]

theorem woe_spec (B : Base w.params mg mb gB) {H : GA} {es : List DictEntry} {nn : Nat} {oed : Obj} {Ed : List (Int × Int)} (hx : ∃ sl, S H.x ⟨.ref 199, some H.dx, .plain, sl⟩) (hdx : S H.dx (dictOf es nn)) (hf : FldO es H.flds) (hed : S H.ed oed) (hE : EdD prog w S oed Ed) (ned : gB.objs.size ≤ H.ed)
    (hEd : Small Ed) (zE : Ed.length ≤ 12) (nE : Ed.Nodup) {t : Addr} {e : Int × Int} (ht : TupS prog w S t [e.1, e.2])
    {A : Around} {s : Shared} {Q : Value → Shared → Prop} {E : Value → Shared → Prop} (R : Room A 33 140) (W : Pre gB s) (hS : ∀ a o, S a o → s.heap.get? a = some o ∧ a ∉ tabP)
    (hQ : ∀ s' S' H' es n oe ol or' og' ls, Post gB [] s s' → s'.heap.get? H'.x = some (instObj 199 H'.dx) → s'.heap.get? H'.dx = some (dictOf es n) → FldO es H'.flds → GObs prog w gB S' H' (Ed.filter (· ≠ e)) oe ol or' og' ls → (H'.x :: H'.dx :: (gtr H' oe ol or' og' ls).map (·.1)).Nodup →
      (∀ p ∈ gtr H' oe ol or' og' ls, s'.heap.get? p.1 = some p.2) → (∀ a ∈ H'.x :: H'.dx :: (gtr H' oe ol or' og' ls).map (·.1), gB.objs.size ≤ a ∧ s.heap.get? a = none) → (∀ a o, S' a o → s'.heap.get? a = some o ∧ a ∉ tabP ∧ a ∉ (H'.x :: H'.dx :: (gtr H' oe ol or' og' ls).map (·.1)) ∧ o.cls = .type "tuple") → Q (.ref H'.x) s') :
    wpAny (model prog w) A (call (.ref 189) [.ref H.x, .ref t]) Q E s := by
  have D := at189 w.params
  refine call_cellsQ B W (f := 189) (fd := fnAt 189) (body := bodyAt 189) (binds := [("self", .ref H.x), ("edge", .ref t)]) [] (fun _ h => nomatch h) List.nodup_nil D.k D.b D.c R.depth (by kernel_rfl) (by kernel_rfl) ?_ (fun s₁ L Sf S1 qx O A' hSf hL hO hA I hold hcell hqx => ?_) D.co D.gen D.kd
  · intro L
    refine al2 ?_ ?_
    · left; kernel_rfl
    · right; constructor <;> kernel_rfl
  have hF : ∀ a o, S a o → S1 a o := fun a o h => hold a o (hSf ▸ Froz.of hL (hS a o h).1 (hS a o h).2 (by simp))
  obtain ⟨hcl, oc, hoc, hod⟩ := hcell "edge" (L + 1) (by kernel_rfl)
  have hod' : oc.data = .cell (some (.ref t)) := hod.trans (by kernel_rfl)
  refine xa1_1 (hx) fun sl hx => ?_
  have R' : Room A' (32) (137) := hA ▸ R.deeper (d := 32) (u := 137) (envC 189 L)
  refine xa1_2 (hE) fun xsE hDE hkE => ?_
  obtain ⟨hEx, esE, epE, hdatE, hentE, htupE, hndE⟩ := id hDE
  refine wpAny_execs_cons (wpAny_Return_some (PyProof.Rows.Call_ (r_glob B I (gBG _) ?_) rfl))
  refine callWith_K B.X (kBG _) (args_cons (r_genexp (gB := gB) (L := L) B R'.depth (c := 188) (P := 184) (cl := [("edge", L + 1)]) (by kernel_rfl) (by decide) rfl rfl (by kernel_rfl) (by decide) rfl rfl ?_ (fun _ => rfl)))
  refine MethodCall_ (Attribute_Name_ (r_loc I (by kernel_rfl) (r_attr B I (I.get (hF _ _ hx)) (I.get (hF _ _ hdx)) hf (v := .ref H.ed) rfl rfl (f199_edges _) fun s₂ I _ => ?_))) (eval_callm rfl rfl rfl)
  refine getMethod_builtin ⟨_, I.get (hF _ _ hed), hEx.1⟩ PySem.F.plainAttrs_dict PySem.F.slot_dict_items PySem.F.type_dict_items (fun a e => ⟨_, by cases e; exact I.get (hF _ _ hed), hEx.2.1⟩) ?_
  refine callWith_method0 (r_items I (I.get (hF _ _ hed)) hEx.1 ned fun v s₃ hv I => ?_)
  walk_at "q"
  replace I := I.settle
  refine iter_items I (I.get (.inr ⟨rfl, rfl⟩)) (I.get (.inl (hF _ _ hed))) hdatE fun it s₄ hit I => ?_
  walk_at "q"
  refine xi6_3 it _ _ _ _ _ rfl I (fun code C ga g fo s₅ nm qn I hgs hns hg0 hpre => args_nil ⟨B.K I.wd, ?_⟩)
  have hszE : esE.size = Ed.length := by
    have h1 := size_of_entries hentE
    have h2 := congrArg List.length hkE
    simp only [List.length_map] at h2
    omega
  refine make199_gen (O := O) (hgs esE.size (fun S k v => ∃ a, v = .ref a ∧ S a (tup [(esE[k]?.map (·.key)).getD .none, (esE[k]?.map (·.val)).getD .none])) (IIt H.ed esE.size epE) (fun S => RawD S H.ed esE epE ∧ ∀ a o, S1 a o → S a o) (fun i => decide (Ed[i]? ≠ some e))
    (fun i v S => ∃ a b x e', v = .ref a ∧ S a (tup [.ref b, x]) ∧ Ed[i]? = some e' ∧ TupS prog w S b [e'.1, e'.2])) (d := 0) (u := 30) B
    { J := (itemsItr (prog := prog) (w := w) (gB := gB) (d := H.ed) (it := it) (es := esE) (ep := epE)).more (fun h => h.1) (fun hs h => ⟨h.1.mono hs, fun a o q => hs _ _ (h.2 a o q)⟩)
      fmono := fun hs ⟨a, b, x, e', h1, h2, h3, h4⟩ => ⟨a, b, x, e', h1, hs _ _ h2, h3, h4.mono hs⟩
      loc := rfl
      ne := by
        exact fun e => (List.nodup_cons.mp I.nd).1 (List.mem_singleton.mpr e.symm)
      co := rfl
      body := ?body } (Ed := Ed.filter (· ≠ e)) ?sm (Nat.le_trans (List.length_filter_le ..) zE) (nE.filter _) (EN := fun i => Ed[i]?) ?en ?ln R'.mono (by decide) (by decide) I hns ?hP ?hS hg0 hpre (fun h => h) ?fin
  case sm => exact fun e' h => hEd e' (List.mem_filter.mp h).1
  case en => exact fun {j i e'} h1 h2 => pass_filter_at h1 h2 hszE
  case ln => exact pass_filter_len hszE
  case hP => exact ⟨_, _, _, _, rfl, .inl rfl⟩
  case hS => exact ⟨⟨oed, .inl (.inl (hF _ _ hed)), hEx.1, hdatE⟩, fun a o q => .inl (.inl q)⟩
  case fin =>
    intro s' S' H' es' n' oe' ol' or' og' ls' P h1 h2 h3 h4 h5 h6 h7 h8
    refine xa0_2 ((I.reO (O := O) rfl hpre).postG P (OgLe.refl _) (by simp) (tr' := []) (fun _ h => nomatch h) List.nodup_nil) fun I' hI' => ?_
    refine hqx _ _ ⟨⟨_, _, _, I', fun a o q => hI' a o (.inl (.inl (hold a o q))) (by simp)⟩, fun P' => ?_⟩
    refine hQ s' S' H' es' n' oe' ol' or' og' ls' P' h1 h2 h3 h4 h5 h6 (fun a ha => ⟨(h7 a ha).1, ?_⟩) h8
    cases q : s.heap.get? a with
    | none => rfl
    | some o =>
      have := (I.st a o (.inl (.inl (hold a o (hSf ▸ Froz.of hL q (W.wd.notTab (h7 a ha).1) (by simp)))))).1
      rw [(h7 a ha).2] at this; cases this
  case body =>
    intro A' O' m' S' s' E' io' i v RB hi J hp1 hp2
    dsimp only at J ⊢
    refine xa0_2 (hp1) fun hraw hS1 => ?_
    refine xa1_2 (hp2) fun a he3 ha => ?_
    obtain rfl := he3
    obtain ⟨x, hxk⟩ : ∃ x, xsE[i]? = some x := ⟨xsE[i]'(by rw [← size_of_entries hentE]; exact hi), List.getElem?_eq_getElem _⟩
    obtain ⟨e', hek⟩ : ∃ e', Ed[i]? = some e' := ⟨Ed[i]'(by rw [← hszE]; exact hi), List.getElem?_eq_getElem _⟩
    have hx1 : x.1 = [e'.1, e'.2] := by
      have h1 : (xsE.map (·.1))[i]? = some x.1 := by rw [List.getElem?_map, hxk]; rfl
      rw [hkE, List.getElem?_map, hek] at h1
      simpa using h1.symm
    have hk1 : (esE[i]?.map (·.key)).getD .none = .ref x.2.1 := by rw [entry_at hentE i, hxk]; rfl
    rw [hk1] at ha
    refine xa1_2 (htupE x (List.mem_of_getElem? hxk)) fun ot hot1 hot2 => ?_
    have hot2' := hot2
    rw [hx1] at hot2
    refine xa3_2 (hot2.pair) fun ta tb nt hotc hotd => ?_
    refine xa1_2 (ht) fun oe hoe1 hoe2 => ?_
    refine xa3_2 (hoe2.pair) fun ta' tb' nt' hoc' hod'' => ?_
    refine r_unpack2 RB.hh J (J.get ha) rfl rfl fun s₁ J => ?_
    walk_at "q"
    refine wpAny_assign_Name (r_st J fun s₂ J => wpAny_assign_Name (r_st J fun s₃ J => tests1 (wpAny_isTrue_Compare1 ?_)))
    walk_at "q"
    refine r_free J (c := L + 1) rfl (hS1 _ _ hoc) hod' (r_loc J rfl ?_)
    walk_at "q"
    refine r_pairNe (by have := RB.un; exact oV ‹_›) (J.get (hS1 _ _ (hF _ _ hoe1))) hoc' hod'' (J.get (hS1 _ _ (hF _ _ hot1))) hotc hotd (wpAny_truthy_bool ?_)
    walk_at "q"
    refine xi0_3 ?_ ?_ (fun _ => ?_)
    · show decide ((e.1, e.2) ≠ (e'.1, e'.2)) = decide (Ed[i]? ≠ some e)
      rw [hek]
      refine decide_eq_decide.mpr ⟨fun h q => h (by injection q with q; rw [q]), fun h q => h (by rw [show e' = e from Prod.ext (congrArg Prod.fst q).symm (congrArg Prod.snd q).symm])⟩
    · exact fun _ => ⟨_, _, J, fun _ _ q => q⟩
    · refine Tuple_ (args_cons (r_loc J rfl (args_cons (r_loc J rfl (args_nil (r_newtup J fun b s₄ hb J => ?_))))))
      walk_at "q"
      exact ⟨_, _, J, fun a o q => .inl q, b, x.2.1, _, e', rfl, ⟨.inr ⟨rfl, rfl⟩, rfl, _, _, rfl⟩, hek, ot, ⟨.inl (hS1 _ _ (hF _ _ hot1)), hotc, _, _, hotd⟩, hx1 ▸ hot2'⟩
end
end Mine
end
section
open PySem PySem.W PySem.Calls PyProof.Rows
open Sem (wp)
namespace Mine
set_option linter.unusedSectionVars false
theorem passP {Ed : List (Int × Int)} (p : Int × Int → Bool) {n : Nat} (h : n = Ed.length) : (passing (fun i => (Ed[i]?.map p).getD false) n 0).map (fun i => Ed[i]?) = (Ed.filter p).map some := by
  subst h
  unfold passing
  rw [List.drop_zero]
  have h1 : (List.range Ed.length).map (fun i => Ed[i]?) = Ed.map some := by
    refine List.ext_getElem (by simp) fun i q1 q2 => ?_
    simp only [List.length_map, List.length_range] at q1
    simp [q1]
  have h2 : ((List.range Ed.length).filter (fun i => (Ed[i]?.map p).getD false)).map (fun i => Ed[i]?) = ((List.range Ed.length).map (fun i => Ed[i]?)).filter (fun x => (x.map p).getD false) := by
    rw [List.filter_map]; rfl
  rw [h2, h1, List.filter_map]
  congr 1
theorem passP_len {Ed : List (Int × Int)} (p : Int × Int → Bool) {n : Nat} (h : n = Ed.length) : (passing (fun i => (Ed[i]?.map p).getD false) n 0).length = (Ed.filter p).length := by
  have := congrArg List.length (passP p h)
  simpa using this
theorem passP_at {Ed : List (Int × Int)} (p : Int × Int → Bool) {e' : Int × Int} {n j i : Nat} (h1 : (passing (fun i => (Ed[i]?.map p).getD false) n 0)[j]? = some i) (h2 : Ed[i]? = some e') (h : n = Ed.length) : (Ed.filter p)[j]? = some e' := by
  have := congrArg (·[j]?) (passP p h)
  simp only [List.getElem?_map, h1, Option.map_some, h2] at this
  cases q : (Ed.filter p)[j]? with
  | none => rw [q] at this; cases this
  | some y => rw [q] at this; simp only [Option.map_some, Option.some.injEq] at this; rw [this]

end Mine
end
section
open PySem PySem.W PySem.Calls PyProof.Rows
open Sem (wp)
namespace Mine
section
variable {prog : Program} {w : World} {S : Addr → Obj → Prop} {gB : Heap} {mg mb : Str → Option Value}

theorem won_spec (B : Base w.params mg mb gB) {H : GA} {es : List DictEntry} {nn : Nat} {oed : Obj} {Ed : List (Int × Int)} (hx : ∃ sl, S H.x ⟨.ref 199, some H.dx, .plain, sl⟩) (hdx : S H.dx (dictOf es nn)) (hf : FldO es H.flds) (hed : S H.ed oed) (hE : EdD prog w S oed Ed) (ned : gB.objs.size ≤ H.ed)
    (hEd : Small Ed) (zE : Ed.length ≤ 12) (nE : Ed.Nodup) {t : Addr} {e : Int × Int} (ht : TupS prog w S t [e.1, e.2])
    {A : Around} {s : Shared} {Q : Value → Shared → Prop} {E : Value → Shared → Prop} (R : Room A 33 140) (W : Pre gB s) (hS : ∀ a o, S a o → s.heap.get? a = some o ∧ a ∉ tabP)
    (hQ : ∀ s' S' H' es n oe ol or' og' ls, Post gB [] s s' → s'.heap.get? H'.x = some (instObj 199 H'.dx) → s'.heap.get? H'.dx = some (dictOf es n) → FldO es H'.flds → GObs prog w gB S' H' (Ed.filter fun x => decide (x.1 ≠ e.1) && decide (x.2 ≠ e.2)) oe ol or' og' ls → (H'.x :: H'.dx :: (gtr H' oe ol or' og' ls).map (·.1)).Nodup →
      (∀ p ∈ gtr H' oe ol or' og' ls, s'.heap.get? p.1 = some p.2) → (∀ a ∈ H'.x :: H'.dx :: (gtr H' oe ol or' og' ls).map (·.1), gB.objs.size ≤ a ∧ s.heap.get? a = none) → (∀ a o, S' a o → s'.heap.get? a = some o ∧ a ∉ tabP ∧ a ∉ (H'.x :: H'.dx :: (gtr H' oe ol or' og' ls).map (·.1)) ∧ o.cls = .type "tuple") → Q (.ref H'.x) s') :
    wpAny (model prog w) A (call (.ref 182) [.ref H.x, .ref t]) Q E s := by
  have D := at182 w.params
  refine call_cellsQ B W (f := 182) (fd := fnAt 182) (body := bodyAt 182) (binds := [("self", .ref H.x), ("edge", .ref t)]) [] (fun _ h => nomatch h) List.nodup_nil D.k D.b D.c R.depth (by kernel_rfl) (by kernel_rfl) ?_ (fun s₁ L Sf S1 qx O A' hSf hL hO hA I hold hcell hqx => ?_) D.co D.gen D.kd
  · intro L
    refine al2 ?_ ?_
    · left; kernel_rfl
    · right; constructor <;> kernel_rfl
  have hF : ∀ a o, S a o → S1 a o := fun a o h => hold a o (hSf ▸ Froz.of hL (hS a o h).1 (hS a o h).2 (by simp))
  obtain ⟨hcl, oc, hoc, hod⟩ := hcell "edge" (L + 1) (by kernel_rfl)
  have hod' : oc.data = .cell (some (.ref t)) := hod.trans (by kernel_rfl)
  refine xa1_1 (hx) fun sl hx => ?_
  have R' : Room A' (32) (137) := hA ▸ R.deeper (d := 32) (u := 137) (envC 182 L)
  refine xa1_2 (hE) fun xsE hDE hkE => ?_
  obtain ⟨hEx, esE, epE, hdatE, hentE, htupE, hndE⟩ := id hDE
  refine wpAny_execs_cons (wpAny_Return_some (PyProof.Rows.Call_ (r_glob B I (gBG _) ?_) rfl))
  refine callWith_K B.X (kBG _) (args_cons (r_genexp (gB := gB) (L := L) B R'.depth (c := 181) (P := 177) (cl := [("edge", L + 1)]) (by kernel_rfl) (by decide) rfl rfl (by kernel_rfl) (by decide) rfl rfl ?_ (fun _ => rfl)))
  refine MethodCall_ (Attribute_Name_ (r_loc I (by kernel_rfl) (r_attr B I (I.get (hF _ _ hx)) (I.get (hF _ _ hdx)) hf (v := .ref H.ed) rfl rfl (f199_edges _) fun s₂ I _ => ?_))) (eval_callm rfl rfl rfl)
  refine getMethod_builtin ⟨_, I.get (hF _ _ hed), hEx.1⟩ PySem.F.plainAttrs_dict PySem.F.slot_dict_items PySem.F.type_dict_items (fun a e => ⟨_, by cases e; exact I.get (hF _ _ hed), hEx.2.1⟩) ?_
  refine callWith_method0 (r_items I (I.get (hF _ _ hed)) hEx.1 ned fun v s₃ hv I => ?_)
  walk_at "q"
  replace I := I.settle
  refine iter_items I (I.get (.inr ⟨rfl, rfl⟩)) (I.get (.inl (hF _ _ hed))) hdatE fun it s₄ hit I => ?_
  walk_at "q"
  refine xi6_3 it _ _ _ _ _ rfl I (fun code C ga g fo s₅ nm qn I hgs hns hg0 hpre => args_nil ⟨B.K I.wd, ?_⟩)
  have hszE : esE.size = Ed.length := by
    have h1 := size_of_entries hentE
    have h2 := congrArg List.length hkE
    simp only [List.length_map] at h2
    omega
  refine make199_gen (O := O) (hgs esE.size (fun S k v => ∃ a, v = .ref a ∧ S a (tup [(esE[k]?.map (·.key)).getD .none, (esE[k]?.map (·.val)).getD .none])) (IIt H.ed esE.size epE) (fun S => RawD S H.ed esE epE ∧ ∀ a o, S1 a o → S a o) (fun i => (Ed[i]?.map fun x => decide (x.1 ≠ e.1) && decide (x.2 ≠ e.2)).getD false)
    (fun i v S => ∃ a b x e', v = .ref a ∧ S a (tup [.ref b, x]) ∧ Ed[i]? = some e' ∧ TupS prog w S b [e'.1, e'.2])) (d := 0) (u := 30) B
    { J := (itemsItr (prog := prog) (w := w) (gB := gB) (d := H.ed) (it := it) (es := esE) (ep := epE)).more (fun h => h.1) (fun hs h => ⟨h.1.mono hs, fun a o q => hs _ _ (h.2 a o q)⟩)
      fmono := fun hs ⟨a, b, x, e', h1, h2, h3, h4⟩ => ⟨a, b, x, e', h1, hs _ _ h2, h3, h4.mono hs⟩
      loc := rfl
      ne := by
        exact fun e => (List.nodup_cons.mp I.nd).1 (List.mem_singleton.mpr e.symm)
      co := rfl
      body := ?body } (Ed := Ed.filter fun x => decide (x.1 ≠ e.1) && decide (x.2 ≠ e.2)) ?sm (Nat.le_trans (List.length_filter_le ..) zE) (nE.filter _) (EN := fun i => Ed[i]?) ?en ?ln R'.mono (by decide) (by decide) I hns ?hP ?hS hg0 hpre (fun h => h) ?fin
  case sm => exact fun e' h => hEd e' (List.mem_filter.mp h).1
  case en => exact fun {j i e'} h1 h2 => passP_at _ h1 h2 hszE
  case ln => exact passP_len _ hszE
  case hP => exact ⟨_, _, _, _, rfl, .inl rfl⟩
  case hS => exact ⟨⟨oed, .inl (.inl (hF _ _ hed)), hEx.1, hdatE⟩, fun a o q => .inl (.inl q)⟩
  case fin =>
    intro s' S' H' es' n' oe' ol' or' og' ls' P h1 h2 h3 h4 h5 h6 h7 h8
    refine xa0_2 ((I.reO (O := O) rfl hpre).postG P (OgLe.refl _) (by simp) (tr' := []) (fun _ h => nomatch h) List.nodup_nil) fun I' hI' => ?_
    refine hqx _ _ ⟨⟨_, _, _, I', fun a o q => hI' a o (.inl (.inl (hold a o q))) (by simp)⟩, fun P' => ?_⟩
    refine hQ s' S' H' es' n' oe' ol' or' og' ls' P' h1 h2 h3 h4 h5 h6 (fun a ha => ⟨(h7 a ha).1, ?_⟩) h8
    cases q : s.heap.get? a with
    | none => rfl
    | some o =>
      have := (I.st a o (.inl (.inl (hold a o (hSf ▸ Froz.of hL q (W.wd.notTab (h7 a ha).1) (by simp)))))).1
      rw [(h7 a ha).2] at this; cases this
  case body =>
    intro A' O' m' S' s' E' io' i v RB hi J hp1 hp2
    dsimp only at J ⊢
    refine xa0_2 (hp1) fun hraw hS1 => ?_
    refine xa1_2 (hp2) fun a he3 ha => ?_
    obtain rfl := he3
    obtain ⟨x, hxk⟩ : ∃ x, xsE[i]? = some x := ⟨xsE[i]'(by rw [← size_of_entries hentE]; exact hi), List.getElem?_eq_getElem _⟩
    obtain ⟨e', hek⟩ : ∃ e', Ed[i]? = some e' := ⟨Ed[i]'(by rw [← hszE]; exact hi), List.getElem?_eq_getElem _⟩
    have hx1 : x.1 = [e'.1, e'.2] := by
      have h1 : (xsE.map (·.1))[i]? = some x.1 := by rw [List.getElem?_map, hxk]; rfl
      rw [hkE, List.getElem?_map, hek] at h1
      simpa using h1.symm
    have hk1 : (esE[i]?.map (·.key)).getD .none = .ref x.2.1 := by rw [entry_at hentE i, hxk]; rfl
    rw [hk1] at ha
    refine xa1_2 (htupE x (List.mem_of_getElem? hxk)) fun ot hot1 hot2 => ?_
    have hot2' := hot2
    rw [hx1] at hot2
    refine xa3_2 (hot2.pair) fun ta tb nt hotc hotd => ?_
    refine xa1_2 (ht) fun oe hoe1 hoe2 => ?_
    refine xa3_2 (hoe2.pair) fun ta' tb' nt' hoc' hod'' => ?_
    refine r_unpack2 RB.hh J (J.get ha) rfl rfl fun s₁ J => ?_
    walk_at "q"
    refine r_unpack2 RB.hh J (J.get (hS1 _ _ (hF _ _ hot1))) hotc hotd fun s₂ J => ?_
    walk_at "q"
    refine wpAny_assign_Name (r_st J fun s₃ J => wpAny_assign_Name (r_st J fun s₄ J => wpAny_assign_Name (r_st J fun s₅ J => tests1 (wpAny_isTrue_BoolOp (wpAny_allTrue_And_cons (wpAny_isTrue_Compare1 ?_))))))
    walk_at "q"
    refine r_loc J rfl (PyProof.Rows.Subscript_ (r_free J (c := L + 1) rfl (hS1 _ _ hoc) hod' (wpAny_Constant_int ?_)))
    walk_at "q"
    replace J := J.toks (s₅.toks + 1)
    refine r_pair0 (J.get (hS1 _ _ (hF _ _ hoe1))) hoc' hod'' (PyProof.Rows.ne_int (wpAny_truthy_bool ?_))
    walk_at "q"
    have hpz : ((Ed[i]?.map fun x => decide (x.1 ≠ e.1) && decide (x.2 ≠ e.2)).getD false) = (decide (e'.1 ≠ e.1) && decide (e'.2 ≠ e.2)) := by rw [hek]; rfl
    by_cases h1 : e'.1 = e.1
    · first | refine ifF (by simp [h1]) ?_ | refine wifF (by simp [h1]) ?_ | rw [if_neg (by simp [h1])]
      refine xi0_3 ?_ (fun _ => ⟨_, _, J, fun _ _ q => q⟩) (fun hh => ?_)
      · show _ = ((Ed[i]?.map fun x => decide (x.1 ≠ e.1) && decide (x.2 ≠ e.2)).getD false)
        rw [hpz]; simp [h1]
      · simp [h1] at hh
    · first | refine ifT (by simp [h1]) ?_ | refine wifT (by simp [h1]) ?_ | rw [if_pos (by simp [h1])]
      refine wpAny_allTrue_And_cons (wpAny_isTrue_Compare1 ?_)
      walk_at "q"
      refine r_loc J rfl (PyProof.Rows.Subscript_ (r_free J (c := L + 1) rfl (hS1 _ _ hoc) hod' (wpAny_Constant_int ?_)))
      walk_at "q"
      replace J := J.toks (s₅.toks + 1 + 1)
      refine r_pair1 (J.get (hS1 _ _ (hF _ _ hoe1))) hoc' hod'' (PyProof.Rows.ne_int (wpAny_truthy_bool ?_))
      walk_at "q"
      by_cases h2 : e'.2 = e.2
      · first | refine ifF (by simp [h2]) ?_ | refine wifF (by simp [h2]) ?_ | rw [if_neg (by simp [h2])]
        refine xi0_3 ?_ (fun _ => ⟨_, _, J, fun _ _ q => q⟩) (fun hh => ?_)
        · show _ = ((Ed[i]?.map fun x => decide (x.1 ≠ e.1) && decide (x.2 ≠ e.2)).getD false)
          rw [hpz]; simp [h2]
        · simp [h2] at hh
      · first | refine ifT (by simp [h2]) ?_ | refine wifT (by simp [h2]) ?_ | rw [if_pos (by simp [h2])]
        refine wpAny_allTrue_And_nil ?_
        refine xi0_3 ?_ (fun hh => (nomatch hh)) (fun _ => ?_)
        · show _ = ((Ed[i]?.map fun x => decide (x.1 ≠ e.1) && decide (x.2 ≠ e.2)).getD false)
          rw [hpz]; simp [h1, h2]
        · refine Tuple_ (args_cons (Tuple_ (args_cons (r_loc J rfl (args_cons (r_loc J rfl (args_nil (r_newtup J fun b s₆ hb J => ?_))))))))
          walk_at "q"
          refine args_cons (r_loc J rfl (args_nil (r_newtup J fun b2 s₇ hb2 J => ?_)))
          walk_at "q"
          exact ⟨_, _, J, fun a o q => .inl (.inl q), b2, b, _, e', rfl, ⟨.inr ⟨rfl, rfl⟩, rfl, _, _, rfl⟩, hek, _, ⟨.inl (.inr ⟨rfl, rfl⟩), rfl, _, _, rfl⟩, TupO.of⟩
end
end Mine
end
section
open PySem PySem.W PySem.Calls PyProof.Rows
open Sem (wp)
namespace Mine
section
variable {prog : Program} {w : World} {S : Addr → Obj → Prop} {gB : Heap} {mg mb : Str → Option Value}

theorem lim_spec (B : Base w.params mg mb gB) {H : GA} {es : List DictEntry} {nn : Nat} {oed : Obj} {Ed : List (Int × Int)} (hx : ∃ sl, S H.x ⟨.ref 199, some H.dx, .plain, sl⟩) (hdx : S H.dx (dictOf es nn)) (hf : FldO es H.flds) (hed : S H.ed oed) (hE : EdD prog w S oed Ed) (ned : gB.objs.size ≤ H.ed)
    (hEd : Small Ed) (zE : Ed.length ≤ 12) (nE : Ed.Nodup) {lf rt : Addr} {ol or' : Obj} {K1 K2 : Int → Bool} {n1 n2 : Nat} (hlf : S lf ol) (hrt : S rt or') (hK1 : SetO prog w ol K1 n1) (hK2 : SetO prog w or' K2 n2)
    {A : Around} {s : Shared} {Q : Value → Shared → Prop} {E : Value → Shared → Prop} (R : Room A 33 140) (W : Pre gB s) (hS : ∀ a o, S a o → s.heap.get? a = some o ∧ a ∉ tabP)
    (hQ : ∀ s' S' H' es n oe ol or' og' ls, Post gB [] s s' → s'.heap.get? H'.x = some (instObj 199 H'.dx) → s'.heap.get? H'.dx = some (dictOf es n) → FldO es H'.flds → GObs prog w gB S' H' (Ed.filter fun x => K1 x.1 && K2 x.2) oe ol or' og' ls → (H'.x :: H'.dx :: (gtr H' oe ol or' og' ls).map (·.1)).Nodup →
      (∀ p ∈ gtr H' oe ol or' og' ls, s'.heap.get? p.1 = some p.2) → (∀ a ∈ H'.x :: H'.dx :: (gtr H' oe ol or' og' ls).map (·.1), gB.objs.size ≤ a ∧ s.heap.get? a = none) → (∀ a o, S' a o → s'.heap.get? a = some o ∧ a ∉ tabP ∧ a ∉ (H'.x :: H'.dx :: (gtr H' oe ol or' og' ls).map (·.1)) ∧ o.cls = .type "tuple") → Q (.ref H'.x) s') :
    wpAny (model prog w) A (call (.ref 196) [.ref H.x, .ref lf, .ref rt]) Q E s := by
  have D := at196 w.params
  refine call_cellsQ B W (f := 196) (fd := fnAt 196) (body := bodyAt 196) (binds := [("self", .ref H.x), ("left", .ref lf), ("right", .ref rt)]) [] (fun _ h => nomatch h) List.nodup_nil D.k D.b D.c R.depth (by kernel_rfl) (by kernel_rfl) ?_ (fun s₁ L Sf S1 qx O A' hSf hL hO hA I hold hcell hqx => ?_) D.co D.gen D.kd
  · intro L
    refine al3 ?_ ?_ ?_
    · left; kernel_rfl
    · right; constructor <;> kernel_rfl
    · right; constructor <;> kernel_rfl
  have hF : ∀ a o, S a o → S1 a o := fun a o h => hold a o (hSf ▸ Froz.of hL (hS a o h).1 (hS a o h).2 (by simp))
  obtain ⟨hcl, oc, hoc, hod⟩ := hcell "left" (L + 1) (by kernel_rfl)
  have hod' : oc.data = .cell (some (.ref lf)) := hod.trans (by kernel_rfl)
  obtain ⟨hcl2, oc2, hoc2, hod2⟩ := hcell "right" (L + 2) (by kernel_rfl)
  have hod2' : oc2.data = .cell (some (.ref rt)) := hod2.trans (by kernel_rfl)
  refine xa1_1 (hx) fun sl hx => ?_
  have R' : Room A' (32) (137) := hA ▸ R.deeper (d := 32) (u := 137) (envC 196 L)
  refine xa1_2 (hE) fun xsE hDE hkE => ?_
  obtain ⟨hEx, esE, epE, hdatE, hentE, htupE, hndE⟩ := id hDE
  refine wpAny_execs_cons (wpAny_Return_some (PyProof.Rows.Call_ (r_glob B I (gBG _) ?_) rfl))
  refine callWith_K B.X (kBG _) (args_cons (r_genexp (gB := gB) (L := L) B R'.depth (c := 195) (P := 191) (cl := [("right", L + 2), ("left", L + 1)]) (by kernel_rfl) (by decide) rfl rfl (by kernel_rfl) (by decide) rfl rfl ?_ (fun _ => rfl)))
  refine MethodCall_ (Attribute_Name_ (r_loc I (by kernel_rfl) (r_attr B I (I.get (hF _ _ hx)) (I.get (hF _ _ hdx)) hf (v := .ref H.ed) rfl rfl (f199_edges _) fun s₂ I _ => ?_))) (eval_callm rfl rfl rfl)
  refine getMethod_builtin ⟨_, I.get (hF _ _ hed), hEx.1⟩ PySem.F.plainAttrs_dict PySem.F.slot_dict_items PySem.F.type_dict_items (fun a e => ⟨_, by cases e; exact I.get (hF _ _ hed), hEx.2.1⟩) ?_
  refine callWith_method0 (r_items I (I.get (hF _ _ hed)) hEx.1 ned fun v s₃ hv I => ?_)
  walk_at "q"
  replace I := I.settle
  refine iter_items I (I.get (.inr ⟨rfl, rfl⟩)) (I.get (.inl (hF _ _ hed))) hdatE fun it s₄ hit I => ?_
  walk_at "q"
  refine xi6_3 it _ _ _ _ _ rfl I (fun code C ga g fo s₅ nm qn I hgs hns hg0 hpre => args_nil ⟨B.K I.wd, ?_⟩)
  have hszE : esE.size = Ed.length := by
    have h1 := size_of_entries hentE
    have h2 := congrArg List.length hkE
    simp only [List.length_map] at h2
    omega
  refine make199_gen (O := O) (hgs esE.size (fun S k v => ∃ a, v = .ref a ∧ S a (tup [(esE[k]?.map (·.key)).getD .none, (esE[k]?.map (·.val)).getD .none])) (IIt H.ed esE.size epE) (fun S => RawD S H.ed esE epE ∧ ∀ a o, S1 a o → S a o) (fun i => (Ed[i]?.map fun x => K1 x.1 && K2 x.2).getD false)
    (fun i v S => ∃ a b x e', v = .ref a ∧ S a (tup [.ref b, x]) ∧ Ed[i]? = some e' ∧ TupS prog w S b [e'.1, e'.2])) (d := 0) (u := 30) B
    { J := (itemsItr (prog := prog) (w := w) (gB := gB) (d := H.ed) (it := it) (es := esE) (ep := epE)).more (fun h => h.1) (fun hs h => ⟨h.1.mono hs, fun a o q => hs _ _ (h.2 a o q)⟩)
      fmono := fun hs ⟨a, b, x, e', h1, h2, h3, h4⟩ => ⟨a, b, x, e', h1, hs _ _ h2, h3, h4.mono hs⟩
      loc := rfl
      ne := by
        exact fun e => (List.nodup_cons.mp I.nd).1 (List.mem_singleton.mpr e.symm)
      co := rfl
      body := ?body } (Ed := Ed.filter fun x => K1 x.1 && K2 x.2) ?sm (Nat.le_trans (List.length_filter_le ..) zE) (nE.filter _) (EN := fun i => Ed[i]?) ?en ?ln R'.mono (by decide) (by decide) I hns ?hP ?hS hg0 hpre (fun h => h) ?fin
  case sm => exact fun e' h => hEd e' (List.mem_filter.mp h).1
  case en => exact fun {j i e'} h1 h2 => passP_at _ h1 h2 hszE
  case ln => exact passP_len _ hszE
  case hP => exact ⟨_, _, _, _, rfl, .inl rfl⟩
  case hS => exact ⟨⟨oed, .inl (.inl (hF _ _ hed)), hEx.1, hdatE⟩, fun a o q => .inl (.inl q)⟩
  case fin =>
    intro s' S' H' es' n' oe' ol' or' og' ls' P h1 h2 h3 h4 h5 h6 h7 h8
    refine xa0_2 ((I.reO (O := O) rfl hpre).postG P (OgLe.refl _) (by simp) (tr' := []) (fun _ h => nomatch h) List.nodup_nil) fun I' hI' => ?_
    refine hqx _ _ ⟨⟨_, _, _, I', fun a o q => hI' a o (.inl (.inl (hold a o q))) (by simp)⟩, fun P' => ?_⟩
    refine hQ s' S' H' es' n' oe' ol' or' og' ls' P' h1 h2 h3 h4 h5 h6 (fun a ha => ⟨(h7 a ha).1, ?_⟩) h8
    cases q : s.heap.get? a with
    | none => rfl
    | some o =>
      have := (I.st a o (.inl (.inl (hold a o (hSf ▸ Froz.of hL q (W.wd.notTab (h7 a ha).1) (by simp)))))).1
      rw [(h7 a ha).2] at this; cases this
  case body =>
    intro A' O' m' S' s' E' io' i v RB hi J hp1 hp2
    dsimp only at J ⊢
    refine xa0_2 (hp1) fun hraw hS1 => ?_
    refine xa1_2 (hp2) fun a he3 ha => ?_
    obtain rfl := he3
    obtain ⟨x, hxk⟩ : ∃ x, xsE[i]? = some x := ⟨xsE[i]'(by rw [← size_of_entries hentE]; exact hi), List.getElem?_eq_getElem _⟩
    obtain ⟨e', hek⟩ : ∃ e', Ed[i]? = some e' := ⟨Ed[i]'(by rw [← hszE]; exact hi), List.getElem?_eq_getElem _⟩
    have hx1 : x.1 = [e'.1, e'.2] := by
      have h1 : (xsE.map (·.1))[i]? = some x.1 := by rw [List.getElem?_map, hxk]; rfl
      rw [hkE, List.getElem?_map, hek] at h1
      simpa using h1.symm
    have hk1 : (esE[i]?.map (·.key)).getD .none = .ref x.2.1 := by rw [entry_at hentE i, hxk]; rfl
    rw [hk1] at ha
    refine xa1_2 (htupE x (List.mem_of_getElem? hxk)) fun ot hot1 hot2 => ?_
    have hot2' := hot2
    rw [hx1] at hot2
    refine xa3_2 (hot2.pair) fun ta tb nt hotc hotd => ?_
    refine r_unpack2 RB.hh J (J.get ha) rfl rfl fun s₁ J => ?_
    walk_at "q"
    refine r_unpack2 RB.hh J (J.get (hS1 _ _ (hF _ _ hot1))) hotc hotd fun s₂ J => ?_
    walk_at "q"
    refine wpAny_assign_Name (r_st J fun s₃ J => wpAny_assign_Name (r_st J fun s₄ J => wpAny_assign_Name (r_st J fun s₅ J => tests1 (wpAny_isTrue_BoolOp (wpAny_allTrue_And_cons (wpAny_isTrue_Compare1 ?_))))))
    walk_at "q"
    have hpz : ((Ed[i]?.map fun x => K1 x.1 && K2 x.2).getD false) = (K1 e'.1 && K2 e'.2) := by rw [hek]; rfl
    refine r_loc J rfl (r_free J (c := L + 1) rfl (hS1 _ _ hoc) hod' ?_)
    walk_at "q"
    refine wpAny_inSet_of (knd := intKind prog w) (k := e'.1) (by simp [intKind, Value.isInt]) rfl (hK1.of (J.get (hS1 _ _ (hF _ _ hlf)))) (wpAny_truthy_bool ?_)
    walk_at "q"
    replace J := J.toks (s₅.toks + 1)
    cases h1 : K1 e'.1 with
    | false =>
      first | refine ifF Bool.false_ne_true ?_ | refine ifF (by simp) ?_ | refine wifF (by simp) ?_ | rw [if_neg (by simp)]
      refine xi0_3 ?_ (fun _ => ⟨_, _, J, fun _ _ q => q⟩) (fun hh => nomatch hh)
      show _ = ((Ed[i]?.map fun x => K1 x.1 && K2 x.2).getD false)
      rw [hpz, h1]; rfl
    | true =>
      first | refine ifT rfl ?_ | refine wifT rfl ?_ | rw [if_pos rfl]
      refine wpAny_allTrue_And_cons (wpAny_isTrue_Compare1 ?_)
      walk_at "q"
      refine r_loc J rfl (r_free J (c := L + 2) rfl (hS1 _ _ hoc2) hod2' ?_)
      walk_at "q"
      refine wpAny_inSet_of (knd := intKind prog w) (k := e'.2) (by simp [intKind, Value.isInt]) rfl (hK2.of (J.get (hS1 _ _ (hF _ _ hrt)))) (wpAny_truthy_bool ?_)
      walk_at "q"
      replace J := J.toks (s₅.toks + 1 + 1)
      cases h2 : K2 e'.2 with
      | false =>
        first | refine ifF Bool.false_ne_true ?_ | refine ifF (by simp) ?_ | refine wifF (by simp) ?_ | rw [if_neg (by simp)]
        refine xi0_3 ?_ (fun _ => ⟨_, _, J, fun _ _ q => q⟩) (fun hh => nomatch hh)
        show _ = ((Ed[i]?.map fun x => K1 x.1 && K2 x.2).getD false)
        rw [hpz, h1, h2]; rfl
      | true =>
        first | refine ifT rfl ?_ | refine wifT rfl ?_ | rw [if_pos rfl]
        refine wpAny_allTrue_And_nil ?_
        refine xi0_3 ?_ (fun hh => (nomatch hh)) (fun _ => ?_)
        · show _ = ((Ed[i]?.map fun x => K1 x.1 && K2 x.2).getD false)
          rw [hpz, h1, h2]; rfl
        · refine Tuple_ (args_cons (Tuple_ (args_cons (r_loc J rfl (args_cons (r_loc J rfl (args_nil (r_newtup J fun b s₆ hb J => ?_))))))))
          walk_at "q"
          refine args_cons (r_loc J rfl (args_nil (r_newtup J fun b2 s₇ hb2 J => ?_)))
          walk_at "q"
          exact ⟨_, _, J, fun a o q => .inl (.inl q), b2, b, _, e', rfl, ⟨.inr ⟨rfl, rfl⟩, rfl, _, _, rfl⟩, hek, _, ⟨.inl (.inr ⟨rfl, rfl⟩), rfl, _, _, rfl⟩, TupO.of⟩
end
end Mine
end
section
namespace Mine
noncomputable def rowR (x : Int) : List (Int × Int) → List Int → List Int
  | [], r => r
  | a :: as, r => if a.1 = x ∧ a.2 ∉ r then rowR x as (r ++ [a.2]) else rowR x as r
noncomputable def loopR (ar : List (Int × Int)) : Nat → Nat → List Int → Option (List Int)
  | 0, _, _ => none
  | n + 1, k, r => match r[k]? with
    | none => some r
    | some x => loopR ar n (k + 1) (rowR x ar r)
theorem rowR_len (x : Int) : ∀ (as : List (Int × Int)) (r : List Int), (rowR x as r).length ≤ r.length + as.length
  | [], r => Nat.le_refl _
  | a :: as, r => by
    rw [rowR]
    split
    · have := rowR_len x as (r ++ [a.2])
      simp at this ⊢; omega
    · have := rowR_len x as r
      simp at this ⊢; exact Nat.le_succ_of_le ‹_›
theorem rowR_get (x : Int) : ∀ (as : List (Int × Int)) (r : List Int) {k : Nat} {y : Int}, r[k]? = some y → (rowR x as r)[k]? = some y
  | [], _, _, _, h => h
  | a :: as, r, k, y, h => by
    rw [rowR]
    split
    · exact rowR_get x as _ (by rw [List.getElem?_append_left (List.getElem?_eq_some_iff.mp h).1]; exact h)
    · exact rowR_get x as _ h
end Mine
end
section
open PySem PySem.W PySem.Calls PyProof.Rows
open Sem (wp)
namespace Mine
section
variable {prog : Program} {w : World} {S : Addr → Obj → Prop} {gB : Heap} {mg mb : Str → Option Value}

noncomputable abbrev Prs (prog : Program) (w : World) (S : Addr → Obj → Prop) (vs : List Value) (ps : List (Int × Int)) : Prop := All2 (fun v p => VTup prog w S v [p.1, p.2]) vs ps
theorem IntsAre.len {vs : List Value} {ns : List Int} (h : IntsAre vs ns) : vs.length = ns.length := by
  induction h with
  | nil => rfl
  | cons n t _ ih => simp [ih]
theorem IntsAre.snoc {vs : List Value} {ns : List Int} (h : IntsAre vs ns) (k : Int) (t : Tok) : IntsAre (vs ++ [.int k t]) (ns ++ [k]) := by
  induction h with
  | nil => exact .cons k t .nil
  | cons n u _ ih => exact .cons n u ih
theorem IntsAre.at {vs : List Value} {ns : List Int} (h : IntsAre vs ns) {i : Nat} {k : Int} (hk : ns[i]? = some k) : ∃ t, vs[i]? = some (.int k t) := by
  induction h generalizing i with
  | nil => simp at hk
  | cons n u _ ih =>
    cases i with
    | zero => simp at hk; subst hk; exact ⟨u, rfl⟩
    | succ i => simpa using ih (by simpa using hk)

theorem FIn.grown {O : Og} {L : Addr} {m : Str → Option Value} {tr : List (Addr × Obj)} {s : Shared} (I : FIn gB O L m S tr s) {h' : Heap} {o : Obj} {tk : Nat} (hk : ∀ b o, s.heap.get? b = some o → h'.get? b = some o) (hn : h'.get? s.heap.objs.size = some o) :
    FIn gB O L m S ((s.heap.objs.size, o) :: tr) { s with heap := h', toks := tk } := by
  refine (I.keeps hk).track hn (Nat.ne_of_gt I.L_lt) I.wd.sz (fun x hx => ?_) fun e => ?_
  · exact absurd (Heap.lt_size (I.st _ _ hx).1) (Nat.lt_irrefl _)
  · obtain ⟨p, hp, e⟩ := List.mem_map.mp e
    have := Heap.lt_size (I.tk p hp).1
    rw [e] at this
    exact absurd this (Nat.lt_irrefl _)
theorem r_listOf {O : Og} {L : Addr} {m : Str → Option Value} {tr : List (Addr × Obj)} {s : Shared} {A : Around} {E : Value → Shared → Prop} {it : Addr} {o : Obj} {items : List Value} {Q : Value → Shared → Prop} (I : FIn gB O L m S tr s)
    (ho : s.heap.get? it = some o) (hl : LstO items o) (hz : items.length ≤ 1000) (h : ∀ a s' c, a = s.heap.objs.size → FIn gB O L m S ((a, lst items c) :: tr) s' → Q (.ref a) s') :
    wpAny (model prog w) A (call (.type "list") [.ref it]) Q E s := by
  obtain ⟨h1, n, h2⟩ := hl
  exact call_list_seq it (.inl rfl) ho h1 h2 (fun h' c' hk hn => h _ _ _ rfl (I.grown hk hn)) (by rw [List.size_toArray, sizeLine_eq]; exact oL ‹_› (by exact rfl))

inductive RcI (gB : Heap) (O : Og) (L : Addr) (Sf : Addr → Obj → Prop) (q ar : Addr) (arrows : List (Int × Int)) (r : List Int) (n : Nat) (s₀ : Shared) : Prop
  | mk (m items c rs k t)
    (h1 : FIn gB O L m Sf [(q, lst items c)] s₀)
    (h2 : m "arrows" = some (.ref ar))
    (h3 : m "reached" = some (.ref q))
    (h4 : m "place" = some (.int (k : Nat) t))
    (h5 : IntsAre items rs)
    (h6 : loopR arrows n k rs = some r)
    (h7 : rs.length + 20 * n ≤ 420)
    (h8 : k ≤ 20 - n) : RcI gB O L Sf q ar arrows r n s₀

inductive RwI (Sf : Addr → Obj → Prop) (q ar : Addr) (k : Nat) (t : Tok) (x : Int) (arrows : List (Int × Int)) (rs : List Int) (j : Nat) (m' : Str → Option Value) (S' : Addr → Obj → Prop) (tr : List (Addr × Obj)) : Prop
  | mk (h1 : Sf = S')
    (h2 : m' "arrows" = some (.ref ar))
    (h3 : m' "reached" = some (.ref q))
    (h4 : m' "place" = some (.int (k : Nat) t))
    (items c rs')
    (h5 : tr = [(q, lst items c)])
    (h6 : IntsAre items rs')
    (h7 : rs'[k]? = some x)
    (h8 : rowR x (arrows.drop j) rs' = rowR x arrows rs)
    (h9 : rs'.length ≤ rs.length + j) : RwI Sf q ar k t x arrows rs j m' S' tr

theorem reach_spec (B : Base w.params mg mb gB) {st ar : Addr} {ost oar : Obj} {sv av : List Value} {starts : List Int} {arrows : List (Int × Int)} {r : List Int} {N : Nat}
    (hst : S st ost) (hso : LstO sv ost) (hsi : IntsAre sv starts) (har : S ar oar) (hao : LstO av oar) (hai : Prs prog w S av arrows)
    (hr : loopR arrows N 0 starts = some r) (zN : N ≤ 20) (za : arrows.length ≤ 20) (zs : starts.length ≤ 20)
    {A : Around} {s : Shared} {Q : Value → Shared → Prop} {E : Value → Shared → Prop} (R : Room A 2 20) (W : Pre gB s) (hS : ∀ a o, S a o → s.heap.get? a = some o ∧ a ∉ tabP)
    (hQ : ∀ s' l vs c, Post gB [] s s' → s'.heap.get? l = some (lst vs c) → IntsAre vs r → gB.objs.size ≤ l → s.heap.get? l = none → Q (.ref l) s') :
    wpAny (model prog w) A (call (.ref 210) [.ref st, .ref ar]) Q E s := by
  refine call_atQ B W (at210 _) nc210 [("starts", .ref st), ("arrows", .ref ar)] [] (fun _ h => nomatch h) List.nodup_nil R.depth (by kernel_rfl) (by kernel_rfl) fun s₁ L Sf qx O A' hSf hL hO hA I hqx => ?_
  have hF : ∀ a o, S a o → Sf a o := fun a o h => hSf ▸ Froz.of hL (hS a o h).1 (hS a o h).2 (by simp)
  have R' : Room A' (1) (17) := hA ▸ R.deeper (d := 1) (u := 17) (envAt 210 L)
  refine wpAny_execs_cons (wpAny_Assign_Name (PyProof.Rows.Call_ (r_blt B I (g_list _) (v := .type "list") (by decide +kernel) (by decide) ?_) rfl))
  refine PyProof.Rows.callWith_type1 (args_cons (r_loc I rfl (args_nil ?_)))
  walk_at "q"
  refine r_listOf I (I.get (hF _ _ hst)) hso (by have := IntsAre.len hsi; exact oE ‹_› ‹_› (by exact rfl)) fun q s₂ c hq I₂ => ?_
  walk_at "q"
  have hqf : s.heap.get? q = none := by
    cases z : s.heap.get? q with
    | none => rfl
    | some o =>
      have h1 := Heap.lt_size z
      have h2 := I.L_lt
      rw [hq] at h1
      rw [hL] at h2
      exact absurd (Nat.lt_trans h1 h2) (Nat.lt_irrefl _)
  refine r_st I₂ fun s₃ I => ?_
  walk_at "q"
  refine wpAny_execs_cons (wpAny_Assign_Name (wpAny_Constant_int ?_))
  walk_at "q"
  replace I := I.toks (s₃.toks + 1)
  refine r_st I fun s₄ I => ?_
  walk_at "q"
  refine wpAny_execs_cons (r_while (RcI gB O L Sf q ar arrows r) ?_ N
    ⟨_, _, _, _, 0, _, I, rfl, rfl, rfl, hsi, hr, by omega, Nat.zero_le _⟩)
  rintro n s₅ ⟨m, items, c, rs, k, t, I, hma, hmr, hmp, his, hloop, hz, hk20⟩
  cases n with
  | zero => cases hloop
  | succ n =>
  rw [loopR] at hloop
  have hlen := IntsAre.len his
  refine wpAny_isTrue_Compare1 (r_loc I hmp (r_len B I hmr (I.at (i := 0) rfl) (lstO _ _) (by omega) (g_len _) fun s₆ t₁ I _ => PyProof.Rows.lt_int (wpAny_truthy_bool ?_)))
  walk_at "q"
  by_cases hlt : k < rs.length
  case neg =>
    rw [List.getElem?_eq_none (by exact Nat.le_of_not_lt ‹_›)] at hloop
    simp only [Option.some.injEq] at hloop
    subst hloop
    first | refine ifF (by simp; exact oNe ‹_› ‹_›) ?_ | refine wifF (by simp; omega) ?_ | rw [if_neg (by simp; omega)]
    refine wpAny_execs_cons (wpAny_Return_some (r_loc I hmr ?_))
    walk_at "q"
    exact hqx _ _ ⟨⟨_, _, _, I, fun _ _ h => h⟩, fun P => hQ _ q _ _ P (I.at (i := 0) rfl) his (I.new (i := 0) rfl) hqf⟩
  rw [List.getElem?_eq_getElem hlt] at hloop
  generalize hx : rs[k] = x at hloop
  replace hx : rs[k]? = some x := by rw [List.getElem?_eq_getElem hlt, hx]
  dsimp only at hloop
  first | refine ifT (by simp; exact oQ ‹_› ‹_›) ?_ | refine wifT (by simp; omega) ?_ | rw [if_pos (by simp; omega)]
  refine wpAny_execs_cons (r_for_list (gB := gB) (O := O) (L := L) R'.hh (r_loc I hma ?_))
  walk_at "q"
  refine ⟨ar, av, _, _, _, RwI Sf q ar k t x arrows rs,
    rfl, I, ?_, ⟨rfl, hma, hmr, hmp, items, c, rs, rfl, his, hx, rfl, Nat.le_refl _⟩, ?_, ?_⟩
  · rintro k m S' tr ⟨rfl, _⟩
    exact ⟨oar, hF _ _ har, hao⟩
  · rintro it j m S' tr s₇ io hj ⟨rfl, hma, hmr, hmp, items, c, rs', rfl, his, hx', hrow, hrl⟩ I
    obtain ⟨p, hp, al, hal, tl⟩ := hai.getD hj .none
    rw [hal]
    have hja := hai.length
    rw [List.drop_eq_getElem_cons (by exact oQ' ‹_› ‹_› : j < arrows.length)] at hrow
    have hpj : arrows[j] = p := by
      have := List.getElem?_eq_some_iff.mp hp
      obtain ⟨_, e⟩ := this; exact e
    rw [hpj, rowR] at hrow
    obtain ⟨ol, hol, tol⟩ := tl
    obtain ⟨ta, tb, nt, hotc, hotd⟩ := tol.pair
    have hlen' := IntsAre.len his
    refine r_unpack2 R'.hh I (I.get (hF _ _ hol)) hotc hotd fun s₈ I => ?_
    walk_at "q"
    refine wpAny_assign_Name (r_st I fun s₉ I => wpAny_assign_Name (r_st I fun s₁₀ I => ?_))
    walk_at "q"
    have fin : ∀ {m items c rs'' s₁₀}, FIn gB O L m Sf [(it, io), (q, lst items c)] s₁₀ → m "arrows" = some (.ref ar) → m "reached" = some (.ref q) → m "place" = some (.int (k : Nat) t) → IntsAre items rs'' → rs''[k]? = some x → rowR x (arrows.drop (j + 1)) rs'' = rowR x arrows rs → rs''.length ≤ rs.length + (j + 1) →
      ∃ m' S' tr', FIn gB O L m' S' ((it, io) :: tr') s₁₀ ∧ RwI Sf q ar k t x arrows rs (j + 1) m' S' tr' :=
      fun I a b c d e f g => ⟨_, _, _, I, rfl, a, b, c, _, _, _, rfl, d, e, f, g⟩
    refine wpAny_execs_cons (wpAny_If (wpAny_isTrue_BoolOp (wpAny_allTrue_And_cons (wpAny_isTrue_Compare1 ?_))))
    walk_at "q"
    refine r_loc I rfl (PyProof.Rows.Subscript_ (r_loc I hmr (r_loc I hmp ?_)))
    walk_at "q"
    obtain ⟨tx, htx⟩ := IntsAre.at his hx'
    refine tail_any (T := "list") ⟨_, I.at (i := 1) rfl, rfl⟩ PySem.F.slot_list_getitem.lookup (wpAny_getItem_list ⟨_, I.at (i := 1) rfl, rfl, _, rfl⟩ (Int.natCast_nonneg _) (by omega) (x := .int x tx) (by simpa using htx) ?_) rfl
    refine PyProof.Rows.eq_int (wpAny_truthy_bool ?_)
    walk_at "q"
    by_cases h1 : p.1 = x
    · first | refine ifT (decide_eq_true h1) ?_ | refine ifT (beq_iff_eq.mpr h1) ?_ | refine ifT (by simpa using h1) ?_ | refine wifT (by simpa using h1) ?_ | rw [if_pos (by simpa using h1)]
      refine wpAny_allTrue_And_cons (wpAny_isTrue_Compare1 ?_)
      walk_at "q"
      refine r_loc I rfl (r_loc I hmr (PyProof.Rows.notin_list_ints ⟨_, I.at (i := 1) rfl, rfl, _, rfl⟩ his (wpAny_truthy_bool ?_)))
      walk_at "q"
      by_cases h2 : p.2 ∈ rs'
      · first | refine ifF (ne_true_of_eq_false (decide_eq_false h2)) ?_ | refine ifF (ne_true_of_eq_false (beq_eq_false_iff_ne.mpr h2)) ?_ | refine ifF (by simpa using h2) ?_ | refine wifF (by simpa using h2) ?_ | rw [if_neg (by simpa using h2)]
        rw [if_neg (fun h => h.2 h2)] at hrow
        first | refine ifF Bool.false_ne_true ?_ | refine wifF Bool.false_ne_true ?_ | rw [if_neg Bool.false_ne_true]
        exact wpAny_execs_nil (wpAny_execs_nil (fin I hma hmr hmp his hx' hrow (by exact Nat.le_succ_of_le ‹_›)))
      · first | refine ifT (by simp; intro x hx e; exact h2 (e ▸ hx)) ?_ | refine wifT (by simp; intro x hx e; exact h2 (e ▸ hx)) ?_ | rw [if_pos (by simp; intro x hx e; exact h2 (e ▸ hx))]
        rw [if_pos ⟨h1, h2⟩] at hrow
        refine wpAny_allTrue_And_nil ?_
        first | refine ifT rfl ?_ | refine wifT rfl ?_ | rw [if_pos rfl]
        refine wpAny_execs_cons (wpAny_Expr (r_append I hmr (I.at (i := 1) rfl) rfl rfl (r_loc I rfl ⟨_, _, _, 1, items, c, I, rfl, by omega, fun s₁₁ I => ?_⟩)))
        refine wpAny_execs_nil (wpAny_execs_nil (fin I hma hmr hmp (IntsAre.snoc his _ _) ?_ hrow (by simp; exact Nat.succ_le_succ ‹_›)))
        rw [List.getElem?_append_left (List.getElem?_eq_some_iff.mp hx').1]; exact hx'
    · first | refine ifF (ne_true_of_eq_false (decide_eq_false h1)) ?_ | refine ifF (ne_true_of_eq_false (beq_eq_false_iff_ne.mpr h1)) ?_ | refine ifF (by simpa using h1) ?_ | refine wifF (by simpa using h1) ?_ | rw [if_neg (by simpa using h1)]
      rw [if_neg (fun h => h1 h.1)] at hrow
      first | refine ifF Bool.false_ne_true ?_ | refine wifF Bool.false_ne_true ?_ | rw [if_neg Bool.false_ne_true]
      exact wpAny_execs_nil (wpAny_execs_nil (fin I hma hmr hmp his hx' hrow (by exact Nat.le_succ_of_le ‹_›)))
  rintro m S' tr s₇ ⟨rfl, hma, hmr, hmp, items, c, rs', rfl, his, hx', hrow, hrl⟩ I
  have hja := hai.length
  rw [List.drop_of_length_le (by omega), rowR] at hrow
  subst hrow
  refine wpAny_execs_cons (wpAny_Assign_Name (wpAny_BinOp (r_loc I hmp (wpAny_Constant_int (PyProof.Rows.add_int ?_)))))
  walk_at "q"
  replace I := I.toks (s₇.toks + 1 + 1)
  refine r_st I fun s₈ I => wpAny_execs_nil ⟨n, Nat.lt_succ_self n, _, _, _, _, k + 1, _, I, hma, hmr, rfl, his, hloop, by omega, by omega⟩
end
end Mine
end
section
open PySem PySem.W PySem.Calls PyProof.Rows
open Sem (wp)
namespace Mine
section
variable {prog : Program} {w : World} {gB : Heap} {O O' : Og} {L : Addr} {m : Str → Option Value} {S S' : Addr → Obj → Prop} {tr tr' : List (Addr × Obj)} {s : Shared} {A : Around} {E : Value → Shared → Prop} {env : Env} {mg mb : Str → Option Value}

theorem r_cell {M : Model} {x : Str} {pos : PySem.Pos} {v : Value} {c : Addr} {o : Obj} {Q : Value → Shared → Prop} (hc : env.cells.lookup x = some c) (hg : s.heap.get? c = some o) (hd : o.data = .cell (some v)) (h : Q v s)
    (hk : env.scope.kind = .function := by rfl) (hl : env.kindOf x = some .cell := by rfl) (hd' : (x == ("__debug__" : Str)) = false := by decide) :
    wpAny M A (eval (.Name x pos) env) Q E s := wpAny_Name (wpAny_loadName_cell hk hl hc ⟨o, hg, hd⟩ h) hd'
theorem r_cellSt {M : Model} {x : Str} {i : Nat} {v : Value} {v₀ : Option Value} {c : Addr} {o : Obj} {Q : Unit → Shared → Prop} (I : FIn gB O L m S tr s) (hc : env.cells.lookup x = some c) (hi : tr[i]? = some (c, o)) (hd : o.data = .cell v₀)
    (h : ∀ s' o', o'.data = .cell (some v) → FIn gB O L m S (tr.set i (c, o')) s' → Q () s')
    (hk : env.scope.kind = .function := by rfl) (hl : env.kindOf x = some .cell := by rfl) : wpAny M A (storeName env x v) Q E s := by
  refine wpAny_storeName_cell hk hl hc ⟨o, I.at hi, hd⟩ fun h' hc' hs => ?_
  walk_at "q"
  refine xa1_2 (hc') fun o' ho' hd' => ?_
  have := I.turn (tk := s.toks) hi hs ho'
  exact h _ o' hd' this
theorem FIn.unsettle (I : FIn gB O L m S tr s) {c : Addr} {o : Obj} (hS : S c o) (hn : gB.objs.size ≤ c) : FIn gB O L m (fun a x => S a x ∧ a ≠ c) ((c, o) :: tr) s := by
  refine xa0_4 (I.st c o hS) fun a1 a2 a3 a4 => ?_
  exact (I.monoS (S' := fun a x => S a x ∧ a ≠ c) fun a x h => h.1).track a1 a2 hn (fun x h => h.2 rfl) a4

noncomputable def NT (o : Obj) : Prop := ¬ (o.cls = .type "tuple" ∧ ∃ vs n, o.data = .seq vs n)
theorem NT.cell {o : Obj} {v : Option Value} (h : o.data = .cell v) : NT o := fun ⟨_, vs, n, e⟩ => by rw [h] at e; cases e
theorem NT.lst {vs : List Value} {n : Nat} : NT (Mine.lst vs n) := fun ⟨e, _⟩ => absurd (show Value.type "list" = Value.type "tuple" from e) (by decide)

theorem compTurn_listAny (elt target iter : Expr) (ifs : List Expr) (scope : Scope) (pos : PySem.Pos) (it acc : Value) (env : Env) :
    compTurn (.ListComp elt [⟨target, iter, ifs, 0⟩] scope pos) 0 it acc env = (do
      standAt iter.pos
      match ← pyNext it with
      | none => pure (.done .next)
      | some v =>
        letOwnedTupleGo target it v
        assign target env v
        let ok ← testsOf env ifs
        if ok then
          (do let _ ← call (.builtin "list.append") [acc, ← eval elt env])
        again (.compLoop (.ListComp elt [⟨target, iter, ifs, 0⟩] scope pos) 0 it acc env)) := by rfl

noncomputable def LcBody (prog : Program) (w : World) (gB : Heap) (A : Around) (S : Addr → Obj → Prop) (it : Addr) (n : Nat) (Itm : (Addr → Obj → Prop) → Nat → Value → Prop) (Src : (Addr → Obj → Prop) → Prop) (pz : Nat → Bool) (F : Nat → Value → (Addr → Obj → Prop) → Prop)
    (target elt : Expr) (ifs : List Expr) (envOf : Addr → Env) : Prop :=
  ∀ (C : Addr) (O : Og) (m : Str → Option Value) (S' : Addr → Obj → Prop) (s : Shared) (E : Value → Shared → Prop) (io : Obj) (acc : Addr) (ys : List Value) (c : Nat) (i : Nat) (v : Value), i < n → FIn gB O C m S' [(it, io), (acc, lst ys c)] s → (∀ a o, S a o → S' a o) → Src S' → Itm S' i v →
    wpAny (model prog w) A (assign target (envOf C) v) (fun _ s₂ => wpAny (model prog w) A (testsOf (envOf C) ifs) (fun ok s₃ => ok = pz i ∧
      (ok = false → ∃ m' S'', FIn gB O C m' S'' [(it, io), (acc, lst ys c)] s₃ ∧ (∀ a o, S' a o → S'' a o)) ∧
      (ok = true → wpAny (model prog w) A (eval elt (envOf C)) (fun y s₄ => ∃ m' S'', FIn gB O C m' S'' [(it, io), (acc, lst ys c)] s₄ ∧ (∀ a o, S' a o → S'' a o) ∧ F i y (onlyTup S'')) E s₃)) E s₂) E s

variable {elt target iter : Expr} {ifs : List Expr} {scope : Scope} {cl : List (Str × Addr)} {pos : PySem.Pos}
theorem lc_loop {it C acc : Addr} {n : Nat} {Itm : (Addr → Obj → Prop) → Nat → Value → Prop} {ItP : (Addr → Obj → Prop) → Nat → Obj → Prop} {Src : (Addr → Obj → Prop) → Prop} {pz : Nat → Bool} {F : Nat → Value → (Addr → Obj → Prop) → Prop} {R : Result → Shared → Prop} {envOf : Addr → Env}
    (hh : A.handled = none) (J : Itr prog w gB it n Itm ItP Src) (hF : ∀ {i v} {S S' : Addr → Obj → Prop}, (∀ a o, S a o → S' a o) → F i v S → F i v S') (hn : n ≤ 1000)
    (body : LcBody prog w gB A S it n Itm Src pz F target elt ifs envOf)
    (done : ∀ m' S' ys c s', FIn gB O C m' S' [(acc, lst ys c)] s' → (∀ a o, S a o → S' a o) → All2 (fun y i => F i y (onlyTup S')) ys (passing pz n 0) → R (.ok .next) s') :
    ∀ (k i : Nat) (m' : Str → Option Value) (S' : Addr → Obj → Prop) (io : Obj) (ys : List Value) (c : Nat) (s : Shared), n - i = k → i ≤ n → FIn gB O C m' S' [(it, io), (acc, lst ys c)] s → (∀ a o, S a o → S' a o) → ItP S' i io → Src S' →
      All2 (fun y i => F i y (onlyTup S')) ys (((List.range n).take i).filter pz) →
      codeAny (model prog w) A (.compLoop (.ListComp elt [⟨target, iter, ifs, 0⟩] scope pos) 0 (.ref it) (.ref acc) (envOf C)) R s := by
  intro k i m' S' io ys c s hk hi I hS hP hsrc hys
  refine codeAny_loop rfl (fun k s => ∃ i m' S' io ys c, n - i = k ∧ i ≤ n ∧ FIn gB O C m' S' [(it, io), (acc, lst ys c)] s ∧ (∀ a o, S a o → S' a o) ∧ ItP S' i io ∧ Src S' ∧ All2 (fun y i => F i y (onlyTup S')) ys (((List.range n).take i).filter pz)) ?_ k ⟨i, m', S', io, ys, c, hk, hi, I, hS, hP, hsrc, hys⟩
  clear hk hi I hS hP hsrc hys
  intro k s hp1
  refine xa6_7 (hp1) fun i m' S' io ys c hk hi I hS hP hsrc hys => ?_
  show wpAny _ A ((compTurn (.ListComp elt [⟨target, iter, ifs, 0⟩] scope pos) 0 (.ref it) (.ref acc) (envOf C)).onRaise (fun x => do noteFrame x (envOf C); theTreesLotGoes x)) _ _ s
  refine wpAny_noted ?_
  walk_at "q"
  rw [compTurn_listAny]
  refine wpAny_bind (wpAny_standAt (wpAny_bind ?_))
  walk_at "q"
  by_cases hin : i < n
  · refine J.next hin I hP hsrc fun v io₁ S₁ s₁ h1 hv hP₁ I₁ => ?_
    refine wpAny_bind (J.go _ _ I₁ hP₁ fun io₂ s₂ hP₂ I₂ => ?_)
    walk_at "q"
    refine wpAny_bind (wpAny_mono (body C O m' S₁ s₂ _ io₂ acc ys c i v hin I₂ (fun a o q => h1 _ _ (hS a o q)) (J.smono h1 hsrc) hv) (fun _ s₃ h₃ => wpAny_bind (wpAny_mono h₃ (fun ok s₄ h₄ => ?_) fun _ _ x => x)) fun _ _ x => x)
    refine xa0_3 (h₄) fun he2 hno hyes => ?_
    obtain rfl := he2
    have htake : (List.range n).take (i + 1) = (List.range n).take i ++ [i] := by
      rw [List.take_add_one, List.getElem?_range hin]; rfl
    cases hpz : pz i with
    | false =>
      first | refine wifFb rfl ?_ | refine ifFb rfl ?_ | simp only [Bool.false_eq_true, if_false]
      refine xa2_2 (hno hpz) fun m₂ S₂ I₃ h2 => ?_
      refine wpAny_pure ⟨rfl, n - (i + 1), hk ▸ oS2 hin, i + 1, m₂, S₂, io₂, ys, c, rfl, hin, I₃, fun a o q => h2 _ _ (h1 _ _ (hS a o q)), J.mono h2 hP₂, J.smono h2 (J.smono h1 hsrc), ?_⟩
      rw [htake, List.filter_append, List.filter_cons_of_neg (by simp [hpz]), List.filter_nil, List.append_nil]
      exact hys.mono fun y j q => hF (fun a o z => ⟨h2 _ _ (h1 _ _ z.1), z.2⟩) q
    | true =>
      first | refine wifTb rfl ?_ | refine ifTb rfl ?_ | simp only [if_true]
      refine wpAny_bind (wpAny_bind (wpAny_mono (hyes hpz) (fun y s₅ h₅ => ?_) fun _ _ x => x))
      refine xa2_3 (h₅) fun m₂ S₂ I₃ h2 hFy => ?_
      have hlen : ys.length ≤ 1000 := by
        have := hys.length
        have h3 : (((List.range n).take i).filter pz).length ≤ ((List.range n).take i).length := List.length_filter_le ..
        rw [List.length_take, List.length_range] at h3
        exact Nat.le_trans (Nat.le_of_eq this) (Nat.le_trans h3 (Nat.le_trans (Nat.min_le_right ..) hn))
      refine wpAny_bind (wpAny_list_append_plain (items := ys.toArray) ⟨c, I₃.at (i := 1) rfl⟩ (fun h' hp' hs' => wpAny_pure (wpAny_pure ?_)) (by rw [List.size_toArray, sizeLine_eq]; exact oL ‹_› (by exact rfl)))
      obtain ⟨c', hp'⟩ := hp'
      have I₄ := I₃.turn (tk := s₅.toks) (i := 1) (o' := lst (ys ++ [y]) c') rfl hs' (by rw [hp']; simp)
      refine ⟨rfl, n - (i + 1), hk ▸ oS2 hin, i + 1, m₂, S₂, io₂, ys ++ [y], c', rfl, hin, I₄, fun a o q => h2 _ _ (h1 _ _ (hS a o q)), J.mono h2 hP₂, J.smono h2 (J.smono h1 hsrc), ?_⟩
      rw [htake, List.filter_append, List.filter_cons_of_pos hpz, List.filter_nil]
      exact (hys.mono fun y j q => hF (fun a o z => ⟨h2 _ _ (h1 _ _ z.1), z.2⟩) q).snoc hFy
  · obtain rfl : i = n := by exact oN ‹_› ‹_›
    refine J.stop hh I hP hsrc fun s' I' => wpAny_pure ?_
    walk_at "q"
    refine done _ _ _ _ _ I' hS ?_
    have : (List.range i).take i = List.range i := List.take_of_length_le (by simp)
    rw [this] at hys
    unfold passing
    rw [List.drop_zero]; exact hys

theorem r_listcomp {Q : Value → Shared → Prop} (hh : A.handled = none) (hclos : closureFor scope env = pure cl) (hcell : ∀ y ∈ scope.names, y.2 ≠ .cell) (hkind : scope.kind = .function)
    (hnames : ∀ y ∈ scope.names, y.2 = .local → scope.names.lookup y.1 = some .local)
    (h : wpAny (model prog w) A (eval iter env) (fun xv s₁ => wpAny (model prog w) A (pyIter xv) (fun itv s₂ => ∃ (it : Addr) (io : Obj) (O : Og) (L : Addr) (m : Str → Option Value) (S : Addr → Obj → Prop) (tr : List (Addr × Obj)) (n : Nat) (Itm : (Addr → Obj → Prop) → Nat → Value → Prop) (ItP : (Addr → Obj → Prop) → Nat → Obj → Prop) (Src : (Addr → Obj → Prop) → Prop) (pz : Nat → Bool) (F : Nat → Value → (Addr → Obj → Prop) → Prop),
      itv = .ref it ∧ FIn gB O L m S ((it, io) :: tr) s₂ ∧ Itr prog w gB it n Itm ItP Src ∧ ItP S 0 io ∧ Src S ∧ n ≤ 1000 ∧ (∀ {i v} {S S' : Addr → Obj → Prop}, (∀ a o, S a o → S' a o) → F i v S → F i v S') ∧ (∀ p ∈ tr, NT p.2) ∧
      LcBody prog w gB A (fun a o => S a o ∨ (a, o) ∈ tr) it n Itm Src pz F target elt ifs (fun C => compEnvC scope cl C env) ∧
      (∀ q ys c S' s', (∀ a o, S a o → S' a o) → FIn gB O L m S' ((q, lst ys c) :: tr) s' → All2 (fun y i => F i y S') ys (passing pz n 0) → s₂.heap.get? q = none → Q (.ref q) s')) E s₁) E s)
    (hs : ∀ x, foldedSetIterable iter env x = pure x := by intro _; rfl) :
    wpAny (model prog w) A (eval (.ListComp elt [⟨target, iter, ifs, 0⟩] scope pos) env) Q E s := by
  rw [eval_ListComp]
  refine wpAny_comprehension_free (use := none) rfl hs hclos hkind hnames (wpAny_mono h (fun xv s₁ h₁ => wpAny_mono h₁ (fun it s₂ h₂ => ?_) fun _ _ e => e) fun _ _ e => e)
  obtain ⟨it, io, O, L, m, S, tr, n, Itm, ItP, Src, pz, F, rfl, I, J, hP, hsrc, hn, hF, hnt, body, hQ⟩ := h₂
  have hqf : s₂.heap.get? s₂.heap.objs.size = none := Heap.get?_none_of_le (Nat.le_refl _)
  refine r_newlist I fun acc s₃ hacc I₁ => ?_
  walk_at "q"
  refine wpAny_newFunctionEnv hcell (by intro y hy; simp at hy) (fun h₁ hns₁ hsb₁ => ?_) hkind
  have I₁c := I₁
  have hold : ∀ b o, s₃.heap.get? b = some o → h₁.get? b = some o := fun b o e =>
    hsb₁.extBut b o (Nat.ne_of_lt (Heap.lt_size e)) (Heap.get?_push_of_some _ e)
  have I₂ := I₁.keeps (tk := s₃.toks + ([] : List (Str × Value)).length) hold
  have hCL : s₃.heap.objs.size ≠ L := Nat.ne_of_gt I₁.L_lt
  have nd := I₁.nd
  simp only [List.map_cons, List.nodup_cons, List.mem_cons, not_or] at nd
  have hitC : it ≠ s₃.heap.objs.size := Nat.ne_of_lt (Heap.lt_size (I₁.at (i := 1) rfl))
  have haccC : acc ≠ s₃.heap.objs.size := Nat.ne_of_lt (Heap.lt_size (I₁.at (i := 0) rfl))
  have Ic : FIn gB O s₃.heap.objs.size (fun x => List.lookup x ([] : List (Str × Value)).reverse) (fun a o => h₁.get? a = some o ∧ a ≠ s₃.heap.objs.size ∧ a ∉ tabP ∧ a ≠ it ∧ a ≠ acc) [(it, io), (acc, lst [] 0)] { s₃ with heap := h₁, toks := s₃.toks + ([] : List (Str × Value)).length } := by
    refine ⟨I₂.wd, hns₁, I₁.wd.sz, fun a o q => ⟨q.1, q.2.1, q.2.2.1, by simp [q.2.2.2]⟩, fun p hp => ?_, by simp; exact fun e => nd.1.1 e.symm, I₁.bare, I₁.os⟩
    simp only [List.mem_cons, List.not_mem_nil, or_false] at hp
    rcases hp with rfl | rfl
    · exact ⟨I₂.at (i := 1) rfl, hitC, I₁.new (i := 1) rfl⟩
    · exact ⟨I₂.at (i := 0) rfl, haccC, I₁.new (i := 0) rfl⟩
  have hSS : ∀ a o, (S a o ∨ (a, o) ∈ tr) → h₁.get? a = some o ∧ a ≠ s₃.heap.objs.size ∧ a ∉ tabP ∧ a ≠ it ∧ a ≠ acc := fun a o q => by
    rcases q with q | q
    · refine xa0_4 (I₁.st a o q) fun a1 a2 a3 a4 => ?_
      simp only [List.map_cons, List.mem_cons, not_or] at a4
      exact ⟨hold _ _ a1, Nat.ne_of_lt (Heap.lt_size a1), a3, a4.2.1, a4.1⟩
    · refine xa0_3 (I₁.tk (a, o) (.tail _ (.tail _ q))) fun a1 a2 a3 => ?_
      have hm : a ∈ tr.map (·.1) := List.mem_map_of_mem (f := (·.1)) q
      exact ⟨hold _ _ a1, Nat.ne_of_lt (Heap.lt_size a1), I₁.wd.notTab a3, fun e => nd.2.1 (e ▸ hm), fun e => nd.1.2 (e ▸ hm)⟩
  have hLst : ∀ o, s₃.heap.get? L = some o → h₁.get? L = some o ∧ L ≠ s₃.heap.objs.size ∧ L ∉ tabP ∧ L ≠ it ∧ L ≠ acc := fun o e =>
    ⟨hold _ _ e, hCL.symm, I₁.wd.notTab I₁.lL, fun q => I₁.neL (i := 1) rfl q.symm, fun q => I₁.neL (i := 0) rfl q.symm⟩
  refine xa3_3 (id I₁.ns) fun oL esL epL hoL hdL hrL => ?_
  have hmonoS : ∀ a o, S a o → h₁.get? a = some o ∧ a ≠ s₃.heap.objs.size ∧ a ∉ tabP ∧ a ≠ it ∧ a ≠ acc := fun a o q => hSS a o (.inl q)
  have loop : codeAny (model prog w) A (.compLoop (.ListComp elt [⟨target, iter, ifs, 0⟩] scope pos) 0 (.ref it) (.ref acc) (compEnvC scope cl s₃.heap.objs.size env)) (compPost (model prog w) A E none Q (.ref acc) s₃.heap.objs.size) { s₃ with heap := h₁, toks := s₃.toks + ([] : List (Str × Value)).length } := by
    refine lc_loop (F := F) (pz := pz) (envOf := fun C => compEnvC scope cl C env) (S := fun a o => h₁.get? a = some o ∧ a ≠ s₃.heap.objs.size ∧ a ∉ tabP ∧ a ≠ it ∧ a ≠ acc) hh J hF hn (fun C O m' S' s E io acc ys c i v h1 h2 h3 h4 h5 => body C O m' S' s E io acc ys c i v h1 h2 (fun a o q => h3 a o (hSS a o q)) h4 h5)
      (fun m' S' ys c s' I' hS' hys => ⟨m', I'.ns, fun h' hs' => ?_⟩) n 0 _ _ io [] 0 _ (Nat.sub_zero _) (Nat.zero_le _) Ic (fun _ _ q => q) (J.mono hmonoS hP) (J.smono hmonoS hsrc) (by simpa using All2.nil)
    have W' : Wd gB h' := I'.wd.same I₁.wd.sz hs'
    have keepC : ∀ a o, S' a o → h'.get? a = some o := fun a o q => (hs'.2 a (I'.st a o q).2.1).trans (I'.st a o q).1
    have hnsL : h'.Ns L m := ⟨oL, esL, epL, keepC _ _ (hS' _ _ (hLst _ hoL)), hdL, hrL⟩
    have hfin : FIn gB O L m (fun a o => S a o ∨ onlyTup S' a o) ((acc, lst ys c) :: tr) { s' with heap := h' } := by
      refine ⟨W', hnsL, I₁.lL, fun a o q => ?_, fun p hp => ?_, ?_, I'.bare, I'.os⟩
      · rcases q with q | ⟨q, hc, vs, nn, hd⟩
        · refine xa0_4 (I₁.st a o q) fun a1 a2 a3 a4 => ?_
          simp only [List.map_cons, List.mem_cons, not_or] at a4
          exact ⟨keepC _ _ (hS' _ _ (hmonoS a o q)), a2, a3, by simp only [List.map_cons, List.mem_cons, not_or]; exact ⟨a4.1, a4.2.2⟩⟩
        · refine xa0_4 (I'.st a o q) fun b1 b2 b3 b4 => ?_
          refine ⟨keepC _ _ q, fun e => ?_, b3, fun e => ?_⟩
          · have := keepC _ _ (hS' _ _ (hLst _ hoL))
            rw [← e, keepC _ _ q] at this
            cases this
            rw [hd] at hdL; cases hdL
          · simp only [List.map_cons, List.mem_cons] at e
            rcases e with e | e
            · exact b4 (by simp [e])
            · refine xa1_2 (List.mem_map.mp e) fun p hp e => ?_
              have := keepC _ _ (hS' _ _ (hSS p.1 p.2 (.inr hp)))
              rw [e, keepC _ _ q] at this
              cases this
              exact hnt p hp ⟨hc, vs, nn, hd⟩
      · rcases List.mem_cons.mp hp with rfl | hp
        · exact ⟨(hs'.2 _ haccC).trans (I'.at (i := 0) rfl), I₁.neL (i := 0) rfl, I₁.new (i := 0) rfl⟩
        · have := I₁.tk p (.tail _ (.tail _ hp))
          exact ⟨keepC _ _ (hS' _ _ (hSS p.1 p.2 (.inr hp))), this.2⟩
      · simp only [List.map_cons, List.nodup_cons]
        exact ⟨nd.1.2, nd.2.2⟩
    exact hQ acc ys c _ _ (fun a o q => .inl q) hfin (hys.mono fun y i q => hF (fun a o z => .inr z) q) (hacc ▸ hqf)
  exact codeAny_compStart_list loop (J.self Ic (J.mono hmonoS hP) loop)
end
end Mine
end
section
open PySem PySem.W PySem.Calls PyProof.Rows
open Sem (wp)
namespace Mine
noncomputable def stI (b : Nat) : List Nat := [0, 1, 2, 3].filter fun i => b.testBit i
noncomputable def TI (b : Nat) (led : Bool) : SetTable := { mask := 7, place := (stI b).toArray, dummies := #[], finger := 0, led, moves := 0, plain := true }
noncomputable def chI (b i : Nat) (led : Bool) : Bool :=
  b.testBit i ||
  (match (TI b led).freeSlot (i : Int) with
  | some (slot, wd) => !wd && decide (((TI b led).put slot).1 = TI (b ||| (1 <<< i)) led) && decide (stI (b ||| (1 <<< i)) = (stI b).take ((TI b led).put slot).2 ++ i :: (stI b).drop ((TI b led).put slot).2) && !(TI (b ||| (1 <<< i)) led).tooFull
  | none => false)
theorem chI_all : ∀ b, b < 16 → ∀ i, i < 4 → ∀ led, chI b i led = true := by decide +kernel
theorem chI_same : ∀ b, b < 16 → ∀ i, i < 4 → b.testBit i = true → b ||| (1 <<< i) = b := by decide +kernel
theorem ti_fits : ∀ b, b < 16 → ∀ led, (TI b led).fits (stI b).length = true := by decide +kernel
theorem stI_len (b : Nat) : (stI b).length ≤ 4 := List.length_filter_le _ _
theorem mem_stI {b i : Nat} : i ∈ stI b ↔ i < 4 ∧ b.testBit i = true := by
  unfold stI
  rw [List.mem_filter]
  simp only [List.mem_cons, List.not_mem_nil, or_false]
  refine and_congr_left fun _ => ?_
  walk_at "q"
  omega
noncomputable def bits : List Nat → Nat := fun xs => xs.foldl (fun b x => b ||| (1 <<< x)) 0
theorem intHash_small : ∀ i : Nat, i < 4 → hashInt (i : Int) = (i : Int) := by decide +kernel

noncomputable def IElem (e : Int × Value) (i : Nat) : Prop := e.1 = (i : Int) ∧ ∃ t, e.2 = .int (i : Int) t
noncomputable def ISet (led : Bool) (b : Nat) (o : Obj) : Prop :=
  ∃ es ep, o = { cls := .type "set", dict := none, data := .set es ep (TI b led) } ∧ All2 IElem es.toList (stI b)
theorem ISet.fresh (led : Bool) : ISet led 0 (freshSet led) := by
  have e : stI 0 = [] := by decide
  refine ⟨#[], 0, ?_, by rw [e]; exact .nil⟩
  have : TI 0 led = SetTable.fresh 0 0 led := by unfold TI; rw [e]; rfl
  rw [this]
section
variable {prog : Program} {w : World} {gB : Heap} {O O' : Og} {L : Addr} {m : Str → Option Value} {S S' : Addr → Obj → Prop} {tr tr' : List (Addr × Obj)} {s : Shared} {A : Around} {E : Value → Shared → Prop} {env : Env} {mg mb : Str → Option Value}
theorem All2.memL {α β : Type} {R : α → β → Prop} {as : List α} {bs : List β} (h : All2 R as bs) {b : β} (hb : b ∈ bs) : ∃ a ∈ as, R a b := by
  induction h with
  | nil => cases hb
  | cons h1 _ ih =>
    cases hb with
    | head => exact ⟨_, .head _, h1⟩
    | tail _ hb => obtain ⟨a, ha, h2⟩ := ih hb; exact ⟨a, .tail _ ha, h2⟩
theorem ISet.elems {led : Bool} {b : Nat} {es : Array (Int × Value)} (h : All2 IElem es.toList (stI b)) : ElemsOf (intKind prog w) es.toList := fun e he => by
  obtain ⟨i, hi, h1, t, h2⟩ := h.mem he
  have hi4 := (mem_stI.mp hi).1
  refine ⟨⟨(i : Int), by rw [h2]; exact intKind_is _ _ _ _, ?_⟩, by rw [h2]; rfl⟩
  rw [h1]
  exact (intHash_small i hi4).symm
theorem ISet.has {b : Nat} {es : Array (Int × Value)} (h : All2 IElem es.toList (stI b)) (k : Int) : (∃ e ∈ es.toList, (intKind prog w).is k e.2 = true) ↔ ∃ i ∈ stI b, k = (i : Int) := by
  constructor
  · intro hp1
    refine xa1_2 (hp1) fun e he hk => ?_
    obtain ⟨i, hi, h1, t, h2⟩ := h.mem he
    refine ⟨i, hi, ?_⟩
    rw [h2] at hk
    refine xa1_1 (isInt_shape hk) fun t' e' => ?_
    cases e'; rfl
  · intro hp2
    refine xa1_2 (hp2) fun i hi he3 => ?_
    obtain rfl := he3
    obtain ⟨e, he, h1, t, h2⟩ := h.memL hi
    exact ⟨e, he, by rw [h2]; exact intKind_is _ _ _ _⟩
theorem ISet.setO {led : Bool} {b : Nat} {o : Obj} (hb : b < 16) (h : ISet led b o) : SetO prog w o (fun k => (stI b).any fun i => decide (k = (i : Int))) (stI b).length := by
  refine xa2_2 (h) fun es ep he4 hA => ?_
  obtain rfl := he4
  have hlen : es.size = (stI b).length := by have := hA.length; simpa using this
  refine ⟨es, ep, _, ⟨rfl, rfl, rfl⟩, rfl, ISet.elems (led := led) hA, fun k => ?_, ?_, by rw [hlen]; exact ti_fits b hb led, hlen⟩
  · rw [ISet.has hA]; simp
  · have := stI_len b; rw [hlen]; unfold scanBound; exact oM ‹_› (by exact rfl)

theorem r_iadd {q : Addr} {i b x : Nat} {t : Tok} {led : Bool} {o : Obj} {Q : Bool → Shared → Prop} (I : FIn gB O L m S tr s) (hi : tr[i]? = some (q, o)) (hO : ISet led b o) (hb : b < 16) (hx : x < 4)
    (h : ∀ s' o' r, FIn gB O L m S (tr.set i (q, o')) s' → ISet led (b ||| (1 <<< x)) o' → Q r s') : wpAny (model prog w) A (setAdd q (.int (x : Int) t)) Q E s := by
  refine xa2_2 (hO) fun es ep he5 hA => ?_
  obtain rfl := he5
  have hlen : es.size = (stI b).length := by have := hA.length; simpa using this
  have hfit : (TI b led).fits es.size = true := by rw [hlen]; exact ti_fits b hb led
  have hl4 := stI_len b
  have hel : ElemsOf (intKind prog w) es.toList := ISet.elems (led := led) hA
  unfold setAdd
  refine wpAny_holding ?_
  walk_at "q"
  refine wpAny_bind ((intKind prog w).pyHash (k := (x : Int)) (intKind_is _ _ _ _) ?_)
  walk_at "q"
  have I₁ := I.toks (s.toks + 1)
  generalize ({ s with toks := s.toks + 1 } : Shared) = s₁ at I₁ ⊢
  have hq := I₁.at hi
  have hh : (intKind prog w).hash (x : Int) = (x : Int) := intHash_small x hx
  unfold setAddHashed setAddHashedIn
  refine wpAny_holding (wpAny_bind (wpAny_setState_of hq rfl hfit ?_))
  walk_at "q"
  dsimp only
  rw [byScan_of (knd := intKind prog w) rfl (by rw [hlen]; unfold scanBound; exact oM ‹_› (by exact rfl)) hel]
  simp only [↓reduceIte]
  unfold setAddByScan
  refine wpAny_bind ?_
  walk_at "q"
  refine wpAny_bind (wpAny_rule ?_)
  walk_at "q"
  refine wpAny_bind (wpAny_setScan_of (knd := intKind prog w) (intKind_is _ _ _ _) hq rfl hfit hel ?_)
  walk_at "q"
  have hmem : (∃ e ∈ es.toList, (intKind prog w).is (x : Int) e.2 = true) ↔ b.testBit x = true := by
    rw [ISet.has hA]
    constructor
    · intro hp6
      refine xa1_2 (hp6) fun i hi e => ?_
      have : x = i := by omega
      exact this ▸ (mem_stI.mp hi).2
    · intro q; exact ⟨x, mem_stI.mpr ⟨hx, q⟩, rfl⟩
  cases hr : List.findIdx? (fun e => (intKind prog w).is (x : Int) e.2) es.toList with
  | some j =>
    dsimp only
    obtain ⟨hj, hpj, _⟩ := List.findIdx?_eq_some_iff_getElem.mp hr
    have hbit := hmem.mp ⟨es.toList[j], List.getElem_mem hj, hpj⟩
    have hsame : tr.set i (q, { cls := .type "set", dict := none, data := .set es ep (TI b led) }) = tr := PySem.W.X.set_same hi
    refine wpAny_pure (wpAny_pure (h s₁ { cls := .type "set", dict := none, data := .set es ep (TI b led) } _ (by rw [hsame]; exact I₁) ?_))
    walk_at "q"
    rw [chI_same b hb x hx hbit]
    exact ⟨es, ep, rfl, hA⟩
  | none =>
    dsimp only
    have hbit : b.testBit x = false := by
      cases q : b.testBit x with
      | false => rfl
      | true => obtain ⟨e, he, hp⟩ := hmem.mpr q; have := List.findIdx?_eq_none_iff.mp hr e he; rw [hp] at this; exact Bool.noConfusion this
    have hk := chI_all b hb x hx led
    unfold chI at hk
    rw [hbit, Bool.false_or] at hk
    have hb' := bit_lt b hb x hx
    refine xa1_4 (show ∃ es1, layNew (TI b led) es (x : Int) (.int (x : Int) t) = (es1, TI (b ||| (1 <<< x)) led, false, false) ∧ All2 IElem es1.toList (stI (b ||| (1 <<< x))) ∧ es1.size = es.size + 1 ∧ (TI (b ||| (1 <<< x)) led).tooFull = false from by
      cases hfs : (TI b led).freeSlot (x : Int) with
      | none => rw [hfs] at hk; simp at hk
      | some p =>
        obtain ⟨slot, wd⟩ := p
        rw [hfs] at hk
        dsimp only at hk
        simp only [Bool.and_eq_true, decide_eq_true_eq, Bool.not_eq_true'] at hk
        obtain ⟨⟨⟨k1, k2⟩, k3⟩, k4⟩ := hk
        have hsz : (SetTable.insertAt es ((TI b led).put slot).2 ((x : Int), Value.int (x : Int) t)).size = es.size + 1 := by
          have := (SetTable.insertAt_perm es ((TI b led).put slot).2 ((x : Int), Value.int (x : Int) t)).length_eq
          rw [Array.length_toList, Array.length_toList, Array.size_push] at this
          exact this
        have hA' : All2 IElem (SetTable.insertAt es ((TI b led).put slot).2 ((x : Int), Value.int (x : Int) t)).toList (stI (b ||| (1 <<< x))) := by
          rw [SetTable.toList_insertAt, k3]
          exact (hA.take _).append (.cons ⟨rfl, t, rfl⟩ (hA.drop _))
        have hsz' : (SetTable.insertAt es ((TI b led).put slot).2 ((x : Int), Value.int (x : Int) t)).size = (stI (b ||| (1 <<< x))).length := by have := hA'.length; simpa using this
        have hfit' : (TI (b ||| (1 <<< x)) led).fits (SetTable.insertAt es ((TI b led).put slot).2 ((x : Int), Value.int (x : Int) t)).size = true := by rw [hsz']; exact ti_fits _ hb' led
        refine ⟨_, ?_, hA', hsz, k4⟩
        unfold layNew
        rw [hfs]
        dsimp only
        rw [k2, hfit', k1]
        unfold SetTable.orStandIn
        rw [if_pos hfit']; rfl) fun es1 hL hA' hsz htf => ?_
    rw [hh, hL]
    dsimp only
    show wpAny _ _ (pure () >>= _) _ _ _
    refine wpAny_bind (wpAny_pure ?_)
    walk_at "q"
    first | refine wifT (show (TI (b ||| (1 <<< x)) led).plain = true from rfl) ?_ | refine ifT (show (TI (b ||| (1 <<< x)) led).plain = true from rfl) ?_ | rw [if_pos (show (TI (b ||| (1 <<< x)) led).plain = true from rfl)]
    refine wpAny_bind ?_
    walk_at "q"
    rw [hashByValue_scannable 8 rfl]
    refine wpAny_pure ?_
    walk_at "q"
    first | refine wifT (show plainKind (Value.int (x : Int) t) = true from rfl) ?_ | refine ifT (show plainKind (Value.int (x : Int) t) = true from rfl) ?_ | rw [if_pos (show plainKind (Value.int (x : Int) t) = true from rfl)]
    refine wpAny_bind (wpAny_storeSet_of hq rfl ?_ (by rw [hsz, sizeLine_eq]; omega))
    rw [htf]
    first | refine wifF Bool.false_ne_true ?_ | refine wifF (by decide) ?_ | refine ifF (by decide) ?_ | rw [if_neg (by decide)]
    refine wpAny_pure (wpAny_pure ?_)
    walk_at "q"
    have hg := Heap.get?_update_self (h := s₁.heap) (a := q) (Obj.putSet es1 (TI (b ||| (1 <<< x)) led)) hq rfl
    exact h _ _ _ (I₁.turn (tk := s₁.toks) hi (Heap.SameBut.update ..) hg) ⟨_, ep + 1, rfl, hA'⟩
end
end Mine
end
section
open PySem PySem.W PySem.Calls PyProof.Rows
open Sem (wp)
namespace Mine
section
variable {prog : Program} {w : World} {gB : Heap} {O O' : Og} {L : Addr} {m : Str → Option Value} {S S' : Addr → Obj → Prop} {tr tr' : List (Addr × Obj)} {s : Shared} {A : Around} {E : Value → Shared → Prop} {env : Env} {mg mb : Str → Option Value}

noncomputable abbrev ledOf (w : World) : Bool := !w.params.followText "set-order"
noncomputable abbrev Nats (vs : List Value) (xs : List Nat) : Prop := All2 (fun v (x : Nat) => ∃ t, v = .int (x : Int) t) vs xs
theorem bits_snoc (xs : List Nat) (x : Nat) : bits (xs ++ [x]) = bits xs ||| (1 <<< x) := by unfold bits; rw [List.foldl_append]; rfl
theorem bits_lt : ∀ (xs : List Nat) (b : Nat), b < 16 → (∀ x ∈ xs, x < 4) → xs.foldl (fun b x => b ||| (1 <<< x)) b < 16
  | [], _, h, _ => h
  | x :: xs, b, h, hx => bits_lt xs _ (bit_lt b h x (hx x (.head _))) fun y hy => hx y (.tail _ hy)

theorem iset_loop {l it dd : Addr} {items : List Value} {xs : List Nat} {R : Result → Shared → Prop} (hh : A.handled = none) (hl : ∃ lo, S l lo ∧ LstO items lo) (hx : Nats items xs) (hx4 : ∀ x ∈ xs, x < 4)
    (hR : ∀ s' o, FIn gB O L m S ((dd, o) :: tr) s' → ISet (ledOf w) (bits xs) o → R (.ok (.ret .none)) s') :
    ∀ (r j : Nat) (s : Shared) (io o : Obj), items.length - j = r → j ≤ items.length → FIn gB O L m S ((it, io) :: (dd, o) :: tr) s → LIt l j io → ISet (ledOf w) (bits (xs.take j)) o →
      codeAny (model prog w) A (.builtin "set.update.loop" ⟨[.ref dd, .ref it], []⟩) R s := by
  intro r
  induction r with
  | zero =>
    intro j s io o hr hj I hP hD
    obtain rfl : j = items.length := by omega
    refine codeAny_builtin PyProof.Rows.F.entry_set_update_loop ?_
    walk_at "q"
    rw [Around.under_plainId PyProof.Rows.F.plain_set_update_loop _]
    show wpAny _ A.in1 (pyNext (.ref it) >>= _) _ _ s
    refine wpAny_bind ((listIter (prog := prog) (w := w)).stop (A := A.in1) hh I hP hl fun s' I' => ?_)
    walk_at "q"
    show wpAny _ _ (ret Value.none) _ _ _
    rw [List.take_of_length_le (by rw [← hx.length]; assumption)] at hD
    exact wpAny_pure (hR s' o I' hD)
  | succ r ih =>
    intro j s io o hr hj I hP hD
    have hlt : j < items.length := by exact oS1 ‹_›
    refine codeAny_builtin PyProof.Rows.F.entry_set_update_loop ?_
    walk_at "q"
    rw [Around.under_plainId PyProof.Rows.F.plain_set_update_loop _]
    show wpAny _ A.in1 (pyNext (.ref it) >>= _) _ _ s
    refine wpAny_bind ((listIter (prog := prog) (w := w)).next hlt I hP hl fun io' s' hP' I' => ?_)
    walk_at "q"
    obtain ⟨x, hxj, t, hv⟩ := hx.getD hlt .none
    rw [hv]
    have hxm : x < 4 := hx4 x (List.mem_of_getElem? hxj)
    have hb : bits (xs.take j) < 16 := bits_lt _ 0 (by decide) fun y hy => hx4 y (List.mem_of_mem_take hy)
    show wpAny _ _ (holding [Value.int x t] (setAdd dd (.int x t)) >>= _) _ _ _
    refine wpAny_bind (wpAny_holding (r_iadd (i := 1) I' rfl hD hb hxm fun s₂ o₂ b I₂ hD₂ => ?_))
    walk_at "q"
    refine wpAny_pure ⟨plainId_quiet PyProof.Rows.F.plain_set_update_loop _, ?_⟩
    refine ih (j + 1) s₂ io' o₂ (by exact oS ‹_›) hlt I₂ hP' ?_
    rw [List.take_add_one, hxj]
    show ISet _ (bits (xs.take j ++ [x])) _
    rw [bits_snoc]; exact hD₂

theorem code_set_new_led (a : Value) {Q₁ : Value → Shared → Prop}
    (h : Q₁ (.ref s.heap.objs.size) { s with heap := s.heap.push (freshSet (ledOf w)) }) :
    codeAny (model prog w) A (.call (.builtin "set.__new__") ⟨[.type "set", a], []⟩) (wants Q₁ E) s := by
  refine codeAny_of_tree ?_
  show wpAny _ A.in1 (do checkBuiltinCall "set.__new__" ⟨[.type "set", a], []⟩; again (.builtin "set.__new__" ⟨[.type "set", a], []⟩)) _ _ s
  refine wpAny_bind (wpAny_of_eq (PySem.F.newCall_set_1 a) (wpAny_pure ⟨plainId_quiet PySem.F.plain_set_new _, codeAny_builtin PySem.F.entry_set_new ?_⟩))
  rw [Around.under_plainId PySem.F.plain_set_new _]
  unfold Builtin.«set.__new__» Builtin.Frozenset.newClass
  have hsub := sub_set_self
  obtain ⟨hp, g, d, tk, os⟩ := s
  dsimp only
  wp_walk
  refine wpAny_askSetting (wpAny_pure ?_)
  walk_at "q"
  dsimp only
  simp only [newObj]
  refine wpAny_bind (wpAny_alloc (wpAny_pure ?_))
  walk_at "q"
  exact wpAny_pure h

set_option maxHeartbeats 3200000 in
theorem r_set_list {l : Addr} {lo : Obj} {items : List Value} {xs : List Nat} {Q : Value → Shared → Prop} (hh : A.handled = none) (I : FIn gB O L m S tr s) (hS : S l lo) (hl : LstO items lo) (hx : Nats items xs) (hx4 : ∀ x ∈ xs, x < 4)
    (h : ∀ a s' o, a = s.heap.objs.size → FIn gB O L m S ((a, o) :: tr) s' → ISet (ledOf w) (bits xs) o → Q (.ref a) s') :
    wpAny (model prog w) A (call (.type "set") [.ref l]) Q E s := by
  obtain ⟨c, tl, hmro⟩ := PySem.F.called_set.mro
  have hmade := PySem.F.called_set.made
  have hsub := PySem.F.called_set.sub
  refine wpAny_call (codeAny_of_tree ?_)
  walk_at "q"
  show wpAny _ _ (callAny (.type "set") _) _ _ _
  refine wpAny_pure ⟨Code.quiet_builtin _ (by decide +kernel), codeAny_builtin PySem.F.entry_type_call ?_⟩
  rw [Around.under_plain (weight_type_call_type "set" [.ref l] []) rfl]
  have h1 := PySem.F.called_set.notType
  have h2 := PySem.F.called_set.canCreate
  have hct := PySem.F.typeCall_set_1 (.ref l)
  repeat (any_goals (first | assumption | wp_step))
  refine codeAny_mono (code_set_new_led (.ref l) (E := E) (Q₁ := fun obj s₁ => obj = .ref s.heap.objs.size ∧ s₁ = { s with heap := s.heap.push (freshSet (ledOf w)) }) ⟨rfl, rfl⟩) fun r s₁ hr => ?_
  cases r with
  | error e => exact hr
  | ok fl =>
    cases fl with
    | ret obj =>
      obtain ⟨rfl, rfl⟩ := hr
      have hS₀ : (s.heap.push (freshSet (ledOf w))).get? s.heap.objs.size = some (freshSet (ledOf w)) := Heap.get?_push_size _ rfl
      have hT : Shared.TypeIs { s with heap := s.heap.push (freshSet (ledOf w)) } (.ref s.heap.objs.size) "set" := ⟨_, hS₀, rfl⟩
      have hli := PySem.F.called_set.init.lookup
      have hbi := PySem.F.called_set.init.bind (.ref s.heap.objs.size)
      repeat (any_goals (first | assumption | wp_step))
      refine codeAny_mono (codeAny_call_builtin (R := wants (fun r s₂ => r = .none ∧ Q (.ref s.heap.objs.size) s₂) E) PySem.F.called_set.init.plain PySem.F.entry_set_init (check_set_init_1 hT ?_)) fun r₂ s₂ hr₂ => ?_
      · have I₁ := I.push (freshSet (ledOf w)) s.toks
        have hl₁ := I₁.get hS
        obtain ⟨hl1, nl, hl2⟩ := id hl
        obtain ⟨ocls, odict, odata, oslots⟩ := lo
        simp only at hl1 hl2
        subst hl1; subst hl2
        have hsls := PySem.F.sub_list_set
        have hslf := PySem.F.sub_list_frozenset
        have hne : (Value.type "list" == Value.type "dict") = false := by decide
        unfold Builtin.«set.__init__» noKeywords Builtin.Frozenset.updateFrom
        generalize hPI : pyIter = PI
        wp_walk
        subst hPI
        refine wpAny_pyIter_list (items := items.toArray) ⟨_, hl₁, rfl, nl, rfl⟩ ?_
        walk_at "q"
        refine wpAny_bind (wpAny_runValue ?_)
        walk_at "q"
        refine iset_loop (A := A.in1.in1) (l := l) (dd := s.heap.objs.size) hh ⟨_, hS, hl⟩ hx hx4 (fun s' o I' hD' => ?_) items.length 0 _ _ (freshSet (ledOf w)) (by simp) (Nat.zero_le _) (I₁.push _ s.toks) ⟨rfl, rfl⟩ (ISet.fresh _)
        refine wpAny_pure ?_
        walk_at "q"
        show wpAny _ _ (ret Value.none) _ _ _
        exact wpAny_pure ⟨rfl, h _ s' o rfl I' hD'⟩
      · cases r₂ with
        | error e => exact hr₂
        | ok fl₂ =>
          cases fl₂ with
          | ret r =>
            obtain ⟨rfl, hq⟩ := hr₂
            repeat (any_goals (first | assumption | wp_step))
          | _ => exact hr₂.elim
    | _ => exact hr.elim
end
end Mine
end
section
open PySem PySem.W PySem.Calls PyProof.Rows
open Sem (wp)
namespace Mine
theorem pickGo_perm {α : Type} (f : Nat → Nat) : ∀ (n k : Nat) (left : List α) (out : Array α), left.length = n → (pickOrder.go f n k left out).toList.Perm (out.toList ++ left)
  | 0, k, left, out, h => by
    have : left = [] := List.eq_nil_of_length_eq_zero h
    subst this
    unfold pickOrder.go
    simp
  | n + 1, k, left, out, h => by
    unfold pickOrder.go
    have hlt : f k % left.length < left.length := Nat.mod_lt _ (by exact oS1 ‹_›)
    rw [List.getElem?_eq_getElem hlt]
    dsimp only
    refine (pickGo_perm f n (k + 1) _ _ (by rw [List.length_eraseIdx, if_pos hlt]; exact oS ‹_›)).trans ?_
    rw [Array.toList_push, List.append_assoc]
    refine List.Perm.append_left _ ?_
    rw [List.singleton_append]
    rw [List.eraseIdx_eq_take_drop_succ]
    refine List.perm_middle.symm.trans ?_
    have : left.take (f k % left.length) ++ left[f k % left.length] :: left.drop (f k % left.length + 1) = left := by
      rw [← List.drop_eq_getElem_cons hlt, List.take_append_drop]
    rw [this]
theorem pick_perm {α : Type} (f : Nat → Nat) (xs : Array α) : (pickOrder f xs).toList.Perm xs.toList := by
  unfold pickOrder
  have := pickGo_perm f xs.size 0 xs.toList #[] (by simp)
  simpa using this

noncomputable def walkOf (w : World) (a ep : Nat) (es : Array (Int × Value)) : Array (Int × Value) := if w.params.followText "set-order" then pickOrder (w.params.setOrder a ep) es else es
theorem walkOf_perm (w : World) (a ep : Nat) (es : Array (Int × Value)) : (walkOf w a ep es).toList.Perm es.toList := by
  unfold walkOf; split
  · exact pick_perm _ _
  · exact List.Perm.refl _
theorem walkOf_size (w : World) (a ep : Nat) (es : Array (Int × Value)) : (walkOf w a ep es).size = es.size := by
  have := (walkOf_perm w a ep es).length_eq
  simpa using this
noncomputable def slotI (b k : Nat) : Nat := if k = 0 then 0 else (stI b).getD (k - 1) 0 + 1
theorem below_ok : ∀ b, b < 16 → ∀ k, k < 5 → k ≤ (stI b).length → SetTable.below (stI b).toArray (slotI b k) = k := by decide +kernel
noncomputable def slotW (w : World) (b k : Nat) : Nat := if w.params.followText "set-order" then 0 else slotI b k

namespace F
theorem SIslot : Slot "set_iterator" "__next__" "set_iterator.__next__" :=
  .of (owner := "set_iterator") (n := "__next__") (by rw [typeLookup_type, builtinLookup_eq_fast]; kernel_rfl) (by decide +kernel) (by decide +kernel) (by decide +kernel) (.inl (by decide +kernel)) (by rw [isSubtype_type]; kernel_rfl)
theorem SIentry : entryFor table "set_iterator.__next__" = some Builtin.«set_iterator.__next__» := entryFor_of_tree (by kernel_rfl)
theorem SIargs (a : Value) : argsOk "set_iterator.__next__" ⟨[a], []⟩ := by unfold argsOk; kernel_rfl
theorem SIiter : entryFor table "set.__iter__" = some Builtin.«frozenset.__iter__» :=
  entryFor_alias (id' := "frozenset.__iter__") (by kernel_rfl) rfl (by decide +kernel) (by kernel_rfl)
theorem SIlen : typeLookup (.type "set") "__len__" = pure (some (.builtin "set.__len__")) := by rw [typeLookup_type, builtinLookup_eq_fast]; kernel_rfl
theorem SIsplit : splitId "set.__len__" = some ("set", "__len__") := by decide +kernel
end F
section
variable {prog : Program} {w : World} {gB : Heap} {O O' : Og} {L : Addr} {m : Str → Option Value} {S S' : Addr → Obj → Prop} {tr tr' : List (Addr × Obj)} {s : Shared} {A : Around} {E : Value → Shared → Prop} {env : Env} {mg mb : Str → Option Value}
variable {a it : Addr} {b ep : Nat} {es : Array (Int × Value)} {io : Obj}
noncomputable abbrev isetObj (w : World) (b ep : Nat) (es : Array (Int × Value)) : Obj := { cls := .type "set", dict := none, data := .set es ep (TI b (ledOf w)) }
theorem iset_fits (hb : b < 16) (hA : All2 IElem es.toList (stI b)) : (TI b (ledOf w)).fits es.size = true := by
  have : es.size = (stI b).length := by have := hA.length; simpa using this
  rw [this]; exact ti_fits b hb _

noncomputable def SIt (w : World) (a : Addr) (b n ep : Nat) (k : Nat) (io : Obj) : Prop := io.cls = .type "set_iterator" ∧ io.data = .fields #[.int (slotW w b k) 0, .int k 0, .ref a, .int n 0, .int ep 0]

theorem setNext_ok (hb : b < 16) (hA : All2 IElem es.toList (stI b)) (hg : s.heap.get? a = some (isetObj w b ep es)) {k : Nat} (hk : k ≤ es.size) {Q : Option (Value × Nat) → Shared → Prop}
    (h : Q (((walkOf w a ep es)[k]?).map fun e => (e.2, slotW w b (k + 1))) s) : wpAny (model prog w) A (setNext a (slotW w b k) k ep) Q E s := by
  have hlen : es.size = (stI b).length := by have := hA.length; simpa using this
  have hl4 := stI_len b
  unfold setNext setsByText
  refine wpAny_bind (wpAny_setState_of hg rfl (iset_fits hb hA) ?_)
  walk_at "q"
  dsimp only
  refine wpAny_bind (wpAny_bind (wpAny_askSetting (wpAny_pure ?_)))
  walk_at "q"
  show wpAny _ _ (if w.params.followText "set-order" = true then _ else _) _ _ _
  cases hT : w.params.followText "set-order" with
  | true =>
    first | refine wifT rfl ?_ | refine ifT rfl ?_ | rw [if_pos rfl]
    first | refine wifF Bool.false_ne_true ?_ | refine wifF (by simp) ?_ | refine ifF (by simp) ?_ | rw [if_neg (by simp)]
    refine wpAny_bind ?_
    walk_at "q"
    unfold setWalk setsByText
    refine wpAny_bind (wpAny_setState_of hg rfl (iset_fits hb hA) ?_)
    walk_at "q"
    dsimp only
    refine wpAny_bind (wpAny_bind (wpAny_askSetting (wpAny_pure ?_)))
    walk_at "q"
    show wpAny _ _ (if w.params.followText "set-order" = true then _ else _) _ _ _
    first | refine wifT hT ?_ | refine ifT hT ?_ | rw [if_pos hT]
    refine wpAny_bind (wpAny_askSetting (wpAny_pure (wpAny_pure ?_)))
    walk_at "q"
    unfold walkOf slotW at h
    rw [if_pos hT, if_pos hT] at h
    have : slotW w b k = 0 := by unfold slotW; rw [if_pos hT]
    rw [this]
    exact h
  | false =>
    first | refine wifF Bool.false_ne_true ?_ | refine wifF (by decide) ?_ | refine ifF (by decide) ?_ | rw [if_neg (by decide)]
    have hdr : (!(TI b (ledOf w)).plain && decide (es.size > 1)) = false := rfl
    show wpAny _ _ (if (!(TI b (ledOf w)).plain && decide (es.size > 1)) = true then _ else _) _ _ _
    rw [hdr, if_neg (by decide)]
    have hled : ledOf w = true := by unfold ledOf; rw [hT]; rfl
    refine wpAny_bind (wpAny_of_eq (a := ()) ?_ ?_)
    · show (if (!(ledOf w) && !es.isEmpty) = true then _ else pure ()) = pure ()
      rw [hled, if_neg (by simp)]
    refine wpAny_pure ?_
    walk_at "q"
    have hs : slotW w b k = slotI b k := by unfold slotW; rw [if_neg (by rw [hT]; decide)]
    have hs1 : slotW w b (k + 1) = slotI b (k + 1) := by unfold slotW; rw [if_neg (by rw [hT]; decide)]
    have hw : walkOf w a ep es = es := by unfold walkOf; rw [if_neg (by rw [hT]; decide)]
    rw [hs1, hw] at h
    have hp : (TI b (ledOf w)).place = (stI b).toArray := rfl
    rw [hs, hp, below_ok b hb k (by omega) (by exact oR' ‹_› ‹_›)]
    have he : es[k]? = es.toList[k]? := by simp
    have hq : (stI b).toArray[k]? = (stI b)[k]? := by simp
    rw [he] at h ⊢
    rw [hq]
    rcases hA.at k with ⟨h1, h2⟩ | ⟨e, x, h1, h2, h3, t, h4⟩
    · rw [h1] at h
      rw [h1, h2]
      exact h
    · rw [h1] at h
      rw [h1, h2]
      have : slotI b (k + 1) = x + 1 := by
        unfold slotI
        rw [if_neg (by omega), List.getD_eq_getElem?_getD, Nat.add_sub_cancel, h2]; rfl
      rw [this] at h
      exact h

theorem SI_item {k : Nat} {Q : Option Value → Shared → Prop} (hb : b < 16) (hA : All2 IElem es.toList (stI b)) (hi : s.heap.get? it = some io) (hI : SIt w a b es.size ep k io) (hg : s.heap.get? a = some (isetObj w b ep es)) (hlt : k < es.size)
    (hQ : ∀ h' io', h'.get? it = some io' → SIt w a b es.size ep (k + 1) io' → Heap.SameBut it s.heap h' → Q (some (((walkOf w a ep es)[k]?.map (·.2)).getD .none)) { s with heap := h' }) : wpAny (model prog w) A (pyNext (.ref it)) Q E s := by
  obtain ⟨hc, hd⟩ := hI
  have hT : s.TypeIs (.ref it) "set_iterator" := ⟨io, hi, hc⟩
  unfold pyNext
  refine wpAny_bind (wpAny_attempt (wpAny_callSpecial?_slot (name := Str.ofString "__next__") hT F.SIslot
    (wpAny_call_entry F.SIslot hT F.SIentry ?_ (F.SIargs _))))
  unfold Builtin.«set_iterator.__next__»
  refine wpAny_bind (wpAny_pure (wpAny_bind (wpAny_fieldsOf hi hd ?_)))
  walk_at "q"
  dsimp only
  refine wpAny_bind (wpAny_setEntries_of hg rfl (iset_fits hb hA) ?_)
  walk_at "q"
  first | refine wifF Bool.false_ne_true ?_ | refine wifF (by simp) ?_ | refine ifF (by simp) ?_ | rw [if_neg (by simp)]
  show wpAny _ _ (setNext a ((slotW w b k : Nat) : Int).toNat ((k : Nat) : Int).toNat ((ep : Nat) : Int).toNat >>= _) _ _ _
  simp only [Int.toNat_natCast]
  refine wpAny_bind (setNext_ok hb hA hg (Nat.le_of_lt hlt) ?_)
  walk_at "q"
  have hlt' : k < (walkOf w a ep es).size := by rw [walkOf_size]; exact hlt
  rw [Array.getElem?_eq_getElem hlt', Option.map_some]
  dsimp only
  refine wpAny_bind (wpAny_setField hi hd (by simp) ?_)
  walk_at "q"
  have hg1 := Heap.get?_update_self (h := s.heap) (Obj.mapFields (·.setIfInBounds 0 (rawInt ((slotW w b (k + 1) : Nat) : Int)))) hi (Obj.isFreed_of_fields (Obj.data_mapFields hd _))
  have hd1 : (Obj.mapFields (·.setIfInBounds 0 (rawInt ((slotW w b (k + 1) : Nat) : Int))) io).data = .fields #[.int (slotW w b (k + 1)) 0, .int k 0, .ref a, .int es.size 0, .int ep 0] := by rw [Obj.data_mapFields hd]; simp [rawInt]
  refine wpAny_bind (wpAny_setField (s := { s with heap := s.heap.update it (Obj.mapFields (·.setIfInBounds 0 (rawInt ((slotW w b (k + 1) : Nat) : Int)))) }) hg1 hd1 (by simp) ?_)
  walk_at "q"
  have hg2 := Heap.get?_update_self (h := s.heap.update it (Obj.mapFields (·.setIfInBounds 0 (rawInt ((slotW w b (k + 1) : Nat) : Int))))) (Obj.mapFields (·.setIfInBounds 1 (rawInt ((k : Int) + 1)))) hg1 (Obj.isFreed_of_fields (Obj.data_mapFields hd1 _))
  refine wpAny_pure ⟨_, rfl, wpAny_pure ?_⟩
  have := hQ _ _ hg2 ⟨(Obj.cls_mapFields ..).trans ((Obj.cls_mapFields ..).trans hc), by rw [Obj.data_mapFields hd1]; simp [rawInt]⟩ ((Heap.SameBut.update ..).trans (Heap.SameBut.update ..))
  rw [Array.getElem?_eq_getElem hlt', Option.map_some, Option.getD_some] at this
  exact this

theorem SI_end {Q : Option Value → Shared → Prop} (hh : A.handled = none) (hb : b < 16) (hA : All2 IElem es.toList (stI b)) (hi : s.heap.get? it = some io) (hI : SIt w a b es.size ep es.size io) (hg : s.heap.get? a = some (isetObj w b ep es))
    (hQ : ∀ h', Heap.ExtBut it s.heap h' → Q none { s with heap := h' }) : wpAny (model prog w) A (pyNext (.ref it)) Q E s := by
  obtain ⟨hc, hd⟩ := hI
  have hT : s.TypeIs (.ref it) "set_iterator" := ⟨io, hi, hc⟩
  unfold pyNext
  refine wpAny_bind (wpAny_attempt (wpAny_callSpecial?_slot (name := Str.ofString "__next__") hT F.SIslot
    (wpAny_call_entry F.SIslot hT F.SIentry ?_ (F.SIargs _))))
  unfold Builtin.«set_iterator.__next__»
  refine wpAny_bind (wpAny_pure (wpAny_bind (wpAny_fieldsOf hi hd ?_)))
  walk_at "q"
  dsimp only
  refine wpAny_bind (wpAny_setEntries_of hg rfl (iset_fits hb hA) ?_)
  walk_at "q"
  first | refine wifF Bool.false_ne_true ?_ | refine wifF (by simp) ?_ | refine ifF (by simp) ?_ | rw [if_neg (by simp)]
  show wpAny _ _ (setNext a ((slotW w b es.size : Nat) : Int).toNat ((es.size : Nat) : Int).toNat ((ep : Nat) : Int).toNat >>= _) _ _ _
  simp only [Int.toNat_natCast]
  refine wpAny_bind (setNext_ok hb hA hg (Nat.le_refl _) ?_)
  walk_at "q"
  rw [Array.getElem?_eq_none (by rw [walkOf_size]; exact Nat.le_refl _), Option.map_none]
  dsimp only
  refine wpAny_bind (wpAny_setField hi hd (by simp) ?_)
  walk_at "q"
  show wpAny _ _ (newExc (.type "StopIteration") [] >>= _) _ _ _
  refine wpAny_bind ?_
  walk_at "q"
  simp only [newExc, newTuple]
  refine wpAny_bind (wpAny_newObj_type ?_ (by size_fits))
  refine wpAny_bind (m := firstArgMember _ _) (wpAny_of_eq (a := Value.none) (by first | rfl | (simp only [firstArgMember]; rfl)) ?_)
  walk_at "q"
  refine wpAny_newObj_type ?_ (by size_fits)
  simp only [raiseNew]
  refine wpAny_bind (wpAny_handled ?_)
  walk_at "q"
  rw [show A.in1.handled = none from hh]
  refine wpAny_bind (wpAny_pure (wpAny_throw ?_))
  walk_at "q"
  refine wpAny_bind (wpAny_isInstance (T := "StopIteration") (b := true) ⟨_, Heap.get?_push_size _ rfl, rfl⟩ isSubtype_stop ?_)
  refine wpAny_pure ?_
  walk_at "q"
  exact hQ _ (((Heap.SameBut.update ..).extBut.push _).push _)

theorem SIter (hb : b < 16) (hA : All2 IElem es.toList (stI b)) : Iter prog w gB it es.size (fun k => ((walkOf w a ep es)[k]?.map (·.2)).getD .none) (SIt w a b es.size ep) (fun S => S a (isetObj w b ep es)) where
  next := fun {A O L m S tr s E io k Q} hk I hP hS h =>
    SI_item hb hA (I.tk _ (.head _)).1 hP (I.get hS) hk fun h' io' hi' hI' hs => h io' _ hI' (FIn.turn (i := 0) (tk := s.toks) I rfl hs hi')
  stop := fun {A O L m S tr s E io Q} hh I hP hS h =>
    SI_end hh hb hA (I.tk _ (.head _)).1 hP (I.get hS) fun h' hs => h _ (I.waste hs)
  go := fun {A O L m S tr s E io k Q} target v I hP h => go_plain (I.tk _ (.head _)).1 hP.1 (by decide) h
end
end Mine
end
section
open PySem PySem.W PySem.Calls PyProof.Rows
open Sem (wp)
namespace Mine
section
variable {prog : Program} {w : World} {gB : Heap} {O O' : Og} {L : Addr} {m : Str → Option Value} {S S' : Addr → Obj → Prop} {tr tr' : List (Addr × Obj)} {s : Shared} {A : Around} {E : Value → Shared → Prop} {env : Env} {mg mb : Str → Option Value}
variable {a it : Addr} {b ep : Nat} {es : Array (Int × Value)} {io : Obj}

theorem extend_loopR {res : Value} {n : Nat} {item : Nat → Value} {ItP : Nat → Obj → Prop} {Src : (Addr → Obj → Prop) → Prop} {q : Addr} {R : Result → Shared → Prop} (J : Iter prog w gB it n item ItP Src) (hh : A.handled = none) (hS : Src S) (hn : n ≤ 1000)
    (hR : ∀ s' c', FIn gB O L m S ((q, lst ((List.range n).map item) c') :: tr) s' → R (.ok (.ret res)) s') :
    ∀ (j k : Nat) (s : Shared) (io : Obj) (c : Nat), n - k = j → k ≤ n → FIn gB O L m S ((it, io) :: (q, lst ((List.range k).map item) c) :: tr) s → ItP k io →
      codeAny (model prog w) A (.builtin "list.extend.loop" ⟨[.ref q, .ref it, res], []⟩) R s := by
  intro j
  induction j with
  | zero =>
    intro k s io c hj hk I hP
    obtain rfl : k = n := by omega
    refine codeAny_builtin PySem.F.entry_extend_loop ?_
    rw [Around.under_plainId PySem.F.plain_extend_loop _]
    show wpAny _ A.in1 (pyNext (.ref it) >>= _) _ _ s
    exact wpAny_bind (J.stop hh I hP hS fun s' I' => wpAny_pure (hR s' c I'))
  | succ j ih =>
    intro k s io c hj hk I hP
    have hlt : k < n := by exact oS1 ‹_›
    refine codeAny_builtin PySem.F.entry_extend_loop ?_
    rw [Around.under_plainId PySem.F.plain_extend_loop _]
    show wpAny _ A.in1 (pyNext (.ref it) >>= _) _ _ s
    refine wpAny_bind (J.next hlt I hP hS fun io' s' hP' I' => ?_)
    walk_at "q"
    show wpAny _ A.in1 (updateSeq q (·.push (item k)) >>= _) _ _ _
    have hq := I'.at (i := 1) rfl
    refine xa1_1 (I'.seq (i := 1) rfl (·.push (item k)) (items' := (List.range k).map item ++ [item k]) (by simp) s'.toks) fun c' I'' => ?_
    refine wpAny_bind (wpAny_updateSeq hq rfl (wpAny_pure ⟨plainId_quiet PySem.F.plain_extend_loop _, ih (k + 1) _ io' c' (by exact oS ‹_›) hlt ?_ hP'⟩) ?_ ?_)
    · rw [List.range_succ, List.map_append]
      exact I''
    · show ((List.range k).map item).toArray.size ≤ sizeLine
      rw [List.size_toArray, List.length_map, List.length_range, sizeLine_eq]; exact oK ‹_› ‹_› (by exact rfl)
    · rw [Array.size_push, List.size_toArray, List.length_map, List.length_range, sizeLine_eq]; exact oK1 ‹_› ‹_› (by exact rfl)

theorem collect_iset {Q : List Value → Shared → Prop} (hh : A.handled = none) (hb : b < 16) (hA : All2 IElem es.toList (stI b)) (I : FIn gB O L m S tr s) (hS : S a (isetObj w b ep es))
    (h : ∀ vs s', vs.Perm (es.toList.map (·.2)) → FIn gB O L m S tr s' → Q vs s') : wpAny (model prog w) A (collect (.ref a)) Q E s := by
  have hsz : es.size ≤ 4 := by have h1 := hA.length; have h2 := stI_len b; simp at h1; exact oE ‹_› ‹_› (by exact rfl)
  unfold collect
  refine wpAny_bind (wpAny_runValue (codeAny_builtin entry_proto_collect' ?_))
  walk_at "q"
  rw [Around.under_plainId PySem.F.plain_proto_collect _]
  show wpAny _ A.in1 (newList [] >>= fun l => again (.builtin "list.__iadd__" ⟨[l, .ref a], []⟩)) _ _ s
  refine wpAny_bind (r_newlist I fun q s₁ hq I₁ => ?_)
  walk_at "q"
  refine wpAny_pure ⟨plainId_quiet PySem.F.plain_list_iadd _, codeAny_builtin entry_list_iadd' ?_⟩
  rw [Around.under_plainId PySem.F.plain_list_iadd _]
  show wpAny _ A.in1 (Builtin.List.listExtendWith (.ref q) (.ref a) (.ref q)) _ _ _
  have ha := I₁.get hS
  have hT : s₁.TypeIs (.ref a) "set" := ⟨_, ha, rfl⟩
  have hne : a ≠ q := fun e => (I₁.st _ _ hS).2.2.2 (by simp [e])
  unfold Builtin.List.listExtendWith
  refine wpAny_bind (wpAny_typeOf hT ?_)
  walk_at "q"
  have h1 : Builtin.List.listSameRef (.ref q) (.ref a) = false := by simp [Builtin.List.listSameRef, Ne.symm hne]
  have h2 : (Value.type "set" == Value.type "list") = false := by decide
  have h3 : (Value.type "set" == Value.type "tuple") = false := by decide
  simp only [h1, h2, h3, Bool.or_false, Bool.false_eq_true, if_false]
  refine wpAny_bind (wpAny_pyIter_slot hT PySem.F.slot_set_iter (wpAny_call_entry PySem.F.slot_set_iter hT F.SIiter ?_ (PySem.F.args_set_iter_1 _)))
  unfold Builtin.«frozenset.__iter__» Builtin.Frozenset.slot0 Builtin.Frozenset.addrOf
  refine wpAny_bind (wpAny_bind (m := slotArgs "__iter__" 0 _) (wpAny_pure (wpAny_pure ?_)))
  walk_at "q"
  unfold Builtin.Frozenset.sizeOf
  refine wpAny_bind (wpAny_bind (wpAny_setEntries_of ha rfl (iset_fits hb hA) (wpAny_pure ?_)))
  walk_at "q"
  refine wpAny_bind ?_
  walk_at "q"
  unfold setDrawn setsByText
  refine wpAny_bind (wpAny_setState_of ha rfl (iset_fits hb hA) ?_)
  walk_at "q"
  dsimp only
  refine wpAny_bind (wpAny_bind (wpAny_askSetting (wpAny_pure (wpAny_pure ?_))))
  walk_at "q"
  have hdr : (!(w.params.followText "set-order") && (!(TI b (ledOf w)).plain && decide (es.size > 1))) = false := by
    have : (TI b (ledOf w)).plain = true := rfl
    rw [this]; simp
  show wpAny _ _ (if (!(w.params.followText "set-order") && (!(TI b (ledOf w)).plain && decide (es.size > 1))) = true then _ else _) _ _ _
  rw [hdr, if_neg (by decide)]
  refine wpAny_bind (wpAny_pure ?_)
  walk_at "q"
  refine wpAny_bind ?_
  walk_at "q"
  unfold setEpoch
  refine wpAny_bind (wpAny_setState_of ha rfl (iset_fits hb hA) (wpAny_pure ?_))
  walk_at "q"
  refine wpAny_bind (wpAny_newObj_type ?_)
  walk_at "q"
  have I₂ := I₁.push { cls := .type "set_iterator", data := .fields #[rawInt 0, rawInt 0, .ref a, rawInt es.size, rawInt ep] } s₁.toks
  refine wpAny_pure ⟨_, rfl, "set_iterator", _, ⟨_, Heap.get?_push_size _ rfl, rfl⟩, F.SIslot.lookup, ?_⟩
  have hT₃ : Shared.TypeIs { s₁ with heap := s₁.heap.push { cls := .type "set_iterator", data := .fields #[rawInt 0, rawInt 0, .ref a, rawInt es.size, rawInt ep] } } (.ref a) "set" := ⟨_, I₂.get hS, rfl⟩
  refine wpAny_bind (wpAny_holding ?_)
  walk_at "q"
  unfold Builtin.List.listLengthHint
  refine wpAny_bind (wpAny_specialOf hT₃ F.SIlen ?_)
  walk_at "q"
  dsimp only
  simp only [F.SIsplit]
  refine wpAny_bind (wpAny_isInstance hT₃ PySem.sub_set_self ?_)
  walk_at "q"
  first | refine wifFb rfl ?_ | refine ifFb rfl ?_ | simp only [Bool.not_true, Bool.false_eq_true, if_false]
  refine wpAny_bind (wpAny_typeOf hT₃ ?_)
  walk_at "q"
  refine wpAny_pure ?_
  walk_at "q"
  show wpAny _ _ (rule "list.extend.makes-room" >>= fun _ => Builtin.List.listTouch (.ref q) >>= fun _ =>
    again (.builtin "list.extend.loop" ⟨[.ref q, .ref s₁.heap.objs.size, .ref q], []⟩)) _ _ _
  refine wpAny_bind (wpAny_rule (wpAny_bind ?_))
  walk_at "q"
  show wpAny _ _ (updateSeq q (·.push .none) >>= fun _ => updateSeq q (·.pop)) _ _ _
  have hq₃ := I₂.at (i := 1) rfl
  refine xa1_1 (I₂.seq (i := 1) rfl (·.push .none) (items' := [.none]) rfl s₁.toks) fun c₄ I₄ => ?_
  refine wpAny_bind (wpAny_updateSeq hq₃ rfl ?_)
  walk_at "q"
  have hq₄ := I₄.at (i := 1) rfl
  refine xa1_1 (I₄.seq (i := 1) rfl (·.pop) (items' := []) rfl s₁.toks) fun c₅ I₅ => ?_
  refine wpAny_updateSeq (hz := by simp [sizeLine_eq]) hq₄ rfl ?_
  walk_at "q"
  refine wpAny_pure ⟨plainId_quiet PySem.F.plain_extend_loop _, ?_⟩
  have hs0 : slotW w b 0 = 0 := by unfold slotW slotI; split <;> rfl
  refine extend_loopR (q := q) (SIter (ep := ep) hb hA) (A := A) hh hS (by exact oL ‹_› (by exact rfl)) (fun s' c' I' => ?_) es.size 0 _ _ c₅ rfl (Nat.zero_le _) I₅ ⟨rfl, by rw [hs0]; rfl⟩
  have hlst := I'.at (i := 0) rfl
  show wpAny _ _ (load q >>= _) _ _ _
  refine wpAny_bind (wpAny_load hlst ?_)
  walk_at "q"
  refine wpAny_pure (h _ s' ?_ (I'.sub (List.sublist_cons_self ..)))
  have e : (List.range es.size).map (fun k => ((walkOf w a ep es)[k]?.map (·.2)).getD Value.none) = (walkOf w a ep es).toList.map (·.2) := by
    apply List.ext_getElem
    · simp [walkOf_size]
    · intro i h1 h2
      simp [walkOf_size] at h1 h2
      simp [walkOf_size, h1]
  show ((List.range es.size).map (fun k => ((walkOf w a ep es)[k]?.map (·.2)).getD Value.none)).Perm _
  rw [e]
  exact (walkOf_perm w a ep es).map _

theorem FIn.turnX {q : Addr} {o o' : Obj} (I : FIn gB O L m S ((q, o) :: tr) s) {h' : Heap} {tk : Nat} (hs : Heap.ExtBut q s.heap h') (ho' : h'.get? q = some o') : FIn gB O L m S ((q, o') :: tr) { s with heap := h', toks := tk } := by
  have hq := I.tk (q, o) (.head _)
  have nd := I.nd
  simp only [List.map_cons, List.nodup_cons] at nd
  exact (I.waste hs).track ho' hq.2.1 hq.2.2 (fun x hx => (I.st q x hx).2.2.2 (by simp)) nd.1

theorem ints_of_perm {vs : List Value} (hA : All2 IElem es.toList (stI b)) (hp : vs.Perm (es.toList.map (·.2))) : ∃ ns, IntsAre vs ns ∧ ns.Perm ((stI b).map fun (i : Nat) => (i : Int)) := by
  let val : Value → Int := fun v => match v with | .int i _ => i | _ => 0
  have h1 : ∀ v ∈ vs, ∃ i t, v = .int i t := fun v hv => by
    refine xa1_2 (List.mem_map.mp (hp.mem_iff.mp hv)) fun e he he1 => ?_
    obtain rfl := he1
    obtain ⟨i, _, _, t, h⟩ := hA.mem he
    exact ⟨_, t, h⟩
  have h2 : ∀ vs : List Value, (∀ v ∈ vs, ∃ i t, v = .int i t) → IntsAre vs (vs.map val) := by
    intro vs
    induction vs with
    | nil => intro _; exact .nil
    | cons v vs ih =>
      intro h
      refine xa2_1 (h v (.head _)) fun i t he2 => ?_
      obtain rfl := he2
      exact .cons i t (ih fun x hx => h x (.tail _ hx))
  refine ⟨vs.map val, h2 vs h1, (hp.map val).trans ?_⟩
  have : (es.toList.map (·.2)).map val = (stI b).map fun (i : Nat) => (i : Int) := by
    generalize es.toList = l at hA ⊢
    generalize stI b = l' at hA ⊢
    induction hA with
    | nil => rfl
    | cons h1 _ ih =>
      obtain ⟨_, t, h⟩ := h1
      rw [List.map_cons, List.map_cons, List.map_cons, ih, h]
  rw [this]

theorem stI_sorted (b : Nat) : ((stI b).map fun (i : Nat) => (i : Int)).Pairwise (· ≤ ·) := by
  rw [List.pairwise_map]
  refine List.Pairwise.sublist (List.filter_sublist) ?_
  walk_at "q"
  decide

theorem nats_of_ints {vs : List Value} {xs : List Nat} (h : IntsAre vs (xs.map fun (i : Nat) => (i : Int))) : Nats vs xs := by
  induction xs generalizing vs with
  | nil => cases h; exact .nil
  | cons x xs ih => cases h with | cons n t h => exact .cons ⟨t, rfl⟩ (ih h)

theorem r_sorted_iset {Q : Value → Shared → Prop} (hh : A.handled = none) (hb : b < 16) (hA : All2 IElem es.toList (stI b)) (I : FIn gB O L m S tr s) (hS : S a (isetObj w b ep es))
    (h : ∀ q s' vs c, FIn gB O L m S ((q, lst vs c) :: tr) s' → Nats vs (stI b) → Q (.ref q) s') : wpAny (model prog w) A (call (.builtin "sorted") [.ref a]) Q E s := by
  refine Calls.call_function_entry kind_sorted plain_sorted entry_sorted (args_sorted1 _) ?_
  walk_at "q"
  unfold Builtin.«sorted»
  refine wpAny_bind (m := checkCount "sorted" 1 1 _) (wpAny_pure ?_)
  walk_at "q"
  refine wpAny_bind (collect_iset (A := A.in1) hh hb hA I hS fun vs s₁ hp I₁ => ?_)
  walk_at "q"
  refine xa1_2 (ints_of_perm hA hp) fun ns hns hpn => ?_
  have hl4 := stI_len b
  have hlen : vs.length ≤ 4 := by
    have h1 := hp.length_eq
    have h2 := hA.length
    simp at h1 h2; omega
  refine wpAny_bind (r_newlist I₁ (fun q s₂ hq I₂ => ?_) (by exact oL ‹_› (by exact rfl)))
  have ho : s₂.heap.get? q = some (seqObj "list" vs.toArray 0) := I₂.at (i := 0) rfl
  refine wpAny_bind (wpAny_holding (wpAny_call_entry slot_list_sort ⟨_, ho, rfl⟩ entry_list_sort (list_sort_tree ho hns (by exact oM ‹_› (by exact rfl)) fun out ns' a1 a2 a3 => ⟨_, rfl, ?_⟩) (args_list_sort _)))
  refine wpAny_pure ⟨_, rfl, ?_⟩
  refine xa1_1 (sortedHeap_at (out := out) ho) fun e he => ?_
  have I₃ := I₂.turnX (tk := s₂.toks) (o' := lst out.toList e) (fun b o hb e => (sortedHeap_old hb (Heap.lt_size e)).trans e) (by rw [he])
  have hns' : ns' = (stI b).map fun (i : Nat) => (i : Int) :=
    List.Perm.eq_of_pairwise (fun _ _ _ _ a b => Int.le_antisymm a b) a3 (stI_sorted b) (a2.trans hpn)
  subst hns'
  exact h q _ out.toList e I₃ (nats_of_ints a1)
end
end Mine
end
section
open PySem PySem.W PySem.Calls PyProof.Rows
open Sem (wp)
namespace Mine
section
variable {prog : Program} {w : World} {gB : Heap} {O O' : Og} {L : Addr} {m : Str → Option Value} {S S' : Addr → Obj → Prop} {tr tr' : List (Addr × Obj)} {s s' : Shared} {A : Around} {E : Value → Shared → Prop} {env : Env} {mg mb : Str → Option Value}

theorem FIn.settleAt (I : FIn gB O L m S tr s) {i : Nat} {a : Addr} {o : Obj} (hi : tr[i]? = some (a, o)) : ∃ S', (∀ b x, S b x → S' b x) ∧ S' a o ∧ FIn gB O L m S' (tr.eraseIdx i) s := by
  have hp : tr.Perm ((a, o) :: tr.eraseIdx i) := by
    obtain ⟨hlt, e⟩ := List.getElem?_eq_some_iff.mp hi
    rw [List.eraseIdx_eq_take_drop_succ]
    refine List.Perm.trans ?_ List.perm_middle
    rw [← e, ← List.drop_eq_getElem_cons hlt, List.take_append_drop]
  exact ⟨_, fun _ _ h => .inl h, .inr ⟨rfl, rfl⟩, (I.perm hp).settle⟩
theorem FIn.keepP (I : FIn gB O L m S tr s) (P : Post gB [] s s') : FIn gB O L m S tr s' := I.backs [] P (fun _ h => nomatch h)

noncomputable def pairAt (h : Heap) : Value → Option (Int × Int)
  | .ref a => match h.get? a with
    | some o => match o.data with
      | .seq ⟨[.int x _, .int y _]⟩ _ => some (x, y)
      | _ => none
    | none => none
  | _ => none
theorem pairAt_of {a : Addr} {o : Obj} {p : Int × Int} (ha : s.heap.get? a = some o) (hT : TupO prog w [p.1, p.2] o) : pairAt s.heap (.ref a) = some p := by
  refine xa3_2 (hT.pair) fun ta tb n hc hd => ?_
  unfold pairAt
  simp only [ha, hd]
theorem pair_eqAt {a b : Addr} {oa ob : Obj} {p q : Int × Int} (hu : A.units < cLine) (ha : s.heap.get? a = some oa) (hpa : TupO prog w [p.1, p.2] oa) (hb : s.heap.get? b = some ob) (hqb : TupO prog w [q.1, q.2] ob) :
    SeqAt.EqAt A s (.ref a) (.ref b) (decide (p = q)) := by
  by_cases e : a = b
  · subst e
    have h1 := pairAt_of ha hpa
    have h2 := pairAt_of ha (by have e := hb.symm.trans ha; injection e with e; rw [← e]; exact hqb : TupO prog w [q.1, q.2] oa)
    rw [h1] at h2
    have : p = q := by injection h2
    rw [decide_eq_true this]
    exact SeqAt.EqAt.same _
  · refine xa3_2 (hpa.pair) fun ta tb n hc hd => ?_
    refine xa3_2 (hqb.pair) fun ta' tb' n' hc' hd' => ?_
    have := SeqAt.EqAt.of_refs e (SeqAt.RcAt.tuples (A := A) (s := s) (e := fun j => if j = 0 then p.1 == q.1 else p.2 == q.2) (items := #[.int p.1 ta, .int p.2 tb]) (items2 := #[.int q.1 ta', .int q.2 tb']) ⟨oa, ha, hc, n, hd⟩ ⟨ob, hb, hc', n', hd'⟩ hu (by
      intro j h1 h2
      match j, h1 with
      | 0, _ => exact SeqAt.EqAt.int_int _ _ _ _
      | 1, _ => exact SeqAt.EqAt.int_int _ _ _ _
      | j + 2, h1 => exact absurd h1 (by show ¬ j + 2 < 2; omega)))
    have e2 : ((List.range (min (#[Value.int p.1 ta, Value.int p.2 tb] : Array Value).size (#[Value.int q.1 ta', Value.int q.2 tb'] : Array Value).size)).all (fun j => if j = 0 then p.1 == q.1 else p.2 == q.2) && (#[Value.int p.1 ta, Value.int p.2 tb] : Array Value).size == (#[Value.int q.1 ta', Value.int q.2 tb'] : Array Value).size) = decide (p = q) := by
      show ((List.range 2).all (fun j => if j = 0 then p.1 == q.1 else p.2 == q.2) && true) = _
      have h2 : List.range 2 = [0, 1] := rfl
      rw [h2]
      obtain ⟨p1, p2⟩ := p
      obtain ⟨q1, q2⟩ := q
      by_cases h3 : p1 = q1 <;> by_cases h4 : p2 = q2 <;> simp [h3, h4]
    rw [e2] at this
    exact this

theorem prs_any {vs : List Value} {ps : List (Int × Int)} {p : Int × Int} (h : All2 (fun v q => pairAt s.heap v = some q) vs ps) : vs.any (fun v => decide (pairAt s.heap v = some p)) = decide (p ∈ ps) := by
  induction h with
  | nil => simp
  | @cons v q vs ps h1 _ ih =>
    rw [List.any_cons, ih, h1]
    by_cases e : q = p
    · subst e; simp
    · have e' : ¬ p = q := fun x => e x.symm
      simp [e, e']
theorem prs_pairs {vs : List Value} {ps : List (Int × Int)} (I : FIn gB O L m S tr s) (h : Prs prog w S vs ps) : All2 (fun v q => pairAt s.heap v = some q) vs ps :=
  h.mono fun v q ⟨a, e, o, h1, h2⟩ => by rw [e]; exact pairAt_of (I.get h1) h2
theorem prs_eqAt {vs : List Value} {ps : List (Int × Int)} {t : Addr} {p : Int × Int} (hu : A.units < cLine) (I : FIn gB O L m S tr s) (h : Prs prog w S vs ps) (ht : TupS prog w S t [p.1, p.2]) :
    ∀ y ∈ vs, SeqAt.EqAt A s y (.ref t) (decide (pairAt s.heap y = some p)) := fun y hy => by
  obtain ⟨q, _, a, he1, o, h1, h2⟩ := h.mem hy
  obtain rfl := he1
  refine xa1_2 (ht) fun o' h3 h4 => ?_
  rw [pairAt_of (I.get h1) h2]
  have : decide (some q = some p) = decide (q = p) := by simp
  rw [this]
  exact pair_eqAt hu (I.get h1) h2 (I.get h3) h4

theorem r_inPrs {vs : List Value} {ps : List (Int × Int)} {t l : Addr} {p : Int × Int} {lo : Obj} {Q : Value → Shared → Prop} (hu : A.units + 1 < cLine) (I : FIn gB O L m S tr s) (hl : s.heap.get? l = some lo) (hlo : LstO vs lo) (h : Prs prog w S vs ps) (ht : TupS prog w S t [p.1, p.2])
    (hQ : Q (.bool (decide (p ∈ ps))) s) : wpAny (model prog w) A (compareOp .In (.ref t) (.ref l)) Q E s := by
  obtain ⟨h1, n, h2⟩ := hlo
  refine SeqAt.in_listAt (items := vs.toArray) (fun v => decide (pairAt s.heap v = some p)) ⟨lo, hl, h1, n, h2⟩ (fun y hy => prs_eqAt (A := A.in1) (by show A.units + 1 < cLine; assumption) I h ht y (by simpa using hy)) ?_
  rw [List.any_toArray, prs_any (prs_pairs I h)]; exact hQ
theorem r_notinPrs {vs : List Value} {ps : List (Int × Int)} {t l : Addr} {p : Int × Int} {lo : Obj} {Q : Value → Shared → Prop} (hu : A.units + 1 < cLine) (I : FIn gB O L m S tr s) (hl : s.heap.get? l = some lo) (hlo : LstO vs lo) (h : Prs prog w S vs ps) (ht : TupS prog w S t [p.1, p.2])
    (hQ : Q (.bool (!decide (p ∈ ps))) s) : wpAny (model prog w) A (compareOp .NotIn (.ref t) (.ref l)) Q E s := by
  obtain ⟨h1, n, h2⟩ := hlo
  refine SeqAt.notIn_listAt (items := vs.toArray) (fun v => decide (pairAt s.heap v = some p)) ⟨lo, hl, h1, n, h2⟩ (fun y hy => prs_eqAt (A := A.in1) (by show A.units + 1 < cLine; assumption) I h ht y (by simpa using hy)) ?_
  rw [List.any_toArray, prs_any (prs_pairs I h)]; exact hQ

theorem remove_loopAt (l : Addr) (items : Array Value) (n : Nat) (x : Value) (e : Value → Bool) (j : Nat) (hj : j < items.size) (hit : e items[j] = true) (k : Nat) (hs1 : items.size ≤ sizeLine) :
    ∀ i : Nat, j - i = k → i ≤ j → (∀ m (hm : m < items.size), i ≤ m → m < j → e items[m] = false) → Meets (Builtin.«list.remove.loop» ⟨[.ref l, x, rawInt i], []⟩)
      (fun A R s => s.heap.get? l = some { cls := .type "list", dict := none, data := .seq items n, slots := #[] } ∧ (∀ y, y ∈ items → SeqAt.EqAt A.in1 s y x (e y)) ∧ R (.ok (.ret .none)) { s with heap := s.heap.update l (Obj.mapSeq fun xs => xs.eraseIdxIfInBounds j) }) := by
  induction k with
  | zero =>
    intro i hk hij hno prog w A R s h
    obtain ⟨hp, g, d, tk, os⟩ := s; obtain ⟨hl, he, h⟩ := h
    have hij' : i = j := by omega
    subst hij'
    wp_walk using wpAny_loadPart' hl
    have hi : items[((i : Nat) : Int).toNat]? = some items[i] := by simp [hj]
    rw [hi]
    refine wpAny_bind (he _ (Array.getElem_mem hj) prog w _ _ ?_)
    walk_at "q"
    rw [hit]
    have hz' : (items.eraseIdxIfInBounds i).size ≤ sizeLine + 1 := Nat.le_trans (MeetsSeq.size_erased items _) (Nat.le_succ_of_le hs1)
    wp_walk using (wpAny_updateSeq hl rfl (hz := hs1) (_hz' := hz')), wpAny_loadPart' hl
    simpa using h
  | succ k ih =>
    intro i hk hij hno prog w A R s h
    obtain ⟨hp, g, d, tk, os⟩ := s; obtain ⟨hl, he, h⟩ := h
    have hlt : i < items.size := by exact oI ‹_› ‹_›
    wp_walk using wpAny_loadPart' hl
    have hi : items[((i : Nat) : Int).toNat]? = some items[i] := by simp [hlt]
    have hc : ((i : Int) + 1) = ((i + 1 : Nat) : Int) := by push_cast; rfl
    rw [hi]
    refine wpAny_bind (he _ (Array.getElem_mem hlt) prog w _ _ ?_)
    walk_at "q"
    rw [hno i hlt (Nat.le_refl _) (by exact oS1 ‹_›)]
    wp_walk
    rw [hc]
    exact ⟨plainId_quiet MeetsSeq.plain_remove_loop _, codeAny_builtin MeetsSeq.entry_remove_loop (by
      rw [Around.under_plainId MeetsSeq.plain_remove_loop _]
      exact ih (i + 1) (by exact oS ‹_›) (by exact oS1 ‹_›) (fun m hm h1 h2 => hno m hm (by omega) h2) prog w A R _ ⟨hl, he, h⟩)⟩

theorem list_removeAt (l : Addr) (items : Array Value) (n : Nat) (x : Value) (e : Value → Bool) (j : Nat) (hj : j < items.size)
    (hit : e items[j] = true) (hno : ∀ m (hm : m < items.size), m < j → e items[m] = false) (hs1 : items.size ≤ sizeLine := by size_fits) :
    Meets (Builtin.«list.remove» ⟨[.ref l, x], []⟩)
      (fun A R s => s.heap.get? l = some { cls := .type "list", dict := none, data := .seq items n, slots := #[] } ∧ (∀ y, y ∈ items → SeqAt.EqAt A.in1 s y x (e y)) ∧ R (.ok (.ret .none)) { s with heap := s.heap.update l (Obj.mapSeq fun xs => xs.eraseIdxIfInBounds j) }) := by
  intro prog w A R s h
  obtain ⟨hp, g, d, tk, os⟩ := s; obtain ⟨hl, he, h⟩ := h
  wp_walk using wpAny_loadPart' hl
  exact ⟨plainId_quiet MeetsSeq.plain_remove_loop _, codeAny_builtin MeetsSeq.entry_remove_loop (by
    rw [Around.under_plainId MeetsSeq.plain_remove_loop _]
    exact remove_loopAt l items n x e j hj hit _ hs1 0 rfl (Nat.zero_le _) (fun m hm _ h2 => hno m hm h2) prog w A R _ ⟨hl, he, h⟩)⟩

theorem All2.eraseIdx {α β : Type} {R : α → β → Prop} {as : List α} {bs : List β} (h : All2 R as bs) (k : Nat) : All2 R (as.eraseIdx k) (bs.eraseIdx k) := by
  rw [List.eraseIdx_eq_take_drop_succ, List.eraseIdx_eq_take_drop_succ]
  exact (h.take k).append (h.drop (k + 1))

theorem r_removePrs {vs : List Value} {ps : List (Int × Int)} {e : Expr} {pos : PySem.Pos} {q : Addr} {Q : Value → Shared → Prop} (hu : A.units + 1 < cLine)
    (h : wpAny (model prog w) A (eval e env) (fun v s₁ => ∃ (m : Str → Option Value) (S : Addr → Obj → Prop) (tr : List (Addr × Obj)) (i : Nat) (n : Nat) (t : Addr) (p : Int × Int), v = .ref t ∧ FIn gB O L m S tr s₁ ∧ tr[i]? = some (q, lst vs n) ∧ vs.length ≤ 1000 ∧ Prs prog w S vs ps ∧ TupS prog w S t [p.1, p.2] ∧ p ∈ ps ∧
      ∀ s' vs' n', FIn gB O L m S (tr.set i (q, lst vs' n')) s' → Prs prog w S vs' (ps.erase p) → Q .none s') E s)
    (hs : starEach [e] env = [(false, eval e env)] := by rfl) :
    wpAny (model prog w) A (callWith pos (.builtin "list.remove") [.ref q] (backTo pos (starEach [e] env)) []) Q E s := by
  rw [hs]
  refine seqMethod1_meets PySem.F.slot_list_remove PySem.F.entry_list_remove (wpAny_mono h (fun v s₁ h₁ => ?_) fun _ _ e => e)
  obtain ⟨m, S, tr, i, n, t, p, rfl, I, hi, hz, hP, ht, hp, hQ⟩ := h₁
  have hq := I.at hi
  have hlen := hP.length
  have hj : ps.idxOf p < ps.length := List.idxOf_lt_length_of_mem hp
  have hpp := prs_pairs I hP
  have hget : ∀ k (hk : k < vs.length), pairAt s₁.heap vs[k] = some (ps[k]'(by exact oQ' ‹_› ‹_›)) := fun k hk => by
    refine xa1_2 (hpp.getD hk .none) fun b hb h2 => ?_
    rw [List.getD_eq_getElem?_getD, List.getElem?_eq_getElem hk, Option.getD_some] at h2
    rw [h2]
    rw [List.getElem?_eq_getElem (by exact oQ' ‹_› ‹_›)] at hb
    exact hb.symm
  refine ⟨⟨_, hq, rfl⟩, PySem.F.args_list_remove_2 _ _, _, list_removeAt q vs.toArray n (.ref t) (fun v => decide (pairAt s₁.heap v = some p)) (ps.idxOf p) (by rw [List.size_toArray]; exact oQ ‹_› ‹_›) ?_ ?_ (by rw [List.size_toArray, sizeLine_eq]; exact oL ‹_› (by exact rfl)), hq, ?_, ?_⟩
  · rw [List.getElem_toArray, hget _ (by exact oQ ‹_› ‹_›)]
    simp
  · intro k hk hkj
    rw [List.size_toArray] at hk
    rw [List.getElem_toArray, hget _ hk]
    rw [decide_eq_false_iff_not]
    intro e
    injection e with e
    have := List.not_of_lt_findIdx (p := (· == p)) (xs := ps) hkj
    simp [e] at this
  · intro y hy
    exact prs_eqAt (A := A.in1) (by show A.units + 1 < cLine; assumption) I hP ht y (by simpa using hy)
  · have I' := I.turn (h' := s₁.heap.update q (Obj.mapSeq fun xs => xs.eraseIdxIfInBounds (ps.idxOf p))) (tk := s₁.toks) (o' := lst (vs.eraseIdx (ps.idxOf p)) (if ((fun xs : Array Value => xs.eraseIdxIfInBounds (ps.idxOf p)) vs.toArray).size == vs.toArray.size then n else n + 1)) hi (Heap.SameBut.update ..) (by
      refine (IsL.update hq (fun xs => xs.eraseIdxIfInBounds (ps.idxOf p))).trans ?_
      simp)
    refine hQ _ _ _ I' ?_
    rw [List.erase_eq_eraseIdx_of_idxOf (l := ps) (a := p) (i := ps.idxOf p) rfl]
    exact hP.eraseIdx _
end
end Mine
end
section
namespace Mine
noncomputable def stepE (es : List (Int × Int)) (n : Int) : List (Int × Int) :=
  let e := ((n.fdiv 4).fmod 4, n.fmod 4)
  if e ∈ es then es.erase e else if es.length < 7 then es ++ [e] else es
noncomputable def edgesOf (script : List Int) : List (Int × Int) := ((if script = [] then [0, 5, 1, 6] else script).take 12).foldl stepE []
theorem fmod4 (n : Int) : ∃ k : Nat, k < 4 ∧ n.fmod 4 = (k : Int) := by
  rw [Int.fmod_eq_emod_of_nonneg n (by decide)]
  exact ⟨(n % 4).toNat, by omega, by omega⟩
structure EOk (es : List (Int × Int)) : Prop where
  nd : es.Nodup
  len : es.length ≤ 7
  sm : ∀ e ∈ es, ∃ l r : Nat, l < 4 ∧ r < 4 ∧ e = ((l : Int), (r : Int))
theorem EOk.step {es : List (Int × Int)} (h : EOk es) (n : Int) : EOk (stepE es n) := by
  unfold stepE
  dsimp only
  split
  · exact ⟨h.nd.erase _, Nat.le_trans (List.length_erase_le ..) h.len, fun e he => h.sm e (List.mem_of_mem_erase he)⟩
  · rename_i hn
    split
    · refine ⟨?_, by simp; omega, fun e he => ?_⟩
      · rw [List.nodup_append]
        refine ⟨h.nd, by simp, fun a ha b hb e => ?_⟩
        simp only [List.mem_cons, List.not_mem_nil, or_false] at hb
        subst hb; subst e; exact hn ha
      · rcases List.mem_append.mp he with he | he
        · exact h.sm e he
        · simp only [List.mem_cons, List.not_mem_nil, or_false] at he
          subst he
          obtain ⟨k1, h1, e1⟩ := fmod4 (n.fdiv 4)
          obtain ⟨k2, h2, e2⟩ := fmod4 n
          exact ⟨k1, k2, h1, h2, by rw [e1, e2]⟩
    · exact h
theorem EOk.nil : EOk [] := ⟨List.nodup_nil, Nat.zero_le _, fun _ h => nomatch h⟩
theorem EOk.fold : ∀ (ns : List Int) {es : List (Int × Int)}, EOk es → EOk (ns.foldl stepE es)
  | [], _, h => h
  | n :: ns, _, h => EOk.fold ns (h.step n)
theorem edges_ok (script : List Int) : EOk (edgesOf script) := EOk.fold _ EOk.nil
end Mine
end
section
open PySem PySem.W PySem.Calls PyProof.Rows
open Sem (wp)
namespace Mine
set_option linter.unusedSectionVars false
theorem at215 (P : Params) : DefAt P 215 := ⟨by kernel_rfl, by kernel_rfl, by kernel_rfl, by kernel_rfl, by kernel_rfl, by kernel_rfl⟩
theorem c215e (L : Addr) : (envC 215 L).cells.lookup ("edges" : Str) = some (L + 1) := by kernel_rfl
theorem c215m (L : Addr) : (envC 215 L).cells.lookup ("matching" : Str) = some (L + 2) := by kernel_rfl
theorem c215t (L : Addr) : (envC 215 L).cells.lookup ("taken" : Str) = some (L + 3) := by kernel_rfl
theorem c215l (L : Addr) : (envC 215 L).cells.lookup ("left" : Str) = some (L + 4) := by kernel_rfl
theorem c215r (L : Addr) : (envC 215 L).cells.lookup ("right" : Str) = some (L + 5) := by kernel_rfl
theorem c215a (L : Addr) : (envC 215 L).cells.lookup ("ahead" : Str) = some (L + 6) := by kernel_rfl
section
variable {prog : Program} {w : World} {gB : Heap} {mg mb : Str → Option Value}

theorem lawA_or {A : Around} {O : Og} {L : Addr} {m : Str → Option Value} {S : Addr → Obj → Prop} {tr : List (Addr × Obj)} {s : Shared} {script : List Int} {sc : Addr} {osc : Obj} {scv : List Value} {p1 p2 p3 p4 p5 p6 p7 : PySem.Pos}
    (I : FIn gB O L m S tr s) (hm : m "script" = some (.ref sc)) (hsc : S sc osc) (hso : LstO scv osc) (hsi : IntsAre scv script) (hz : script.length ≤ 1000) {Q : Value → Shared → Prop} {E : Value → Shared → Prop}
    (h : ∀ s' S' l lo vs, (∀ a o, S a o → S' a o) → FIn gB O L m S' tr s' → S' l lo → LstO vs lo → IntsAre vs (if script = [] then [0, 5, 1, 6] else script) → Q (.ref l) s') :
    wpAny (model prog w) A (eval (.BoolOp .Or [.Name "script" p1, .List [.Constant (.int 0) 0 p2, .Constant (.int 5) 0 p3, .Constant (.int 1) 0 p4, .Constant (.int 6) 0 p5] p6] p7) (envC 215 L)) Q E s := by
  have hlen := IntsAre.len hsi
  obtain ⟨h1, n, h2⟩ := id hso
  refine BoolOp_or (r_loc I hm (wpAny_truthy_list (items := scv.toArray) ⟨_, I.get hsc, h1, n, h2⟩ (by rw [List.size_toArray]; with_reducible exact Mine.o63e ‹_› ‹_› (by with_unfolding_all exact rfl)) ?_))
  walk_at "q"
  replace I := I.toks (s.toks + 1 + 1)
  cases hsi with
  | nil =>
    first | refine ifF Bool.false_ne_true ?_ | refine ifF (by decide) ?_ | refine wifF (by decide) ?_ | rw [if_neg (by decide)]
    refine BoolOp_one (List_ (args_cons (wpAny_Constant_int (args_cons (wpAny_Constant_int (args_cons (wpAny_Constant_int (args_cons (wpAny_Constant_int (args_nil ?_))))))))))
    walk_at "q"
    replace I := I.toks (s.toks + 1 + 1 + 1 + 1 + 1 + 1)
    refine r_newlist I fun a s' ha I => ?_
    walk_at "q"
    refine xa1_3 (I.settleAt (i := 0) rfl) fun S' hS' hSa I => ?_
    exact h _ S' a _ _ hS' I hSa (lstO _ _) (.cons _ _ (.cons _ _ (.cons _ _ (.cons _ _ .nil))))
  | cons k t hsi =>
    first | refine ifT rfl ?_ | refine ifT (by simp) ?_ | refine wifT (by simp) ?_ | rw [if_pos (by simp)]
    refine h _ S sc osc _ (fun _ _ q => q) I hsc hso ?_
    first | refine ifF Bool.false_ne_true ?_ | refine ifF (by simp) ?_ | refine wifF (by simp) ?_ | rw [if_neg (by simp)]
    exact .cons k t hsi

inductive LaI (prog : Program) (w : World) (S₄ : Addr → Obj → Prop) (L : Addr) (q : Addr) (oM oT oL oR oA : Obj) (ns script : List Int) (k : Nat) (m' : Str → Option Value) (S' : Addr → Obj → Prop) (tr : List (Addr × Obj)) : Prop
  | mk (h1 : (∀ a o, S₄ a o → S' a o))
    (items c es)
    (h2 : tr = [(q, lst items c), (L + 2, oM), (L + 3, oT), (L + 4, oL), (L + 5, oR), (L + 6, oA)])
    (h3 : Prs prog w S' items es)
    (h4 : EOk es)
    (h5 : (ns.drop k).foldl stepE es = edgesOf script) : LaI prog w S₄ L q oM oT oL oR oA ns script k m' S' tr

theorem lawA (B : Base w.params mg mb gB) {A : Around} {O : Og} {L : Addr} {m : Str → Option Value} {S : Addr → Obj → Prop} {oE oM oT oL oR oA : Obj} {s : Shared} {script : List Int} {sc : Addr} {osc : Obj} {scv : List Value}
    (R : Room A 5 50)
    (I : FIn gB O L m S [(L + 1, oE), (L + 2, oM), (L + 3, oT), (L + 4, oL), (L + 5, oR), (L + 6, oA)] s) (hE : oE.data = .cell none) (hm : m "script" = some (.ref sc)) (hsc : S sc osc) (hso : LstO scv osc) (hsi : IntsAre scv script) (hz : script.length ≤ 1000)
    {Q : Flow → Shared → Prop} {E : Value → Shared → Prop}
    (h : ∀ s' m' S' oE' q items c, (∀ a o, S a o → S' a o) → FIn gB O L m' S' [(L + 2, oM), (L + 3, oT), (L + 4, oL), (L + 5, oR), (L + 6, oA)] s' → S' (L + 1) oE' → oE'.data = .cell (some (.ref q)) → S' q (lst items c) → Prs prog w S' items (edgesOf script) →
      wpAny (model prog w) A (execs ((bodyAt 215).drop 2) (envC 215 L)) Q E s') :
    wpAny (model prog w) A (execs (bodyAt 215) (envC 215 L)) Q E s := by
  have U := R.un
  refine wpAny_execs_cons (wpAny_Assign_Name (PyProof.Rows.List_ (args_nil (r_newlist I fun q s₂ hq I => ?_))))
  walk_at "q"
  refine r_cellSt I (c215e L) (i := 1) rfl hE fun s₃ oE' hE' I => ?_
  walk_at "q"
  refine xa1_3 (I.settleAt (i := 1) rfl) fun S₁ hS₁ hSe I => ?_
  replace I : FIn gB O L m S₁ [(q, lst [] 0), (L + 2, oM), (L + 3, oT), (L + 4, oL), (L + 5, oR), (L + 6, oA)] s₃ := I
  refine wpAny_execs_cons (r_for_list (gB := gB) (O := O) (L := L) R.hh ?_)
  walk_at "q"
  refine PyProof.Rows.Subscript_ (lawA_or I hm (hS₁ _ _ hsc) hso hsi hz fun s₄ S₂ l lo vs hS₂ I hl hlo hvs => ?_)
  walk_at "q"
  refine wpAny_Slice (wpAny_evalPart_none (wpAny_evalPart_some (wpAny_Constant_int (wpAny_evalPart_none ?_))))
  walk_at "q"
  replace I := I.toks (s₄.toks + 1)
  have hlv := IntsAre.len hvs
  have hzv : vs.length ≤ 1000 := by
    rw [hlv]; split
    · decide
    · exact hz
  obtain ⟨hl1, nl, hl2⟩ := id hlo
  replace I := I.push { cls := .type "slice", data := .fields #[.none, .int 12 s₄.toks, .none] } (s₄.toks + 1)
  refine xa1_3 (I.settleAt (i := 0) rfl) fun S₃ hS₃ _ I => ?_
  refine tail_any (T := "list") ⟨_, I.get (hS₃ _ _ hl), hl1⟩ PySem.F.slot_list_getitem.lookup (ops := [.ref s₄.heap.objs.size, .ref l]) (wpAny_getItem_list_slice (items := vs.toArray) ⟨_, I.get (hS₃ _ _ hl), hl1, nl, hl2⟩ (Heap.IsSliceOf.new ..) .none (.int 12 _) .none (by simp) ?_ (by rw [List.size_toArray, sizeLine_eq]; exact Mine.oL ‹_› (by exact rfl))) (by with_unfolding_all rfl)
  replace I := I.push { cls := .type "list", data := .seq (slicePick vs.toArray none (some 12) none) } (s₄.toks + 1)
  refine xa1_3 (I.settleAt (i := 0) rfl) fun S₄ hS₄ hq4 I => ?_
  have hns : IntsAre (slicePick vs.toArray none (some 12) none).toList ((if script = [] then [0, 5, 1, 6] else script).take 12) := slice_ints_uptoW hvs (by decide)
  generalize hV : (slicePick vs.toArray none (some 12) none).toList = V at hns
  have hlen := IntsAre.len hns
  generalize hN : (if script = [] then [0, 5, 1, 6] else script).take 12 = ns at hns hlen
  have hS14 : ∀ a o, S₁ a o → S₄ a o := fun a o q => hS₄ _ _ (hS₃ _ _ (hS₂ _ _ q))
  refine ⟨_, V, _, _, _, LaI prog w S₄ L q oM oT oL oR oA ns script,
    rfl, I, ?_, ⟨fun _ _ q => q, [], 0, [], rfl, .nil, EOk.nil, by unfold edgesOf; rw [hN]; rfl⟩, ?_, ?_⟩
  · intro k m S' tr hp1
    obtain ⟨hS', _⟩ := hp1
    exact ⟨_, hS' _ _ hq4, rfl, _, by rw [← hV]⟩
  · intro it k m' S' tr s₅ io hk hp2 I
    obtain ⟨hS', items, c, es, he3, hP, hok, hfold⟩ := hp2
    obtain rfl := he3
    refine xa1_1 (show ∃ n, ns[k]? = some n from ⟨ns[k]'(by exact Mine.oQ' ‹_› ‹_›), List.getElem?_eq_getElem _⟩) fun n hn => ?_
    refine xa1_1 (IntsAre.at hns hn) fun t ht => ?_
    have hV' : V.getD k .none = .int n t := by rw [List.getD_eq_getElem?_getD, ht]; rfl
    rw [hV']
    have hdrop : ns.drop k = n :: ns.drop (k + 1) := by
      obtain ⟨hk', e⟩ := List.getElem?_eq_some_iff.mp hn
      rw [List.drop_eq_getElem_cons hk', e]
    rw [hdrop, List.foldl_cons] at hfold
    have hlenP := hP.length
    have hz7 := hok.len
    refine wpAny_assign_Name (r_st I fun s₆ I => ?_)
    walk_at "q"
    refine wpAny_execs_cons (wpAny_Assign_Name (Tuple_ (args_cons (wpAny_BinOp (wpAny_BinOp (r_loc I rfl (wpAny_Constant_int (floordiv_int (by decide) (wpAny_Constant_int (PyProof.Rows.mod_int (by decide) ?_))))))))))
    walk_at "q"
    replace I := I.toks (s₆.toks + 1 + 1 + 1 + 1)
    refine args_cons (wpAny_BinOp (r_loc I rfl (wpAny_Constant_int (PyProof.Rows.mod_int (by decide) (args_nil ?_)))))
    walk_at "q"
    replace I := I.toks (s₆.toks + 1 + 1 + 1 + 1 + 1 + 1)
    refine r_newtup I fun te s₇ hte I => r_st I fun s₈ I => ?_
    walk_at "q"
    refine xa1_2 (fmod4 (n.fdiv 4)) fun l hl4 el => ?_
    refine xa1_2 (fmod4 n) fun r hr4 er => ?_
    generalize hte' : And1 S' te _ = S'' at I
    have hS'' : ∀ a o, S' a o → S'' a o := fun a o q => by rw [← hte']; exact .inl q
    have hT : TupS prog w S'' te [(n.fdiv 4).fmod 4, n.fmod 4] := ⟨_, by rw [← hte']; exact .inr ⟨rfl, rfl⟩, TupO.of⟩
    have hP' := hP.mono (R' := fun v p => VTup prog w S'' v [p.1, p.2]) fun v p q => q.mono hS''
    have hok' := hok.step n
    unfold stepE at hfold hok'
    dsimp only at hfold hok'
    refine wpAny_execs_cons (wpAny_If (wpAny_isTrue_Compare1 (r_loc I rfl (r_cell (c215e L) (I.get (hS'' _ _ (hS' _ _ (hS14 _ _ hSe)))) hE' ?_))))
    walk_at "q"
    refine r_inPrs (p := ((n.fdiv 4).fmod 4, n.fmod 4)) (by exact Mine.oU ‹_› (by exact rfl)) I (I.at (i := 1) rfl) (lstO _ _) hP' hT (wpAny_truthy_bool ?_)
    walk_at "q"
    by_cases hin : ((n.fdiv 4).fmod 4, n.fmod 4) ∈ es
    · rw [if_pos hin] at hfold hok'
      first | refine ifT (decide_eq_true hin) ?_ | refine ifT (beq_iff_eq.mpr hin) ?_ | refine ifT (by simpa using hin) ?_ | refine wifT (by simpa using hin) ?_ | rw [if_pos (by simpa using hin)]
      refine wpAny_execs_cons (wpAny_Expr (MethodCall_ (r_cell (c215e L) (I.get (hS'' _ _ (hS' _ _ (hS14 _ _ hSe)))) hE' ?_) (eval_callm rfl rfl rfl)))
      refine getMethod_builtin ⟨_, I.at (i := 1) rfl, rfl⟩ PySem.F.plainAttrs_list PySem.F.slot_list_remove PySem.F.type_list_remove (fun a e => ⟨_, by cases e; exact I.at (i := 1) rfl, rfl⟩) ?_
      refine r_removePrs (by exact Mine.oU ‹_› (by exact rfl)) (r_loc I rfl ⟨_, _, _, 1, c, te, _, rfl, I, rfl, by exact Mine.oE ‹_› ‹_› (by exact rfl), hP', hT, hin, fun s₉ vs' n' I hP'' => ?_⟩)
      refine wpAny_execs_nil (wpAny_execs_nil ?_)
      refine xi3_2 _ _ _ I ⟨fun a o q => hS'' _ _ (hS' _ _ q) , _ , _ , _ , rfl , hP'' , hok' , hfold⟩
    · rw [if_neg hin] at hfold hok'
      first | refine ifF (ne_true_of_eq_false (decide_eq_false hin)) ?_ | refine ifF (ne_true_of_eq_false (beq_eq_false_iff_ne.mpr hin)) ?_ | refine ifF (by simpa using hin) ?_ | refine wifF (by simpa using hin) ?_ | rw [if_neg (by simpa using hin)]
      refine wpAny_execs_cons (wpAny_If (wpAny_isTrue_Compare1 ?_))
      walk_at "q"
      refine PyProof.Rows.Call_ (r_blt B I (g_len _) (v := .builtin "len") (by decide +kernel) (by decide) ?_) rfl
      refine callWith_builtin rfl (evalArgs_plain (args_cons (r_cell (c215e L) (I.get (hS'' _ _ (hS' _ _ (hS14 _ _ hSe)))) hE' (args_nil ?_))))
      walk_at "q"
      refine call_len_list (items := items.toArray) ⟨_, I.at (i := 1) rfl, rfl, _, rfl⟩ (by rw [List.size_toArray]; with_reducible exact Mine.o63e ‹_› ‹_› (by with_unfolding_all exact rfl)) ?_
      rw [List.size_toArray]
      replace I := I.toks (s₈.toks + 1 + 1)
      refine wpAny_Constant_int (PyProof.Rows.lt_int (wpAny_truthy_bool ?_))
      walk_at "q"
      replace I := I.toks (s₈.toks + 1 + 1 + 1)
      by_cases h7 : es.length < 7
      · rw [if_pos h7] at hfold hok'
        first | refine ifT (by simp; omega) ?_ | refine wifT (by simp; omega) ?_ | rw [if_pos (by simp; omega)]
        refine wpAny_execs_cons (wpAny_Expr (MethodCall_ (r_cell (c215e L) (I.get (hS'' _ _ (hS' _ _ (hS14 _ _ hSe)))) hE' (getMethod_list_append (I.at (i := 1) rfl) rfl rfl ?_)) (eval_callm rfl rfl rfl)))
        refine r_append_at (r_loc I rfl ⟨_, _, _, 1, items, c, I, rfl, by exact Mine.oE ‹_› ‹_› (by exact rfl), fun s₉ I => ?_⟩)
        refine wpAny_execs_nil (wpAny_execs_nil (wpAny_execs_nil ?_))
        refine xi3_2 _ _ _ I ⟨fun a o q => hS'' _ _ (hS' _ _ q) , _ , _ , _ , rfl , hP'.snoc ⟨te, rfl, hT⟩ , hok' , hfold⟩
      · rw [if_neg h7] at hfold hok'
        first | refine ifF (by simp; omega) ?_ | refine wifF (by simp; omega) ?_ | rw [if_neg (by simp; omega)]
        refine wpAny_execs_nil (wpAny_execs_nil (wpAny_execs_nil ?_))
        refine xi3_2 _ _ _ I ⟨fun a o q => hS'' _ _ (hS' _ _ q) , _ , _ , _ , rfl , hP' , hok' , hfold⟩
  · intro m' S' tr s₅ hp4 I
    obtain ⟨hS', items, c, es, he5, hP, hok, hfold⟩ := hp4
    obtain rfl := he5
    rw [List.drop_of_length_le (by omega)] at hfold
    have hfold : es = edgesOf script := hfold
    subst hfold
    refine xa1_3 (I.settleAt (i := 0) rfl) fun S₅ hS₅ hq5 I => ?_
    exact h s₅ m' S₅ oE' q items c (fun a o z => hS₅ _ _ (hS' _ _ (hS14 _ _ (hS₁ _ _ z)))) I (hS₅ _ _ (hS' _ _ (hS14 _ _ hSe))) hE' hq5 (hP.mono fun v p z => z.mono hS₅)
end
end Mine
end
section
open PySem PySem.W PySem.Calls PyProof.Rows
open Sem (wp)
namespace Mine
set_option linter.unusedSectionVars false
theorem set199 (P : Params) : findIn (KH P) (.ref 199) "__setitem__" = some (some (.ref 105)) := by kernel_rfl
theorem seq199 (P : Params) : noSeq (KH P) 199 = true := by kernel_rfl
theorem fn105 (P : Params) : isFn (KH P) (.ref 105) = true := by kernel_rfl
section
variable {prog : Program} {w : World} {gB : Heap} {mg mb : Str → Option Value}
variable {O : Og} {L : Addr} {m : Str → Option Value} {S S' : Addr → Obj → Prop} {G G' cs : List (Addr × Obj)} {s s' : Shared} {A : Around} {E : Value → Shared → Prop}

theorem FIn.setpost (I : FIn gB O L m S (G ++ cs) s) (P : Post gB (G.map (·.1)) s s') (hS' : ∀ a o, S' a o → S a o ∨ ((s.heap.get? a = none ∨ (a ≠ L ∧ a ∉ cs.map (·.1))) ∧ s'.heap.get? a = some o ∧ a ∉ tabP ∧ a ∉ G'.map (·.1)))
    (hn : (G'.map (·.1)).Nodup) (hG' : ∀ p ∈ G', s'.heap.get? p.1 = some p.2 ∧ gB.objs.size ≤ p.1 ∧ (p.1 ∈ G.map (·.1) ∨ s.heap.get? p.1 = none)) :
    ∃ S₂, (∀ a o, S a o → S₂ a o) ∧ (∀ a o, S' a o → S₂ a o) ∧ FIn gB O L m S₂ (G' ++ cs) s' := by
  refine xa3_2 (id I.ns) fun oL esL epL hoL hrL => ?_
  have nd := I.nd
  rw [List.map_append, List.nodup_append] at nd
  refine xa0_3 (nd) fun nG nC nGC => ?_
  have csSome : ∀ p ∈ cs, s.heap.get? p.1 = some p.2 := fun p hp => (I.tk p (List.mem_append_right _ hp)).1
  have disj : ∀ a ∈ G'.map (·.1), a ∉ cs.map (·.1) := fun a ha hc => by
    refine xa1_2 (List.mem_map.mp ha) fun p hp he1 => ?_
    obtain rfl := he1
    rcases (hG' p hp).2.2 with h | h
    · exact nGC _ h _ hc rfl
    · refine xa1_2 (List.mem_map.mp hc) fun q hq e => ?_
      rw [← e, csSome q hq] at h; cases h
  have hL : ∀ a, s.heap.get? a = none → a ≠ L := fun a h e => by rw [e, hoL] at h; cases h
  obtain ⟨I', hI'⟩ := I.post P (fun a ha => by rw [List.map_append]; exact List.mem_append_left _ ha) (tr' := G' ++ cs) (fun p hp => by
    rcases List.mem_append.mp hp with hp | hp
    · refine xa0_3 (hG' p hp) fun h1 h2 h3 => ?_
      refine xi0_3 h1 ?_ h2
      rcases h3 with h3 | h3
      · refine xa1_2 (List.mem_map.mp h3) fun q hq e => ?_
        rw [← e]; exact (I.tk q (List.mem_append_left _ hq)).2.1
      · exact hL _ h3
    · refine xa0_3 (I.tk p (List.mem_append_right _ hp)) fun h1 h2 h3 => ?_
      refine xi0_3 (P.kp _ _ h1 (fun e => ?_) (I.wd.notTab h3)) h2 h3
      exact nGC _ e _ (List.mem_map_of_mem (f := (·.1)) hp) rfl) (by
    rw [List.map_append, List.nodup_append]
    exact ⟨hn, nC, fun a ha b hb e => disj a ha (e ▸ hb)⟩)
  have old : ∀ a o, S a o → Froz L (G' ++ cs) s' a o := fun a o h => by
    refine xa0_4 (I.st a o h) fun a1 a2 a3 a4 => ?_
    refine hI' a o h ?_
    rw [List.map_append, List.mem_append]
    rw [List.map_append, List.mem_append, not_or] at a4
    rintro (e | e)
    · refine xa1_2 (List.mem_map.mp e) fun p hp he2 => ?_
      obtain rfl := he2
      rcases (hG' p hp).2.2 with h3 | h3
      · exact a4.1 h3
      · rw [a1] at h3; cases h3
    · exact a4.2 e
  refine xi1_3 _ old (fun a o h => ?_) I'
  rcases hS' a o h with h | ⟨h1, h2, h3, h4⟩
  · exact old a o h
  · refine xi0_4 h2 (h1.elim (hL a) (·.1)) h3 ?_
    rw [List.map_append, List.mem_append]
    rintro (e | e)
    · exact h4 e
    · rcases h1 with h1 | h1
      · refine xa1_2 (List.mem_map.mp e) fun p hp he3 => ?_
        obtain rfl := he3
        rw [csSome p hp] at h1; cases h1
      · exact h1.2 e

theorem FIn.newgraph (I : FIn gB O L m S cs s) (hnt : ∀ p ∈ cs, NT p.2) {H : GA} {es : List DictEntry} {n : Nat} {oe ol or' og : Obj} {ls : List (Addr × Obj)} (P : Post gB [] s s') (h1 : s'.heap.get? H.x = some (instObj 199 H.dx)) (h2 : s'.heap.get? H.dx = some (dictOf es n))
    (hn : (H.x :: H.dx :: (gtr H oe ol or' og ls).map (·.1)).Nodup) (h5 : ∀ p ∈ gtr H oe ol or' og ls, s'.heap.get? p.1 = some p.2) (h6 : ∀ a ∈ H.x :: H.dx :: (gtr H oe ol or' og ls).map (·.1), gB.objs.size ≤ a ∧ s.heap.get? a = none)
    (h7 : ∀ a o, S' a o → s'.heap.get? a = some o ∧ a ∉ tabP ∧ a ∉ (H.x :: H.dx :: (gtr H oe ol or' og ls).map (·.1)) ∧ o.cls = .type "tuple") :
    ∃ S₂, (∀ a o, S a o → S₂ a o) ∧ (∀ a o, onlyTup S' a o → S₂ a o) ∧ S₂ H.x (instObj 199 H.dx) ∧ S₂ H.dx (dictOf es n) ∧ FIn gB O L m S₂ (gtr H oe ol or' og ls ++ cs) s' := by
  have hwd := P.wd
  simp only [List.nodup_cons, List.mem_cons, not_or] at hn
  refine xa0_3 (hn) fun hp4 hdG hnG => ?_
  refine xa0_2 (hp4) fun hxd hxG => ?_
  have fx := h6 H.x (.head _)
  have fd := h6 H.dx (.tail _ (.head _))
  have I₂ := I.keepP P
  refine xa3_3 (id I₂.ns) fun oL esL epL hoL hdL hrL => ?_
  refine xa1_3 (FIn.setpost (G := []) (G' := gtr H oe ol or' og ls) (S' := fun a o => onlyTup S' a o ∨ (a = H.x ∧ o = instObj 199 H.dx) ∨ (a = H.dx ∧ o = dictOf es n)) I P (fun a o h => by
    rcases h with ⟨h, hc, vs, nn, hd⟩ | ⟨rfl, rfl⟩ | ⟨rfl, rfl⟩
    · obtain ⟨b1, b2, b3, _⟩ := h7 a o h
      simp only [List.mem_cons, not_or] at b3
      refine .inr ?_
      refine xi0_4 (.inr ⟨fun e => ?_, fun e => ?_⟩) b1 b2 b3.2.2
      · rw [e, hoL] at b1
        cases b1
        rw [hdL] at hd; cases hd
      · obtain ⟨p, hp, e⟩ := List.mem_map.mp e
        have q := (I₂.tk p hp).1
        rw [e, b1] at q
        injection q with q
        exact hnt p hp (q ▸ ⟨hc, vs, nn, hd⟩)
    · refine .inr ?_
      refine xi0_4 (.inl fx.2) h1 (hwd.notTab fx.1) hxG
    · exact .inr ⟨.inl fd.2, h2, hwd.notTab fd.1, hdG⟩) hnG (fun p hp => ⟨h5 p hp, (h6 p.1 (.tail _ (.tail _ (List.mem_map_of_mem (f := (·.1)) hp)))).1, .inr (h6 p.1 (.tail _ (.tail _ (List.mem_map_of_mem (f := (·.1)) hp)))).2⟩)) fun S₂ a1 a2 I' => ?_
  refine xi1_5 S₂ a1 (fun a o h => a2 a o (.inl h)) (a2 _ _ (.inr (.inl ⟨rfl, rfl⟩))) (a2 _ _ (.inr (.inr ⟨rfl, rfl⟩))) I'
theorem EdD.only {od : Obj} {Ed : List (Int × Int)} (h : EdD prog w S od Ed) : EdD prog w (onlyTup S) od Ed := by
  refine xa1_2 (h) fun xs hp5 h6 => ?_
  obtain ⟨h1, es, ep, h2, h3, h4, h5⟩ := hp5
  refine xi1_2 xs ⟨h1, es, ep, h2, h3, fun x hx => let ⟨o, a, b⟩ := h4 x hx; ⟨o, ⟨a, b.1, let ⟨items, n, hd, _⟩ := b.2; ⟨items, n, hd⟩⟩, b⟩, h5⟩ h6
theorem GObs.empty {H : GA} {oe ol or' og : Obj} {ls : List (Addr × Obj)} (h : GObs prog w gB S' H [] oe ol or' og ls) : GObs prog w gB S H [] oe ol or' og ls := by
  obtain ⟨hp6, hl, hr, hp7⟩ := h
  refine xa1_2 (hp6) fun xs hp8 h6 => ?_
  obtain ⟨h1, es, ep, h2, h3, h4, h5⟩ := hp8
  refine xa1_3 (hp7) fun ys hp9 hP hz => ?_
  obtain ⟨g1, es', ep', g2, g3, g4, g5⟩ := hp9
  have e1 : xs = [] := by simpa using h6
  have e2 : ys = [] := List.eq_nil_of_length_eq_zero (by simpa using hz)
  subst e1 e2
  refine ⟨⟨[], ⟨h1, es, ep, h2, h3, (fun _ h => nomatch h), h5⟩, rfl⟩, hl, hr, ⟨[], ⟨g1, es', ep', g2, g3, (fun _ h => nomatch h), g5⟩, ?_, by simp⟩⟩
  cases hP; exact .nil

theorem GObs.mono {H : GA} {Ed : List (Int × Int)} {oe ol or' og : Obj} {ls : List (Addr × Obj)} (h : GObs prog w gB S H Ed oe ol or' og ls) (hs : ∀ a o, S a o → S' a o) : GObs prog w gB S' H Ed oe ol or' og ls :=
  ⟨h.ed.mono hs, h.lf, h.rt, let ⟨xs, h1, h2, h3⟩ := h.gr; ⟨xs, h1.mono fun _ _ o q => hs _ o q, h2.mono hs, h3⟩⟩

inductive LbI (prog : Program) (w : World) (gB : Heap) (S₂ : Addr → Obj → Prop) (L : Addr) (H : GA) (Ed : List (Int × Int)) (oM oT oL oR oA : Obj) (k : Nat) (m' : Str → Option Value) (S' : Addr → Obj → Prop) (tr : List (Addr × Obj)) : Prop
  | mk (h1 : (∀ a o, S₂ a o → S' a o))
    (h2 : m' "graph" = some (.ref H.x))
    (oe ol or' ogr ls)
    (h3 : tr = gtr H oe ol or' ogr ls ++ [(L + 2, oM), (L + 3, oT), (L + 4, oL), (L + 5, oR), (L + 6, oA)])
    (h4 : GObs prog w gB S' H (Ed.take k) oe ol or' ogr ls) : LbI prog w gB S₂ L H Ed oM oT oL oR oA k m' S' tr

theorem lawB (B : Base w.params mg mb gB) {oE oM oT oL oR oA : Obj} {q : Addr} {items : List Value} {c : Nat} {Ed : List (Int × Int)} (R : Room A 40 200)
    (I : FIn gB O L m S [(L + 2, oM), (L + 3, oT), (L + 4, oL), (L + 5, oR), (L + 6, oA)] s) (hcls : ∀ p ∈ [(L + 2, oM), (L + 3, oT), (L + 4, oL), (L + 5, oR), (L + 6, oA)], NT p.2)
    (hSe : S (L + 1) oE) (hE : oE.data = .cell (some (.ref q))) (hq : S q (lst items c)) (hP : Prs prog w S items Ed) (hok : EOk Ed)
    {Q : Flow → Shared → Prop} {E : Value → Shared → Prop}
    (h : ∀ s' m' S' (H : GA) es n oed, (∀ a o, S a o → S' a o) → FIn gB O L m' S' [(L + 2, oM), (L + 3, oT), (L + 4, oL), (L + 5, oR), (L + 6, oA)] s' → m' "graph" = some (.ref H.x) → (∃ sl, S' H.x ⟨.ref 199, some H.dx, .plain, sl⟩) → S' H.dx (dictOf es n) → FldO es H.flds → S' H.ed oed → EdD prog w S' oed Ed → gB.objs.size ≤ H.ed →
      wpAny (model prog w) A (execs ((bodyAt 215).drop 4) (envC 215 L)) Q E s') :
    wpAny (model prog w) A (execs ((bodyAt 215).drop 2) (envC 215 L)) Q E s := by
  have U := R.un
  refine wpAny_execs_cons (wpAny_Assign_Name (PyProof.Rows.Call_ (r_glob B I (gBG _) ?_) rfl))
  refine callWith_K0 (B.K I.wd) (kBG _) ?_
  refine make199_0 (O := og s) B R.mono I.pre (OgOk.refl s) fun s₁ S₁ H es n oe ol or' ogr ls P h1 h2 hf hG hn h5 h6 h7 => ?_
  replace hG := GObs.empty (S := fun _ _ => False) hG
  refine xa1_5 (I.newgraph (S' := fun _ _ => False) hcls ⟨P.wd, P.kp, P.sz, P.bare, P.os⟩ h1 h2 hn h5 h6 (fun _ _ q => q.elim)) fun S₂ hS₂ _ hSx hSd I => ?_
  replace hG := hG.mono (S' := S₂) fun _ _ q => q.elim
  refine r_st I fun s₂ I => ?_
  walk_at "q"
  refine wpAny_execs_cons (r_for_list (gB := gB) (O := O) (L := L) R.hh (r_cell (c215e L) (I.get (hS₂ _ _ hSe)) hE ?_))
  walk_at "q"
  have hlen := hP.length
  refine ⟨q, items, _, _, _, LbI prog w gB S₂ L H Ed oM oT oL oR oA,
    rfl, I, ?_, ⟨fun _ _ q => q, rfl, oe, ol, or', ogr, ls, rfl, hG⟩, ?_, ?_⟩
  · intro k m S' tr hp10
    obtain ⟨hS', _⟩ := hp10
    refine xi1_2 _ (hS' _ _ (hS₂ _ _ hq)) (lstO _ _)
  · intro it k m' S' tr s₃ io hk hp11 I
    obtain ⟨hS', hmg, oe, ol, or', ogr, ls, he12, hG⟩ := hp11
    obtain rfl := he12
    obtain ⟨e, he, te, hte, tte⟩ := hP.getD hk .none
    refine xa2_3 (hok.sm e (List.mem_of_getElem? he)) fun l r hl hr he13 => ?_
    obtain rfl := he13
    rw [hte]
    refine wpAny_assign_Name (r_st I fun s₄ I => ?_)
    walk_at "q"
    have hSS : ∀ a o, S a o → S' a o := fun a o z => hS' _ _ (hS₂ _ _ z)
    refine wpAny_execs_cons (wpAny_Assign_Subscript (wpAny_Constant_bool (r_loc I hmg (r_loc I rfl ?_))))
    walk_at "q"
    refine ksp_setItem (od := some (dictOf es n)) I.fr B.X (C := 199) ⟨I.get (hS' _ _ hSx), rfl, rfl, I.get (hS' _ _ hSd)⟩ (seq199 _) (set199 _) (fn105 _) ?_
    have nd := I.nd
    rw [List.map_cons, List.nodup_cons, List.map_append, List.nodup_append] at nd
    have hnew : ((l : Int), (r : Int)) ∉ Ed.take k := fun hm => by
      refine xa1_1 (List.mem_iff_getElem?.mp hm) fun j hj => ?_
      have hjk : j < k := by
        have := (List.getElem?_eq_some_iff.mp hj).1
        rw [List.length_take] at this; omega
      rw [List.getElem?_take_of_lt hjk] at hj
      have := (List.getElem?_inj (List.getElem?_eq_some_iff.mp hj).1 hok.nd).mp (hj.trans he.symm)
      omega
    refine set_spec B (S := S') ⟨_, hS' _ _ hSx⟩ (hS' _ _ hSd) hf hG nd.2.1 (by rw [List.length_take]; have := hok.len; omega) (tte.mono hSS) hl hr hnew R.mono I.pre (fun a o z => ?_) (fun p hp => ?_) fun s₅ S₅ oe' ol' or'' og' ls' P hS₅ hS₅' hG' hn' hp' => ?_
    · refine xa0_4 (I.st a o z) fun a1 a2 a3 a4 => ?_
      refine xi0_3 a1 a3 (fun e => a4 ?_)
      rw [List.map_cons, List.map_append]
      exact List.mem_cons_of_mem _ (List.mem_append_left _ e)
    · have := I.tk p (List.mem_cons_of_mem _ (List.mem_append_left _ hp))
      refine xi0_2 this.1 this.2.2
    · have I₆ : FIn gB O L _ S' (gtr H oe ol or' ogr ls ++ ((it, io) :: [(L + 2, oM), (L + 3, oT), (L + 4, oL), (L + 5, oR), (L + 6, oA)])) s₄ := I.perm List.perm_middle.symm
      refine xa1_3 (FIn.setpost (S' := S₅) (G' := gtr H oe' ol' or'' og' ls') I₆ P (fun a o z => by
        rcases hS₅' a o z with q | ⟨q1, q2, q3, q4⟩
        · exact .inl q
        · exact .inr ⟨.inl q1, q2, q3, q4⟩) hn' hp') fun S₇ hS₇ hS₇' I => ?_
      have I := I.perm (tr' := (it, io) :: (gtr H oe' ol' or'' og' ls' ++ [(L + 2, oM), (L + 3, oT), (L + 4, oL), (L + 5, oR), (L + 6, oA)])) List.perm_middle
      refine wpAny_execs_nil ?_
      refine xi3_2 _ _ _ I ⟨fun a o z => hS₇ _ _ (hS' _ _ z) , hmg , oe' , ol' , or'' , og' , ls' , rfl , ?_⟩
      have : Ed.take (k + 1) = Ed.take k ++ [((l : Int), (r : Int))] := by rw [List.take_add_one, he]; rfl
      rw [this]
      exact hG'.mono hS₇'
  · intro m' S' tr s₃ hp14 I
    obtain ⟨hS', hmg, oe, ol, or', ogr, ls, he15, hG⟩ := hp14
    obtain rfl := he15
    rw [List.take_of_length_le (by omega)] at hG
    have hn := I.new (i := 0) (a := H.ed) (o := oe) rfl
    have key : ∀ (ls' : List (Addr × Obj)) (S₁ : Addr → Obj → Prop), FIn gB O L m' S₁ (ls' ++ [(L + 2, oM), (L + 3, oT), (L + 4, oL), (L + 5, oR), (L + 6, oA)]) s₃ → ∃ S₂, (∀ a o, S₁ a o → S₂ a o) ∧ (∀ p ∈ ls', S₂ p.1 p.2) ∧ FIn gB O L m' S₂ [(L + 2, oM), (L + 3, oT), (L + 4, oL), (L + 5, oR), (L + 6, oA)] s₃ := by
      intro ls'
      induction ls' with
      | nil => intro S₁ I; exact ⟨S₁, fun _ _ q => q, (fun _ h => nomatch h), I⟩
      | cons p ls' ih =>
        intro S₁ I
        refine xa1_3 (ih _ (FIn.settle (a := p.1) (o := p.2) I)) fun S₂ a1 a2 I => ?_
        refine xi1_3 S₂ (fun a o q => a1 _ _ (.inl q)) (fun p' hp' => ?_) I
        rcases List.mem_cons.mp hp' with rfl | hp'
        · exact a1 _ _ (.inr ⟨rfl, rfl⟩)
        · exact a2 p' hp'
    refine xa1_3 (key _ _ I) fun S₆ b1 b2 I => ?_
    exact h s₃ m' S₆ H es n oe (fun a o z => b1 _ _ (hS' _ _ (hS₂ _ _ z))) I hmg ⟨_, b1 _ _ (hS' _ _ hSx)⟩ (b1 _ _ (hS' _ _ hSd)) hf (b2 _ (.head _)) (hG.ed.mono b1) hn
end
end Mine
end
section
open PySem PySem.W PySem.Calls PyProof.Rows
open Sem (wp)
namespace Mine
section
variable {prog : Program} {w : World} {gB : Heap} {mg mb : Str → Option Value}
variable {O : Og} {L : Addr} {m : Str → Option Value} {S S' : Addr → Obj → Prop} {tr cs : List (Addr × Obj)} {s s' : Shared} {A : Around} {E : Value → Shared → Prop}

theorem intD_value {kvs : List (Int × Value)} {M : List (Int × Int)} (h : All2 (fun (kv : Int × Value) (p : Int × Int) => kv.1 = p.1 ∧ VInt kv.2 p.2) kvs M) (k : Int) :
    (get M k = none ∧ valueAt kvs k = none) ∨ ∃ r t, get M k = some r ∧ valueAt kvs k = some (.int r t) := by
  induction h with
  | nil => exact .inl ⟨rfl, rfl⟩
  | @cons kv p kvs M h1 _ ih =>
    obtain ⟨e1, t, e2⟩ := h1
    by_cases e : p.1 = k
    · refine .inr ⟨p.2, t, by simp [get, e], ?_⟩
      simp [valueAt, e1, e, e2]
    · have e' : ¬ kv.1 = k := fun q => e (e1 ▸ q)
      have a1 : get (p :: M) k = get M k := by simp [get, e]
      have a2 : valueAt (kv :: kvs) k = valueAt kvs k := by simp [valueAt, e']
      rw [a1, a2]; exact ih
theorem IntD.raw {od : Obj} {M : List (Int × Int)} (h : IntD prog w od M) : ∃ es ep, od.ExactDict ∧ od.data = .dict es ep ∧ All2 (fun (e : DictEntry) (p : Int × Int) => VInt e.key p.1 ∧ VInt e.val p.2) es.toList M := by
  obtain ⟨kvs, ⟨es, ep, h1, h2, h3, h4, h5⟩, h6⟩ := h
  refine ⟨es, ep, h1, h2, ?_⟩
  clear h5
  generalize es.toList = l at h4
  induction h4 generalizing M with
  | nil => cases h6; exact .nil
  | @cons e kv es' kvs' a1 a2 _ ih =>
    cases h6 with
    | cons b1 b2 =>
      refine .cons ⟨?_, ?_⟩ (ih b2)
      · refine xa1_1 (isInt_shape a1) fun t ht => ?_
        exact ⟨t, by rw [ht, b1.1]⟩
      · rw [a2]; exact b1.2
theorem r_inD {d : Addr} {od : Obj} {M : List (Int × Int)} {k : Int} {t : Tok} {Q : Value → Shared → Prop} (I : FIn gB O L m S tr s) (hg : s.heap.get? d = some od) (hD : IntD prog w od M) (hn : gB.objs.size ≤ d)
    (h : ∀ s', FIn gB O L m S tr s' → s'.heap = s.heap → Q (.bool (get M k).isSome) s') : wpAny (model prog w) A (compareOp .In (.int k t) (.ref d)) Q E s := by
  refine xa1_2 (hD) fun kvs hd hA => ?_
  refine wpAny_in_of (knd := intKind prog w) (intKind_is _ _ _ _) (I.wd.notMod hn) (Heap.dictOf_iff.mpr ⟨od, hg, hd⟩ : s.heap.DictOf (intKind prog w) d kvs).mapOf ?_
  walk_at "q"
  have := h _ (I.toks (s.toks + 1)) rfl
  rcases intD_value hA k with ⟨e1, e2⟩ | ⟨r, t', e1, e2⟩
  · rw [e1] at this; rw [e2]; exact this
  · rw [e1] at this; rw [e2]; exact this
theorem r_notinD {d : Addr} {od : Obj} {M : List (Int × Int)} {k : Int} {t : Tok} {Q : Value → Shared → Prop} (I : FIn gB O L m S tr s) (hg : s.heap.get? d = some od) (hD : IntD prog w od M) (hn : gB.objs.size ≤ d)
    (h : ∀ s', FIn gB O L m S tr s' → s'.heap = s.heap → Q (.bool (!(get M k).isSome)) s') : wpAny (model prog w) A (compareOp .NotIn (.int k t) (.ref d)) Q E s := by
  refine xa1_2 (hD) fun kvs hd hA => ?_
  refine wpAny_notIn_of (knd := intKind prog w) (intKind_is _ _ _ _) (I.wd.notMod hn) (Heap.dictOf_iff.mpr ⟨od, hg, hd⟩ : s.heap.DictOf (intKind prog w) d kvs).mapOf ?_
  walk_at "q"
  have := h _ (I.toks (s.toks + 1)) rfl
  rcases intD_value hA k with ⟨e1, e2⟩ | ⟨r, t', e1, e2⟩
  · rw [e1] at this; rw [e2]; exact this
  · rw [e1] at this; rw [e2]; exact this
theorem r_getD {value slice : Expr} {d : Addr} {od : Obj} {M : List (Int × Int)} {k r : Int} {t : Tok} {Q : Value → Shared → Prop} (I : FIn gB O L m S tr s) (hg : s.heap.get? d = some od) (hD : IntD prog w od M) (hr : get M k = some r)
    (h : ∀ s' t', FIn gB O L m S tr s' → s'.heap = s.heap → Q (.int r t') s') (hs : subscripted slice false (.ref d) (.int k t) = operate [.ref d, .int k t] (getItem (.ref d) (.int k t)) := by with_unfolding_all rfl) :
    wpAny (model prog w) A (subscriptTail value slice (.ref d) (.int k t)) Q E s := by
  refine xa1_2 (hD) fun kvs hd hA => ?_
  have hm : s.heap.DictOf (intKind prog w) d kvs := Heap.dictOf_iff.mpr ⟨od, hg, hd⟩
  rcases intD_value hA k with ⟨e1, e2⟩ | ⟨r', t', e1, e2⟩
  · rw [hr] at e1; cases e1
  · rw [hr] at e1; cases e1
    exact tail_any hm.typeIs slot_dict_getitem.lookup (wpAny_getItem_of (knd := intKind prog w) (intKind_is _ _ _ _) hm.mapOf e2 (h _ _ (I.toks _) rfl)) hs
theorem r_lenD {d : Addr} {od : Obj} {M : List (Int × Int)} {Q : Value → Shared → Prop} (I : FIn gB O L m S tr s) (hg : s.heap.get? d = some od) (hD : IntD prog w od M) (hn : gB.objs.size ≤ d) (hz : M.length ≤ 1000)
    (h : ∀ s' t', FIn gB O L m S tr s' → s'.heap = s.heap → Q (.int M.length t') s') : wpAny (model prog w) A (call (.builtin "len") [.ref d]) Q E s := by
  refine xa1_2 (hD) fun kvs hd hA => ?_
  have hl := hA.length
  refine call_len_dict (knd := intKind prog w) (kvs := kvs) (I.wd.notMod hn) (Heap.dictOf_iff.mpr ⟨od, hg, hd⟩) (by with_reducible exact o63e ‹_› ‹_› (by with_unfolding_all exact rfl)) ?_
  rw [hl]; exact h _ _ (I.toks _) rfl

theorem FIn.addNew (I : FIn gB O L m S tr s) (P : Post gB [] s s') {d : Addr} {od : Obj} (hd : s'.heap.get? d = some od) (hn : (s.heap.objs.size : Nat) ≤ d) : ∃ S', (∀ a o, S a o → S' a o) ∧ S' d od ∧ FIn gB O L m S' tr s' ∧ gB.objs.size ≤ d := by
  have I' := I.keepP P
  have hfr : s.heap.get? d = none := Heap.get?_none_of_le hn
  have hg : gB.objs.size ≤ d := Nat.le_trans I.wd.sz hn
  have I₂ := I'.track hd (fun e => by rw [e] at hn; exact absurd I.L_lt (Nat.not_lt.mpr hn)) hg (fun x hx => by
    have := I.get hx
    rw [hfr] at this; cases this) (fun e => by
    refine xa1_2 (List.mem_map.mp e) fun p hp e => ?_
    have := (I.tk p hp).1
    rw [e, hfr] at this; cases this)
  exact ⟨_, fun _ _ h => .inl h, .inr ⟨rfl, rfl⟩, I₂.settle, hg⟩

noncomputable def FindOk (Ed M : List (Int × Int)) : Prop :=
  ∃ σ : HK (List Int), hk (adjOf Ed) 20 = some σ ∧ (∀ p ∈ σ.pl, ∃ l r, p = ([0, l], [1, r])) ∧ σ.pl.length ≤ 100 ∧ M = σ.pl.map fun p => (p.1.getD 1 0, p.2.getD 1 0)

theorem find_new (B : Base w.params mg mb gB) (I : FIn gB O L m S cs s) (hnt : ∀ p ∈ cs, NT p.2) {H : GA} {es : List DictEntry} {n : Nat} {oe ol or' ogr : Obj} {ls : List (Addr × Obj)} {Ed M : List (Int × Int)} (P : Post gB [] s s') (h1 : s'.heap.get? H.x = some (instObj 199 H.dx)) (h2 : s'.heap.get? H.dx = some (dictOf es n)) (hf : FldO es H.flds)
    (hG : GObs prog w gB S' H Ed oe ol or' ogr ls) (hn : (H.x :: H.dx :: (gtr H oe ol or' ogr ls).map (·.1)).Nodup) (h5 : ∀ p ∈ gtr H oe ol or' ogr ls, s'.heap.get? p.1 = some p.2) (h6 : ∀ a ∈ H.x :: H.dx :: (gtr H oe ol or' ogr ls).map (·.1), gB.objs.size ≤ a ∧ s.heap.get? a = none)
    (h7 : ∀ a o, S' a o → s'.heap.get? a = some o ∧ a ∉ tabP ∧ a ∉ (H.x :: H.dx :: (gtr H oe ol or' ogr ls).map (·.1)) ∧ o.cls = .type "tuple") (zE : Ed.length ≤ 12) (hM : FindOk Ed M) (R : Room A 40 200) {Q : Value → Shared → Prop}
    (hQ : ∀ s'' d od, FIn gB O L m S cs s'' → s''.heap.get? d = some od → IntD prog w od M → gB.objs.size ≤ d → Q (.ref d) s'') :
    wpAny (model prog w) A (call (.ref 175) [.ref H.x]) Q E s' := by
  refine xa1_4 (hM) fun σ a1 a2 a3 he1 => ?_
  obtain rfl := he1
  refine xa1_5 (I.newgraph hnt P h1 h2 hn h5 h6 h7) fun S₂ b1 b2 b3 b4 I₂ => ?_
  have I₃ := (I₂.perm (tr' := (H.ed, oe) :: (H.lf, ol) :: (H.rt, or') :: (H.gr, ogr) :: (ls ++ cs)) (List.Perm.refl _)).settle
  refine find_spec B (S := fun b x => S₂ b x ∨ (b = H.ed ∧ x = oe)) (H := H) ⟨_, .inl b3⟩ (.inl b4) hf (.inr ⟨rfl, rfl⟩) (hG.ed.only.mono fun a o q => .inl (b2 a o q)) (h6 H.ed (by simp)).1 zE a1 a2 a3 R I₃.pre (fun a o q => ⟨(I₃.st a o q).1, (I₃.st a o q).2.2.1⟩) fun s'' d od P' hd hod hD => ?_
  walk_at "q"
  have I₄ := (I.keepP P).keepP P'
  refine hQ s'' d od I₄ hod hD ?_
  exact Nat.le_trans I₃.wd.sz hd
theorem meth_new (B : Base w.params mg mb gB) {H : GA} {es : List DictEntry} {n : Nat} {pl : Sem Bool} {Q : Value × List Value → Shared → Prop} (I : FIn gB O L m S tr s) (h1 : s.heap.get? H.x = some (instObj 199 H.dx)) (h2 : s.heap.get? H.dx = some (dictOf es n)) (hf : FldO es H.flds)
    (h : Q (.ref 175, [.ref H.x]) s) : wpAny (model prog w) A (getMethod (.ref H.x) "find_matching" pl) Q E s :=
  r_meth B I h1 h2 hf rfl (m199_find_matching _) h
end
end Mine
end
section
open PySem PySem.W PySem.Calls PyProof.Rows
open Sem (wp)
namespace Mine
structure LawS (prog : Program) (w : World) (gB : Heap) (L : Addr) (S : Addr → Obj → Prop) (m : Str → Option Value) (Ed M : List (Int × Int)) (H : GA) : Prop where
  ok : EOk Ed
  zM : M.length ≤ 100
  cE : ∃ o q items c, S (L + 1) o ∧ o.data = .cell (some (.ref q)) ∧ S q (lst items c) ∧ Prs prog w S items Ed
  mg : m "graph" = some (.ref H.x)
  gx : ∃ sl, S H.x ⟨.ref 199, some H.dx, .plain, sl⟩
  gd : ∃ es n, S H.dx (dictOf es n) ∧ FldO es H.flds
  ge : ∃ oed, S H.ed oed ∧ EdD prog w S oed Ed
  gn : gB.objs.size ≤ H.ed
  cM : ∃ o d od, S (L + 2) o ∧ o.data = .cell (some (.ref d)) ∧ S d od ∧ IntD prog w od M ∧ gB.objs.size ≤ d
  cT : ∃ o q vs c, S (L + 3) o ∧ o.data = .cell (some (.ref q)) ∧ S q (lst vs c) ∧ IntsAre vs (M.map (·.2))
  ms : ∃ t, m "size" = some (.int M.length t)
theorem vals_of {l : List DictEntry} {M : List (Int × Int)} (hA : All2 (fun (e : DictEntry) (p : Int × Int) => VInt e.key p.1 ∧ VInt e.val p.2) l M) : IntsAre (l.map (·.val)) (M.map (·.2)) := by
  induction hA with
  | nil => exact .nil
  | cons h1 _ ih =>
    obtain ⟨_, t, ht⟩ := h1
    rw [List.map_cons, List.map_cons, ht]
    exact .cons _ _ ih
section
variable {prog : Program} {w : World} {gB : Heap} {mg mb : Str → Option Value}
variable {O : Og} {L : Addr} {m m' : Str → Option Value} {S S' : Addr → Obj → Prop} {tr cs : List (Addr × Obj)} {s s' : Shared} {A : Around} {E : Value → Shared → Prop}
theorem LawS.mono {Ed M : List (Int × Int)} {H : GA} (h : LawS prog w gB L S m Ed M H) (hs : ∀ a o, S a o → S' a o) (h1 : m' "graph" = m "graph") (h2 : m' "size" = m "size") : LawS prog w gB L S' m' Ed M H where
  ok := h.ok
  zM := h.zM
  cE := let ⟨o, q, items, c, a1, a2, a3, a4⟩ := h.cE; ⟨o, q, items, c, hs _ _ a1, a2, hs _ _ a3, a4.mono fun _ _ z => z.mono hs⟩
  mg := h1.trans h.mg
  gx := let ⟨sl, a⟩ := h.gx; ⟨sl, hs _ _ a⟩
  gd := let ⟨es, n, a, b⟩ := h.gd; ⟨es, n, hs _ _ a, b⟩
  ge := let ⟨o, a, b⟩ := h.ge; ⟨o, hs _ _ a, b.mono hs⟩
  gn := h.gn
  cM := let ⟨o, d, od, a1, a2, a3, a4⟩ := h.cM; ⟨o, d, od, hs _ _ a1, a2, hs _ _ a3, a4⟩
  cT := let ⟨o, q, vs, c, a1, a2, a3, a4⟩ := h.cT; ⟨o, q, vs, c, hs _ _ a1, a2, hs _ _ a3, a4⟩
  ms := let ⟨t, a⟩ := h.ms; ⟨t, h2.trans a⟩

theorem lawC (B : Base w.params mg mb gB) {oE oM oT oL oR oA oed : Obj} {q : Addr} {items : List Value} {c n : Nat} {Ed M : List (Int × Int)} {H : GA} {es : List DictEntry} (R : Room A 41 203)
    (I : FIn gB O L m S [(L + 2, oM), (L + 3, oT), (L + 4, oL), (L + 5, oR), (L + 6, oA)] s) (dM : oM.data = .cell none) (dT : oT.data = .cell none)
    (hSe : S (L + 1) oE) (hE : oE.data = .cell (some (.ref q))) (hq : S q (lst items c)) (hP : Prs prog w S items Ed) (hok : EOk Ed)
    (hmg : m "graph" = some (.ref H.x)) (hx : ∃ sl, S H.x ⟨.ref 199, some H.dx, .plain, sl⟩) (hdx : S H.dx (dictOf es n)) (hf : FldO es H.flds) (hed : S H.ed oed) (hED : EdD prog w S oed Ed) (hn : gB.objs.size ≤ H.ed) (hM : FindOk Ed M)
    {Q : Flow → Shared → Prop} {E : Value → Shared → Prop}
    (h : ∀ s' m' S', (∀ a o, S a o → S' a o) → FIn gB O L m' S' [(L + 4, oL), (L + 5, oR), (L + 6, oA)] s' → LawS prog w gB L S' m' Ed M H →
      wpAny (model prog w) A (execs ((bodyAt 215).drop 7) (envC 215 L)) Q E s') :
    wpAny (model prog w) A (execs ((bodyAt 215).drop 4) (envC 215 L)) Q E s := by
  refine xa1_4 (id hM) fun σ a1 a2 a3 hMe => ?_
  have zM : M.length ≤ 100 := by rw [hMe, List.length_map]; exact a3
  refine xa1_1 (hx) fun sl hx => ?_
  refine wpAny_execs_cons (wpAny_Assign_Name (r_callm0 B I hmg (I.get hx) (I.get hdx) hf rfl (m199_find_matching _) ?_))
  walk_at "q"
  refine find_spec B (S := S) ⟨_, hx⟩ hdx hf hed hED hn (by have := hok.len; exact Mine.oL ‹_› (by exact rfl)) a1 a2 a3 R.mono I.pre (fun a o z => ⟨(I.st a o z).1, (I.st a o z).2.2.1⟩) fun s₁ d od P hd hod hD => ?_
  walk_at "q"
  rw [← hMe] at hD
  refine xa1_4 (I.addNew P hod hd) fun S₁ hS₁ hSd I hdn => ?_
  refine r_cellSt I (c215m L) (i := 0) rfl dM fun s₂ oM' hM' I => ?_
  walk_at "q"
  refine xa1_3 (I.settleAt (i := 0) rfl) fun S₂ hS₂ hSm I => ?_
  refine wpAny_execs_cons (wpAny_Assign_Name (PyProof.Rows.Call_ (r_blt B I (g_len _) (v := .builtin "len") (by decide +kernel) (by decide) ?_) rfl))
  refine callWith_builtin rfl (evalArgs_plain (args_cons (r_cell (c215m L) (I.get hSm) hM' (args_nil ?_))))
  walk_at "q"
  refine r_lenD I (I.get (hS₂ _ _ hSd)) hD hdn (by exact Mine.oL ‹_› (by exact rfl)) fun s₃ t₃ I _ => r_st I fun s₄ I => ?_
  walk_at "q"
  refine wpAny_execs_cons (wpAny_Assign_Name (PyProof.Rows.Call_ (r_blt B I (g_list _) (v := .type "list") (by decide +kernel) (by decide) ?_) rfl))
  refine xa2_3 (hD.raw) fun es' ep' hEx hdat hA => ?_
  refine PyProof.Rows.callWith_type1 (args_cons (MethodCall_ (r_cell (c215m L) (I.get hSm) hM' ?_) (eval_callm rfl rfl rfl)))
  refine getMethod_builtin ⟨_, I.get (hS₂ _ _ hSd), hEx.1⟩ PySem.F.plainAttrs_dict PySem.F.slot_dict_values PySem.F.type_dict_values (fun a e => ⟨_, by cases e; exact I.get (hS₂ _ _ hSd), hEx.2.1⟩) ?_
  refine callWith_method0 (r_values I (I.get (hS₂ _ _ hSd)) hEx.1 hdn fun v s₅ hv I => args_nil ?_)
  walk_at "q"
  refine xa1_3 (I.settleAt (i := 0) rfl) fun S₃ hS₃ hSv I => ?_
  have hsz : es'.size = M.length := by have := hA.length; simpa using this
  refine r_list_values R.hh I hSv ⟨od, hS₃ _ _ (hS₂ _ _ hSd), hEx.1, hdat⟩ (by exact Mine.oE ‹_› ‹_› (by exact rfl)) fun qt s₆ ct hqt I => ?_
  walk_at "q"
  refine xa1_3 (I.settleAt (i := 0) rfl) fun S₄ hS₄ hSq I => ?_
  refine r_cellSt I (c215t L) (i := 0) rfl dT fun s₇ oT' hT' I => ?_
  walk_at "q"
  refine xa1_3 (I.settleAt (i := 0) rfl) fun S₅ hS₅ hSt I => ?_
  have h05 : ∀ a o, S a o → S₅ a o := fun a o z => hS₅ _ _ (hS₄ _ _ (hS₃ _ _ (hS₂ _ _ (hS₁ _ _ z))))
  have hvals := vals_of hA
  refine h s₇ _ S₅ h05 I ⟨hok, zM, ⟨oE, q, items, c, h05 _ _ hSe, hE, h05 _ _ hq, hP.mono fun _ _ z => z.mono h05⟩, hmg, ⟨sl, h05 _ _ hx⟩, ⟨es, n, h05 _ _ hdx, hf⟩, ⟨oed, h05 _ _ hed, hED.mono h05⟩, hn,
    ⟨oM', d, od, hS₅ _ _ (hS₄ _ _ (hS₃ _ _ hSm)), hM', hS₅ _ _ (hS₄ _ _ (hS₃ _ _ (hS₂ _ _ hSd))), hD, hdn⟩, ⟨oT', qt, _, ct, hSt, hT', hS₅ _ _ hSq, hvals⟩, ⟨_, rfl⟩⟩
end
end Mine
end
section
open PySem PySem.W PySem.Calls PyProof.Rows
open Sem (wp)
namespace Mine

set_option linter.unusedSectionVars false
theorem bit1 : ∀ x, x < 4 → ∀ i, i < 4 → (1 <<< x).testBit i = decide (i = x) := by decide +kernel
theorem bits_fold : ∀ (xs : List Nat) (b : Nat), (∀ x ∈ xs, x < 4) → ∀ i, i < 4 → (xs.foldl (fun b x => b ||| (1 <<< x)) b).testBit i = (b.testBit i || decide (i ∈ xs))
  | [], b, _, i, _ => by simp
  | x :: xs, b, hx, i, hi => by
    rw [List.foldl_cons, bits_fold xs _ (fun y hy => hx y (.tail _ hy)) i hi, Nat.testBit_or, bit1 x (hx x (.head _)) i hi]
    by_cases e : i = x
    · subst e; simp
    · simp [e]
theorem mem_bits {xs : List Nat} (hx : ∀ x ∈ xs, x < 4) (i : Nat) : i ∈ stI (bits xs) ↔ i ∈ xs := by
  rw [mem_stI]
  constructor
  · rintro ⟨h1, h2⟩
    have := bits_fold xs 0 hx i h1
    unfold bits at h2
    rw [this] at h2
    simpa using h2
  · intro h
    refine ⟨hx i h, ?_⟩
    unfold bits
    rw [bits_fold xs 0 hx i (hx i h)]
    simp [h]
theorem stI_nodup (b : Nat) : (stI b).Nodup := List.Pairwise.filter _ (by decide : [0, 1, 2, 3].Nodup)
theorem bits_len {xs : List Nat} (hx : ∀ x ∈ xs, x < 4) (hn : xs.Nodup) : (stI (bits xs)).length = xs.length :=
  ((List.perm_ext_iff_of_nodup (stI_nodup _) hn).mpr fun a => mem_bits hx a).length_eq
theorem nats_of {ps : List (Int × Int)} {f : Int × Int → Int} (h : ∀ p ∈ ps, ∃ n : Nat, n < 4 ∧ f p = (n : Int)) : ps.map f = (ps.map fun p => (f p).toNat).map (fun (n : Nat) => (n : Int)) ∧ ∀ x ∈ ps.map (fun p => (f p).toNat), x < 4 := by
  constructor
  · rw [List.map_map]
    refine List.map_congr_left fun p hp => ?_
    walk_at "q"
    obtain ⟨n, _, e⟩ := h p hp
    simp [e]
  · intro x hx
    obtain ⟨p, hp, rfl⟩ := List.mem_map.mp hx
    obtain ⟨n, h1, e⟩ := h p hp
    simp [e, h1]
section
variable {prog : Program} {w : World} {gB : Heap} {O : Og} {L : Addr} {m : Str → Option Value} {S S' : Addr → Obj → Prop} {tr : List (Addr × Obj)} {s s' : Shared} {A : Around} {E : Value → Shared → Prop} {env : Env}

theorem listItr {l it : Addr} {items : List Value} : Itr prog w gB it items.length (fun _ k v => v = items.getD k .none) (fun _ k io => LIt l k io) (fun S => ∃ lo, S l lo ∧ LstO items lo) :=
  listIter.itr (fun hs ⟨lo, a, b⟩ => ⟨lo, hs _ _ a, b⟩) (fun h e => by rw [h.1] at e; exact absurd e (by decide)) fun hi hP h => wpAny_pyIter_listiter ⟨_, hi, hP.1, hP.2⟩ h

theorem r_ne_nil {a b : Addr} {c c' : Nat} {Q : Value → Shared → Prop} (hu : A.units < cLine) (ha : s.heap.get? a = some (lst [] c)) (hb : s.heap.get? b = some (lst [] c')) (h : Q (.bool false) s) : wpAny (model prog w) A (compareOp .NotEq (.ref a) (.ref b)) Q E s := by
  have := SeqAt.RcNeAt.lists (A := A) (s := s) (l := a) (b := b) (items := #[]) (items2 := #[]) (e := fun _ => true) ⟨_, ha, rfl, c, rfl⟩ ⟨_, hb, rfl, c', rfl⟩ rfl hu (fun j h1 => absurd h1 (by simp))
  exact this prog w E Q h
theorem all2_nil {α β : Type} {R : α → β → Prop} {as : List α} {bs : List β} (h : All2 R as bs) (e : bs = []) : as = [] := by
  subst e; cases h; rfl
theorem passing_none (n : Nat) : passing (fun _ => false) n 0 = [] := by
  unfold passing; simp
end
end Mine
end
section
open PySem PySem.W PySem.Calls PyProof.Rows
open Sem (wp)
namespace Mine
section
variable {prog : Program} {w : World} {gB : Heap} {mg mb : Str → Option Value}
variable {O : Og} {L : Addr} {m m' : Str → Option Value} {S S' : Addr → Obj → Prop} {tr cs : List (Addr × Obj)} {s s' : Shared} {A : Around} {E : Value → Shared → Prop}

theorem item_tup {es : Array DictEntry} {M : List (Int × Int)} {i : Nat} {a : Addr} (hA : All2 (fun (e : DictEntry) (p : Int × Int) => VInt e.key p.1 ∧ VInt e.val p.2) es.toList M) (hi : i < es.size)
    (ha : S a (tup [(es[i]?.map (·.key)).getD .none, (es[i]?.map (·.val)).getD .none])) : ∃ p, M[i]? = some p ∧ TupS prog w S a [p.1, p.2] := by
  rcases hA.at i with ⟨h1, _⟩ | ⟨e, p, h1, h2, ⟨t1, e1⟩, ⟨t2, e2⟩⟩
  · rw [List.getElem?_eq_none_iff] at h1
    simp at h1; omega
  · refine ⟨p, h2, _, ha, ?_⟩
    have : es[i]? = some e := by rw [← h1]; simp
    rw [this]
    show TupO prog w [p.1, p.2] (tup [e.key, e.val])
    rw [e1, e2]; exact TupO.of

theorem lawD (B : Base w.params mg mb gB) {oL oR oA : Obj} {Ed M : List (Int × Int)} {H : GA} (R : Room A 41 203)
    (I : FIn gB O L m S [(L + 4, oL), (L + 5, oR), (L + 6, oA)] s) (hcls : ∀ p ∈ [(L + 4, oL), (L + 5, oR), (L + 6, oA)], NT p.2) (F : LawS prog w gB L S m Ed M H)
    (hin : ∀ p ∈ M, p ∈ Ed) (hnd : (M.map (·.2)).Nodup)
    {Q : Flow → Shared → Prop} {E : Value → Shared → Prop}
    (h : ∀ s' m' S', (∀ a o, S a o → S' a o) → FIn gB O L m' S' [(L + 4, oL), (L + 5, oR), (L + 6, oA)] s' → LawS prog w gB L S' m' Ed M H →
      wpAny (model prog w) A (execs ((bodyAt 215).drop 8) (envC 215 L)) Q E s') :
    wpAny (model prog w) A (execs ((bodyAt 215).drop 7) (envC 215 L)) Q E s := by
  have U := R.un
  obtain ⟨oE, q, items, c, hSe, hE, hq, hP⟩ := F.cE
  obtain ⟨oM, d, od, hSm, hM, hSd, hD, hdn⟩ := F.cM
  obtain ⟨oT, qt, tv, ct, hSt, hT, hqt, htv⟩ := F.cT
  obtain ⟨es, ep, hEx, hdat, hA⟩ := hD.raw
  have hsz : es.size = M.length := by have := hA.length; simpa using this
  have zM := F.zM
  refine wpAny_execs_cons (wpAny_If (wpAny_isTrue_BoolOp (wpAny_allTrue_Or_cons (wpAny_isTrue_Compare1 ?_))))
  walk_at "q"
  refine r_listcomp (gB := gB) (cl := [("edges", L + 1)]) R.hh (by kernel_rfl) (by decide) rfl (by decide) ?_
  walk_at "q"
  refine MethodCall_ (r_cell (c215m L) (I.get hSm) hM ?_) (eval_callm rfl rfl rfl)
  refine getMethod_builtin ⟨_, I.get hSd, hEx.1⟩ PySem.F.plainAttrs_dict PySem.F.slot_dict_items PySem.F.type_dict_items (fun a e => ⟨_, by cases e; exact I.get hSd, hEx.2.1⟩) ?_
  refine callWith_method0 (r_items I (I.get hSd) hEx.1 hdn fun v s₃ hv I => ?_)
  walk_at "q"
  replace I := I.settle
  refine iter_items I (I.get (.inr ⟨rfl, rfl⟩)) (I.get (.inl hSd)) hdat fun it s₄ hit I => ?_
  walk_at "q"
  refine ⟨it, _, _, _, _, _, _, es.size, _, _, _, fun _ => false, fun _ _ _ => True, rfl, I, itemsItr (prog := prog) (w := w) (gB := gB) (d := d) (it := it) (es := es) (ep := ep), ⟨_, _, _, _, rfl, .inl rfl⟩, ⟨od, .inl hSd, hEx.1, hdat⟩, by exact Mine.oE ‹_› ‹_› (by exact rfl), fun _ _ => trivial, hcls, ?_, ?_⟩
  · rintro C O' m' S' s' E' io acc ys c' i v hi J hS1 hsrc ⟨a, rfl, ha⟩
    obtain ⟨p, hp, hpt⟩ := item_tup (prog := prog) (w := w) hA hi ha
    refine wpAny_assign_Name (r_st J fun s₂ J => tests1 (wpAny_isTrue_Compare1 (r_loc J rfl (r_cell rfl (J.get (hS1 _ _ (.inl (.inl hSe)))) hE ?_))))
    walk_at "q"
    refine r_notinPrs (p := p) (by exact Mine.oU ‹_› (by exact rfl)) J (J.get (hS1 _ _ (.inl (.inl hq)))) (lstO _ _) (hP.mono fun _ _ z => z.mono fun a o q => hS1 _ _ (.inl (.inl q))) hpt (wpAny_truthy_bool ?_)
    walk_at "q"
    have hpe := hin p (List.mem_of_getElem? hp)
    refine ⟨by simp [hpe], fun _ => ⟨_, _, J, fun _ _ q => q⟩, fun e => ?_⟩
    simp [hpe] at e
  · intro ql ys c' S' s₅ hS' I hys _
    have hys' : ys = [] := all2_nil hys (passing_none _)
    subst hys'
    refine PyProof.Rows.List_ (args_nil (r_newlist I fun q2 s₆ hq2 I => ?_))
    refine r_ne_nil (by exact Mine.oV ‹_›) (I.at (i := 1) rfl) (I.at (i := 0) rfl) (wpAny_truthy_bool ?_)
    first | refine ifF Bool.false_ne_true ?_ | refine ifF (by decide) ?_ | refine wifF (by decide) ?_ | rw [if_neg (by decide)]
    replace I := I.sub (tr' := [(L + 4, oL), (L + 5, oR), (L + 6, oA)]) (by simp)
    replace I := I.monoS (S' := S) fun a o z => hS' _ _ (.inl z)
    refine wpAny_allTrue_Or_cons (wpAny_isTrue_Compare1 ?_)
    walk_at "q"
    obtain ⟨ts, hms⟩ := F.ms
    refine PyProof.Rows.Call_ (r_blt B I (g_len _) (v := .builtin "len") (by decide +kernel) (by decide) ?_) rfl
    refine callWith_builtin rfl (evalArgs_plain (args_cons (PyProof.Rows.Call_ (r_blt B I (g_set _) (v := .type "set") (by decide +kernel) (by decide) ?_) rfl)))
    refine PyProof.Rows.callWith_type1 (args_cons (r_cell (c215t L) (I.get hSt) hT (args_nil ?_)))
    walk_at "q"
    obtain ⟨e1, e2⟩ := nats_of (ps := M) (f := (·.2)) fun p hp => by
      obtain ⟨l, r, _, h2, e⟩ := F.ok.sm p (hin p hp)
      exact ⟨r, h2, by rw [e]⟩
    rw [e1] at htv
    have hnats := nats_of_ints htv
    refine r_set_list R.hh I hqt (lstO _ _) hnats e2 fun a s₇ o ha I hIS => ?_
    walk_at "q"
    obtain ⟨es', ep', rfl, hA'⟩ := hIS
    have hb := bits_lt _ 0 (by decide) e2
    have hlen : es'.size = M.length := by
      have h1 := hA'.length
      rw [Array.length_toList, bits_len e2 ?_, List.length_map] at h1
      · exact h1
      · have : (M.map (·.2)).Nodup := hnd
        rw [e1] at this
        exact List.Pairwise.of_map _ (fun a b hab e => hab (by rw [e])) this
    refine args_nil (call_len_set (I.at (i := 0) rfl) ⟨rfl, rfl, rfl⟩ rfl (iset_fits hb hA') (by with_reducible exact Mine.o63e ‹_› ‹_› (by with_unfolding_all exact rfl)) ?_)
    replace I := I.toks (s₇.toks + 1 + 1)
    rw [hlen]
    refine r_loc I hms (PyProof.Rows.ne_int (wpAny_truthy_bool ?_))
    first | refine ifF Bool.false_ne_true ?_ | refine ifF (by simp) ?_ | refine wifF (by simp) ?_ | rw [if_neg (by simp)]
    refine wpAny_allTrue_Or_nil ?_
    first | refine ifF Bool.false_ne_true ?_ | refine ifF (by decide) ?_ | refine wifF (by decide) ?_ | rw [if_neg (by decide)]
    refine wpAny_execs_nil ?_
    walk_at "q"
    exact h _ m S (fun _ _ q => q) (I.sub (by simp)) F
end
end Mine
end
section
open PySem PySem.W PySem.Calls PyProof.Rows
open Sem (wp)
namespace Mine

theorem lc_idx {α β : Type} {T : Value → β → Prop} {l : List α} {f : α → β} {ys : List Value} {is : List Nat} (h : All2 (fun y i => ∃ x, l[i]? = some x ∧ T y (f x)) ys is) : All2 T ys (is.filterMap fun i => l[i]?.map f) := by
  induction h with
  | nil => exact .nil
  | cons h1 _ ih =>
    obtain ⟨x, h1, h2⟩ := h1
    rw [List.filterMap_cons, h1]
    exact .cons h2 ih
theorem range_get {α : Type} (l : List α) : (List.range l.length).map (fun i => l[i]?) = l.map some := by
  refine List.ext_getElem (by simp) fun i q1 q2 => ?_
  simp only [List.length_map, List.length_range] at q1
  simp [q1]
theorem pass_map {α β : Type} (l : List α) (p : α → Bool) (f : α → β) : (passing (fun i => (l[i]?.map p).getD false) l.length 0).filterMap (fun i => l[i]?.map f) = (l.filter p).map f := by
  unfold passing
  rw [List.drop_zero, List.filterMap_filter]
  have h1 : (List.range l.length).filterMap (fun x => if (l[x]?.map p).getD false = true then l[x]?.map f else none) = ((List.range l.length).map (fun i => l[i]?)).filterMap (fun o => if (o.map p).getD false = true then o.map f else none) := by
    rw [List.filterMap_map]; rfl
  rw [h1, range_get, List.filterMap_map]
  induction l with
  | nil => rfl
  | cons x l ih =>
    have ih' := ih (by
      rw [List.filterMap_map]; rfl)
    rw [List.filterMap_cons, List.filter_cons]
    simp only [Function.comp_apply, Option.map_some, Option.getD_some]
    by_cases hx : p x = true
    · simp only [hx, if_true, List.map_cons, ih']
    · simp only [hx, if_false, ih']; rfl
theorem lc_out {α β : Type} {T : Value → β → Prop} {l : List α} {p : α → Bool} {f : α → β} {ys : List Value} {n : Nat} (hn : n = l.length) (h : All2 (fun y i => ∃ x, l[i]? = some x ∧ T y (f x)) ys (passing (fun i => (l[i]?.map p).getD false) n 0)) : All2 T ys ((l.filter p).map f) := by
  subst hn
  rw [← pass_map]; exact lc_idx h
noncomputable abbrev VI (v : Value) (n : Int) : Prop := ∃ t, v = .int n t
theorem ints_of2 {vs : List Value} {ns : List Int} (h : All2 VI vs ns) : IntsAre vs ns := by
  induction h with
  | nil => exact .nil
  | cons h1 _ ih => obtain ⟨t, rfl⟩ := h1; exact .cons _ t ih
theorem all2_of {vs : List Value} {ns : List Int} (h : IntsAre vs ns) : All2 VI vs ns := by
  induction h with
  | nil => exact .nil
  | cons n t _ ih => exact .cons ⟨t, rfl⟩ ih
theorem nats_ints {vs : List Value} {xs : List Nat} (h : Nats vs xs) : IntsAre vs (xs.map fun (n : Nat) => (n : Int)) := by
  induction h with
  | nil => exact .nil
  | cons h1 _ ih => obtain ⟨t, rfl⟩ := h1; exact .cons _ t ih

section
variable {prog : Program} {w : World} {gB : Heap} {mg mb : Str → Option Value}
variable {O : Og} {L : Addr} {m m' : Str → Option Value} {S S' : Addr → Obj → Prop} {tr cs : List (Addr × Obj)} {s s' : Shared} {A : Around} {E : Value → Shared → Prop} {env : Env}
variable {elt target iter : Expr} {ifs : List Expr} {scope : Scope} {cl : List (Str × Addr)} {pos : PySem.Pos}

theorem r_lcList {Q : Value → Shared → Prop} (hh : A.handled = none) (hclos : closureFor scope env = pure cl) (hcell : ∀ y ∈ scope.names, y.2 ≠ .cell) (hkind : scope.kind = .function)
    (hnames : ∀ y ∈ scope.names, y.2 = .local → scope.names.lookup y.1 = some .local)
    (h : wpAny (model prog w) A (eval iter env) (fun xv s₁ => ∃ (l : Addr) (items : List Value) (lo : Obj) (O : Og) (L : Addr) (m : Str → Option Value) (S : Addr → Obj → Prop) (tr : List (Addr × Obj)) (pz : Nat → Bool) (F : Nat → Value → (Addr → Obj → Prop) → Prop),
      xv = .ref l ∧ FIn gB O L m S tr s₁ ∧ S l lo ∧ LstO items lo ∧ items.length ≤ 1000 ∧ (∀ {i v} {S S' : Addr → Obj → Prop}, (∀ a o, S a o → S' a o) → F i v S → F i v S') ∧ (∀ p ∈ tr, NT p.2) ∧
      (∀ it, LcBody prog w gB A (fun a o => S a o ∨ (a, o) ∈ tr) it items.length (fun _ k v => v = items.getD k .none) (fun S => ∃ lo, S l lo ∧ LstO items lo) pz F target elt ifs (fun C => compEnvC scope cl C env)) ∧
      (∀ q ys c S' s', (∀ a o, S a o → S' a o) → FIn gB O L m S' ((q, lst ys c) :: tr) s' → All2 (fun y i => F i y S') ys (passing pz items.length 0) → Q (.ref q) s')) E s)
    (hs : ∀ x, foldedSetIterable iter env x = pure x := by intro _; rfl) :
    wpAny (model prog w) A (eval (.ListComp elt [⟨target, iter, ifs, 0⟩] scope pos) env) Q E s := by
  refine r_listcomp (gB := gB) hh hclos hcell hkind hnames (wpAny_mono h (fun xv s₁ h₁ => ?_) fun _ _ x => x) hs
  obtain ⟨l, items, lo, O, L, m, S, tr, pz, F, rfl, I, hl, hlo, hz, hF, hnt, body, hQ⟩ := h₁
  obtain ⟨h1, n, h2⟩ := id hlo
  refine wpAny_pyIter_list (items := items.toArray) ⟨lo, I.get hl, h1, n, h2⟩ ?_
  walk_at "q"
  exact ⟨_, _, _, _, _, _, _, _, _, _, _, pz, F, rfl, I.push _ s₁.toks, listItr (prog := prog) (w := w), ⟨rfl, rfl⟩, ⟨lo, hl, hlo⟩, hz, hF, hnt, body _, fun q ys c S' s' a b e _ => hQ q ys c S' s' a b e⟩
end
end Mine
end
section
namespace Mine
noncomputable def arrowsOf (Ed M : List (Int × Int)) : List (Int × Int) := Ed.map fun e => if get M e.1 = some e.2 then (10 + e.2, e.1) else (e.1, 10 + e.2)
end Mine
end
section
open PySem PySem.W PySem.Calls PyProof.Rows
open Sem (wp)
namespace Mine
set_option linter.unusedSectionVars false
noncomputable def leftsN (Ed : List (Int × Int)) : List Nat := stI (bits (Ed.map fun p => p.1.toNat))
noncomputable def rightsN (Ed : List (Int × Int)) : List Nat := stI (bits (Ed.map fun p => p.2.toNat))

structure LawT (prog : Program) (w : World) (S : Addr → Obj → Prop) (m : Str → Option Value) (Ed M : List (Int × Int)) : Prop where
  lf : ∃ q vs c, m "lefts" = some (.ref q) ∧ S q (lst vs c) ∧ Nats vs (leftsN Ed)
  rt : ∃ q vs c, m "rights" = some (.ref q) ∧ S q (lst vs c) ∧ Nats vs (rightsN Ed)
  ar : ∃ q vs c, m "arrows" = some (.ref q) ∧ S q (lst vs c) ∧ Prs prog w S vs (arrowsOf Ed M)
section
variable {prog : Program} {w : World} {gB : Heap} {mg mb : Str → Option Value}
variable {O : Og} {L : Addr} {m m' : Str → Option Value} {S S' : Addr → Obj → Prop} {tr cs : List (Addr × Obj)} {s s' : Shared} {A : Around} {E : Value → Shared → Prop}
theorem LawT.mono {Ed M : List (Int × Int)} (h : LawT prog w S m Ed M) (hs : ∀ a o, S a o → S' a o) (h1 : m' "lefts" = m "lefts") (h2 : m' "rights" = m "rights") (h3 : m' "arrows" = m "arrows") : LawT prog w S' m' Ed M where
  lf := let ⟨q, vs, c, a1, a2, a3⟩ := h.lf; ⟨q, vs, c, h1.trans a1, hs _ _ a2, a3⟩
  rt := let ⟨q, vs, c, a1, a2, a3⟩ := h.rt; ⟨q, vs, c, h2.trans a1, hs _ _ a2, a3⟩
  ar := let ⟨q, vs, c, a1, a2, a3⟩ := h.ar; ⟨q, vs, c, h3.trans a1, hs _ _ a2, a3.mono fun _ _ z => z.mono hs⟩

theorem lawE1 (B : Base w.params mg mb gB) {oL oR oA : Obj} {Ed M : List (Int × Int)} {H : GA} (R : Room A 41 203)
    (I : FIn gB O L m S [(L + 4, oL), (L + 5, oR), (L + 6, oA)] s) (hcls : ∀ p ∈ [(L + 4, oL), (L + 5, oR), (L + 6, oA)], NT p.2) (F : LawS prog w gB L S m Ed M H)
    {Q : Flow → Shared → Prop} {E : Value → Shared → Prop}
    (h : ∀ s' m' S' q vs c, (∀ a o, S a o → S' a o) → FIn gB O L m' S' [(L + 4, oL), (L + 5, oR), (L + 6, oA)] s' → LawS prog w gB L S' m' Ed M H → m' "lefts" = some (.ref q) → S' q (lst vs c) → Nats vs (leftsN Ed) →
      wpAny (model prog w) A (execs ((bodyAt 215).drop 9) (envC 215 L)) Q E s') :
    wpAny (model prog w) A (execs ((bodyAt 215).drop 8) (envC 215 L)) Q E s := by
  have U := R.un
  refine xa4_4 (F.cE) fun oE q items c hSe hE hq hP => ?_
  have hlen := hP.length
  have z7 := F.ok.len
  refine wpAny_execs_cons (wpAny_Assign_Name (PyProof.Rows.Call_ (r_blt B I (g_sorted _) (v := .builtin "sorted") (by decide +kernel) (by decide) ?_) rfl))
  refine callWith_builtin rfl (evalArgs_plain (args_cons (PyProof.Rows.Call_ (r_blt B I (g_set _) (v := .type "set") (by decide +kernel) (by decide) ?_) rfl)))
  refine PyProof.Rows.callWith_type1 (args_cons (r_lcList (gB := gB) (cl := []) R.hh (by kernel_rfl) (by decide) rfl (by decide) (r_cell (c215e L) (I.get hSe) hE ?_)))
  walk_at "q"
  refine ⟨q, items, _, O, L, m, S, _, fun i => (Ed[i]?.map fun _ => true).getD false, fun i v _ => ∃ p, Ed[i]? = some p ∧ ∃ t, v = .int ((p.1.toNat : Nat) : Int) t, rfl, I, hq, lstO _ _, by exact Mine.oE ‹_› ‹_› (by exact rfl), fun _ x => x, hcls, ?_, ?_⟩
  · rintro it C O' m' S' s' E' io acc ys c' i v hi J hS1 hsrc rfl
    obtain ⟨p, hp, te, hte, tte⟩ := hP.getD hi .none
    refine xa2_3 (F.ok.sm p (List.mem_of_getElem? hp)) fun l r hl hr he1 => ?_
    obtain rfl := he1
    rw [hte]
    refine xa1_2 (tte) fun ot hot tot => ?_
    refine xa3_2 (tot.pair) fun ta tb nt hotc hotd => ?_
    refine wpAny_assign_Name (r_st J fun s₂ J => tests0 ⟨by show true = ((Ed[i]?.map fun _ => true).getD false); rw [hp]; rfl, fun e => (nomatch e), fun _ => PyProof.Rows.Subscript_ (r_loc J rfl (wpAny_Constant_int ?_))⟩)
    replace J := J.toks (s₂.toks + 1)
    refine r_pair0 (J.get (hS1 _ _ (.inl hot))) hotc hotd ⟨_, _, J, fun _ _ q => q, _, hp, ta, ?_⟩
    simp
  · intro ql ys c' S' s₅ hS' I hys
    have hnat : Nats ys (Ed.map fun p => p.1.toNat) := by
      have := lc_out (T := fun v (x : Nat) => ∃ t, v = .int (x : Int) t) (l := Ed) (p := fun _ => true) (f := fun p => p.1.toNat) hlen hys
      rwa [List.filter_eq_self.mpr (fun _ _ => rfl)] at this
    refine xa1_3 (I.settleAt (i := 0) rfl) fun S₂ hS₂ hSl I => ?_
    have e2 : ∀ x ∈ Ed.map (fun p => p.1.toNat), x < 4 := (nats_of (ps := Ed) (f := (·.1)) fun p hp => by
      refine xa2_3 (F.ok.sm p hp) fun l r h1 _ e => ?_
      exact ⟨l, h1, by rw [e]⟩).2
    refine args_nil (r_set_list R.hh I hSl (lstO _ _) hnat e2 fun a s₇ o ha I hIS => ?_)
    walk_at "q"
    refine xa2_2 (hIS) fun es' ep' he2 hA' => ?_
    obtain rfl := he2
    have hb := bits_lt _ 0 (by decide) e2
    refine xa1_3 (I.settleAt (i := 0) rfl) fun S₃ hS₃ hSa I => ?_
    refine args_nil (r_sorted_iset R.hh hb hA' I hSa fun q' s₈ vs c'' I hvs => r_st I fun s₉ I => ?_)
    walk_at "q"
    refine xa1_3 (I.settleAt (i := 0) rfl) fun S₄ hS₄ hSq I => ?_
    have hSS : ∀ a o, S a o → S₄ a o := fun a o z => hS₄ _ _ (hS₃ _ _ (hS₂ _ _ (hS' _ _ z)))
    exact h s₉ _ S₄ q' vs c'' hSS I (F.mono hSS rfl rfl) rfl hSq hvs

theorem lawE2 (B : Base w.params mg mb gB) {oL oR oA : Obj} {Ed M : List (Int × Int)} {H : GA} (R : Room A 41 203)
    (I : FIn gB O L m S [(L + 4, oL), (L + 5, oR), (L + 6, oA)] s) (hcls : ∀ p ∈ [(L + 4, oL), (L + 5, oR), (L + 6, oA)], NT p.2) (F : LawS prog w gB L S m Ed M H)
    {Q : Flow → Shared → Prop} {E : Value → Shared → Prop} {lq : Value} (hlq : m "lefts" = some lq)
    (h : ∀ s' m' S' q vs c, (∀ a o, S a o → S' a o) → FIn gB O L m' S' [(L + 4, oL), (L + 5, oR), (L + 6, oA)] s' → LawS prog w gB L S' m' Ed M H → m' "lefts" = some lq → m' "rights" = some (.ref q) → S' q (lst vs c) → Nats vs (rightsN Ed) →
      wpAny (model prog w) A (execs ((bodyAt 215).drop 10) (envC 215 L)) Q E s') :
    wpAny (model prog w) A (execs ((bodyAt 215).drop 9) (envC 215 L)) Q E s := by
  have U := R.un
  refine xa4_4 (F.cE) fun oE q items c hSe hE hq hP => ?_
  have hlen := hP.length
  have z7 := F.ok.len
  refine wpAny_execs_cons (wpAny_Assign_Name (PyProof.Rows.Call_ (r_blt B I (g_sorted _) (v := .builtin "sorted") (by decide +kernel) (by decide) ?_) rfl))
  refine callWith_builtin rfl (evalArgs_plain (args_cons (PyProof.Rows.Call_ (r_blt B I (g_set _) (v := .type "set") (by decide +kernel) (by decide) ?_) rfl)))
  refine PyProof.Rows.callWith_type1 (args_cons (r_lcList (gB := gB) (cl := []) R.hh (by kernel_rfl) (by decide) rfl (by decide) (r_cell (c215e L) (I.get hSe) hE ?_)))
  walk_at "q"
  refine ⟨q, items, _, O, L, m, S, _, fun i => (Ed[i]?.map fun _ => true).getD false, fun i v _ => ∃ p, Ed[i]? = some p ∧ ∃ t, v = .int ((p.2.toNat : Nat) : Int) t, rfl, I, hq, lstO _ _, by exact Mine.oE ‹_› ‹_› (by exact rfl), fun _ x => x, hcls, ?_, ?_⟩
  · rintro it C O' m' S' s' E' io acc ys c' i v hi J hS1 hsrc rfl
    obtain ⟨p, hp, te, hte, tte⟩ := hP.getD hi .none
    refine xa2_3 (F.ok.sm p (List.mem_of_getElem? hp)) fun l r hl hr he3 => ?_
    obtain rfl := he3
    rw [hte]
    refine xa1_2 (tte) fun ot hot tot => ?_
    refine xa3_2 (tot.pair) fun ta tb nt hotc hotd => ?_
    refine wpAny_assign_Name (r_st J fun s₂ J => tests0 ⟨by show true = ((Ed[i]?.map fun _ => true).getD false); rw [hp]; rfl, fun e => (nomatch e), fun _ => PyProof.Rows.Subscript_ (r_loc J rfl (wpAny_Constant_int ?_))⟩)
    replace J := J.toks (s₂.toks + 1)
    refine r_pair1 (J.get (hS1 _ _ (.inl hot))) hotc hotd ⟨_, _, J, fun _ _ q => q, _, hp, tb, ?_⟩
    simp
  · intro ql ys c' S' s₅ hS' I hys
    have hnat : Nats ys (Ed.map fun p => p.2.toNat) := by
      have := lc_out (T := fun v (x : Nat) => ∃ t, v = .int (x : Int) t) (l := Ed) (p := fun _ => true) (f := fun p => p.2.toNat) hlen hys
      rwa [List.filter_eq_self.mpr (fun _ _ => rfl)] at this
    refine xa1_3 (I.settleAt (i := 0) rfl) fun S₂ hS₂ hSl I => ?_
    have e2 : ∀ x ∈ Ed.map (fun p => p.2.toNat), x < 4 := (nats_of (ps := Ed) (f := (·.2)) fun p hp => by
      refine xa2_3 (F.ok.sm p hp) fun l r _ h1 e => ?_
      exact ⟨r, h1, by rw [e]⟩).2
    refine args_nil (r_set_list R.hh I hSl (lstO _ _) hnat e2 fun a s₇ o ha I hIS => ?_)
    walk_at "q"
    refine xa2_2 (hIS) fun es' ep' he4 hA' => ?_
    obtain rfl := he4
    have hb := bits_lt _ 0 (by decide) e2
    refine xa1_3 (I.settleAt (i := 0) rfl) fun S₃ hS₃ hSa I => ?_
    refine args_nil (r_sorted_iset R.hh hb hA' I hSa fun q' s₈ vs c'' I hvs => r_st I fun s₉ I => ?_)
    walk_at "q"
    refine xa1_3 (I.settleAt (i := 0) rfl) fun S₄ hS₄ hSq I => ?_
    have hSS : ∀ a o, S a o → S₄ a o := fun a o z => hS₄ _ _ (hS₃ _ _ (hS₂ _ _ (hS' _ _ z)))
    exact h s₉ _ S₄ q' vs c'' hSS I (F.mono hSS rfl rfl) hlq rfl hSq hvs
end
end Mine
end
section
open PySem PySem.W PySem.Calls PyProof.Rows
open Sem (wp)
namespace Mine
section
variable {prog : Program} {w : World} {gB : Heap} {mg mb : Str → Option Value}
variable {O : Og} {L : Addr} {m m' : Str → Option Value} {S S' : Addr → Obj → Prop} {tr cs : List (Addr × Obj)} {s s' : Shared} {A : Around} {E : Value → Shared → Prop}

theorem nt3 {oL oR oA : Obj} {vL vR vA : Option Value} (dL : oL.data = .cell vL) (dR : oR.data = .cell vR) (dA : oA.data = .cell vA) : ∀ p ∈ [(L + 4, oL), (L + 5, oR), (L + 6, oA)], NT p.2 := by
  refine al3 ?_ ?_ ?_
  · exact NT.cell dL
  · exact NT.cell dR
  · exact NT.cell dA

inductive LrI (prog : Program) (w : World) (S : Addr → Obj → Prop) (m : Str → Option Value) (L : Addr) (oA : Obj) (lq rq : Value) (qa : Addr) (Ed M : List (Int × Int)) (k : Nat) (m' : Str → Option Value) (S' : Addr → Obj → Prop) (tr : List (Addr × Obj)) : Prop
  | mk (h1 : (∀ a o, S a o → S' a o))
    (h2 : m' "graph" = m "graph")
    (h3 : m' "size" = m "size")
    (h4 : m' "lefts" = some lq)
    (h5 : m' "rights" = some rq)
    (h6 : m' "arrows" = some (.ref qa))
    (vs c oL' oR' vL' vR')
    (h7 : tr = [(qa, lst vs c), (L + 4, oL'), (L + 5, oR'), (L + 6, oA)])
    (h8 : oL'.data = .cell vL')
    (h9 : oR'.data = .cell vR')
    (h10 : Prs prog w S' vs (arrowsOf (Ed.take k) M)) : LrI prog w S m L oA lq rq qa Ed M k m' S' tr

theorem lawE3 (B : Base w.params mg mb gB) {oL oR oA : Obj} {vL vR vA : Option Value} {Ed M : List (Int × Int)} {H : GA} (R : Room A 41 203)
    (I : FIn gB O L m S [(L + 4, oL), (L + 5, oR), (L + 6, oA)] s) (dL : oL.data = .cell vL) (dR : oR.data = .cell vR) (F : LawS prog w gB L S m Ed M H)
    {Q : Flow → Shared → Prop} {E : Value → Shared → Prop} {lq rq : Value} (hlq : m "lefts" = some lq) (hrq : m "rights" = some rq)
    (h : ∀ s' m' S' q vs c oL' oR' vL' vR', (∀ a o, S a o → S' a o) → FIn gB O L m' S' [(L + 4, oL'), (L + 5, oR'), (L + 6, oA)] s' → oL'.data = .cell vL' → oR'.data = .cell vR' → LawS prog w gB L S' m' Ed M H → m' "lefts" = some lq → m' "rights" = some rq → m' "arrows" = some (.ref q) → S' q (lst vs c) → Prs prog w S' vs (arrowsOf Ed M) →
      wpAny (model prog w) A (execs ((bodyAt 215).drop 12) (envC 215 L)) Q E s') :
    wpAny (model prog w) A (execs ((bodyAt 215).drop 10) (envC 215 L)) Q E s := by
  have U := R.un
  refine xa4_4 (F.cE) fun oE q items c hSe hE hq hP => ?_
  refine xa3_5 (F.cM) fun oM d od hSm hM hSd hD hdn => ?_
  have hlen := hP.length
  have z7 := F.ok.len
  refine wpAny_execs_cons (wpAny_Assign_Name (PyProof.Rows.List_ (args_nil (r_newlist I fun qa s₂ hqa I => r_st I fun s₃ I => ?_))))
  walk_at "q"
  refine wpAny_execs_cons (r_for_list (gB := gB) (O := O) (L := L) R.hh (r_cell (c215e L) (I.get hSe) hE ?_))
  walk_at "q"
  refine ⟨q, items, _, _, _, LrI prog w S m L oA lq rq qa Ed M,
    rfl, I, ?_, ⟨fun _ _ q => q, rfl, rfl, hlq, hrq, rfl, [], 0, oL, oR, vL, vR, rfl, dL, dR, .nil⟩, ?_, ?_⟩
  · rintro k m S' tr ⟨hS', _⟩
    refine xi1_2 _ (hS' _ _ hq) (lstO _ _)
  · rintro it k m' S' tr s₄ io hk ⟨hS', hm1, hm2, hm3, hm4, hm5, vs, c, oL, oR, vL, vR, rfl, dL, dR, hA⟩ I
    obtain ⟨p, hp, te, hte, ot, hot, tot⟩ := hP.getD hk .none
    rw [hte]
    refine xa3_2 (tot.pair) fun ta tb nt hotc hotd => ?_
    have hlA := hA.length
    have hlA' : vs.length ≤ 7 := by
      rw [hlA]; unfold arrowsOf; rw [List.length_map, List.length_take]; omega
    refine r_unpack2 R.hh I (I.get (hS' _ _ hot)) hotc hotd fun s₅ I => ?_
    walk_at "q"
    refine wpAny_assign_Name (r_cellSt I (c215l L) (i := 2) rfl dL fun s₆ oL' dL' I => ?_)
    walk_at "q"
    refine wpAny_assign_Name (r_cellSt I (c215r L) (i := 3) rfl dR fun s₇ oR' dR' I => ?_)
    walk_at "q"
    have htk : arrowsOf (Ed.take (k + 1)) M = arrowsOf (Ed.take k) M ++ [if get M p.1 = some p.2 then (10 + p.2, p.1) else (p.1, 10 + p.2)] := by
      unfold arrowsOf
      rw [List.take_add_one, hp, List.map_append]; rfl
    refine wpAny_execs_cons (wpAny_If (wpAny_isTrue_BoolOp (wpAny_allTrue_And_cons (wpAny_isTrue_Compare1 (r_cell (c215l L) (I.at (i := 2) rfl) dL' (r_cell (c215m L) (I.get (hS' _ _ hSm)) hM (r_inD I (I.get (hS' _ _ hSd)) hD hdn fun s₈ I _ => wpAny_truthy_bool ?_)))))))
    walk_at "q"
    cases hg : get M p.1 with
    | none =>
      rw [hg, if_neg (by simp)] at htk
      first | refine ifF Bool.false_ne_true ?_ | refine ifF (by simp) ?_ | refine wifF (by simp) ?_ | rw [if_neg (by simp)]
      first | refine ifF Bool.false_ne_true ?_ | refine ifF (by simp) ?_ | refine wifF (by simp) ?_ | rw [if_neg (by simp)]
      refine wpAny_execs_cons (wpAny_Expr (r_append I hm5 (I.at (i := 1) rfl) rfl rfl (Tuple_ (args_cons (r_cell (c215l L) (I.at (i := 2) rfl) dL' (args_cons (wpAny_BinOp (wpAny_Constant_int (r_cell (c215r L) (I.at (i := 3) rfl) dR' (PyProof.Rows.add_int (args_nil ?_)))))))))))
      walk_at "q"
      refine r_newtup (I.toks _) fun ta' s₉ hta I => ?_
      walk_at "q"
      generalize hS1 : And1 S' ta' _ = S₁ at I
      have hSS : ∀ a o, S' a o → S₁ a o := fun a o z => by rw [← hS1]; exact .inl z
      have hT : TupS prog w S₁ ta' [p.1, 10 + p.2] := ⟨_, by rw [← hS1]; exact .inr ⟨rfl, rfl⟩, TupO.of⟩
      refine xi6_4 _ _ _ 1 vs c I rfl (by exact Mine.oL ‹_› (by exact rfl)) (fun s₁₀ I => wpAny_execs_nil (wpAny_execs_nil ⟨_, _, _, I, fun a o z => hSS _ _ (hS' _ _ z), hm1, hm2, hm3, hm4, hm5, _, _, oL', oR', _, _, rfl, dL', dR', ?_⟩))
      rw [htk]
      exact (hA.mono fun _ _ z => z.mono hSS).snoc ⟨ta', rfl, hT⟩
    | some r =>
      rw [hg] at htk
      first | refine ifT rfl ?_ | refine ifT (by simp) ?_ | refine wifT (by simp) ?_ | rw [if_pos (by simp)]
      refine wpAny_allTrue_And_cons (wpAny_isTrue_Compare1 (PyProof.Rows.Subscript_ (r_cell (c215m L) (I.get (hS' _ _ hSm)) hM (r_cell (c215l L) (I.at (i := 2) rfl) dL' (r_getD I (I.get (hS' _ _ hSd)) hD hg fun s₉ t₉ I _ => r_cell (c215r L) (I.at (i := 3) rfl) dR' (PyProof.Rows.eq_int (wpAny_truthy_bool ?_)))))))
      walk_at "q"
      by_cases hr : r = p.2
      · first | refine ifT (decide_eq_true hr) ?_ | refine ifT (beq_iff_eq.mpr hr) ?_ | refine ifT (by simpa using hr) ?_ | refine wifT (by simpa using hr) ?_ | rw [if_pos (by simpa using hr)]
        rw [if_pos (by rw [hr])] at htk
        refine wpAny_allTrue_And_nil ?_
        first | refine ifT rfl ?_ | refine wifT rfl ?_ | rw [if_pos rfl]
        refine wpAny_execs_cons (wpAny_Expr (r_append I hm5 (I.at (i := 1) rfl) rfl rfl (Tuple_ (args_cons (wpAny_BinOp (wpAny_Constant_int (r_cell (c215r L) (I.at (i := 3) rfl) dR' (PyProof.Rows.add_int (args_cons (r_cell (c215l L) (I.at (i := 2) rfl) dL' (args_nil ?_)))))))))))
        walk_at "q"
        refine r_newtup (I.toks _) fun ta' s₉ hta I => ?_
        walk_at "q"
        generalize hS1 : And1 S' ta' _ = S₁ at I
        have hSS : ∀ a o, S' a o → S₁ a o := fun a o z => by rw [← hS1]; exact .inl z
        have hT : TupS prog w S₁ ta' [10 + p.2, p.1] := ⟨_, by rw [← hS1]; exact .inr ⟨rfl, rfl⟩, TupO.of⟩
        refine xi6_4 _ _ _ 1 vs c I rfl (by exact Mine.oL ‹_› (by exact rfl)) (fun s₁₀ I => wpAny_execs_nil (wpAny_execs_nil ⟨_, _, _, I, fun a o z => hSS _ _ (hS' _ _ z), hm1, hm2, hm3, hm4, hm5, _, _, oL', oR', _, _, rfl, dL', dR', ?_⟩))
        rw [htk]
        exact (hA.mono fun _ _ z => z.mono hSS).snoc ⟨ta', rfl, hT⟩
      · first | refine ifF (ne_true_of_eq_false (decide_eq_false hr)) ?_ | refine ifF (ne_true_of_eq_false (beq_eq_false_iff_ne.mpr hr)) ?_ | refine ifF (by simpa using hr) ?_ | refine wifF (by simpa using hr) ?_ | rw [if_neg (by simpa using hr)]
        rw [if_neg (by simpa using hr)] at htk
        first | refine ifF Bool.false_ne_true ?_ | refine ifF (by simp) ?_ | refine wifF (by simp) ?_ | rw [if_neg (by simp)]
        refine wpAny_execs_cons (wpAny_Expr (r_append I hm5 (I.at (i := 1) rfl) rfl rfl (Tuple_ (args_cons (r_cell (c215l L) (I.at (i := 2) rfl) dL' (args_cons (wpAny_BinOp (wpAny_Constant_int (r_cell (c215r L) (I.at (i := 3) rfl) dR' (PyProof.Rows.add_int (args_nil ?_)))))))))))
        walk_at "q"
        refine r_newtup (I.toks _) fun ta' s₉ hta I => ?_
        walk_at "q"
        generalize hS1 : And1 S' ta' _ = S₁ at I
        have hSS : ∀ a o, S' a o → S₁ a o := fun a o z => by rw [← hS1]; exact .inl z
        have hT : TupS prog w S₁ ta' [p.1, 10 + p.2] := ⟨_, by rw [← hS1]; exact .inr ⟨rfl, rfl⟩, TupO.of⟩
        refine xi6_4 _ _ _ 1 vs c I rfl (by exact Mine.oL ‹_› (by exact rfl)) (fun s₁₀ I => wpAny_execs_nil (wpAny_execs_nil ⟨_, _, _, I, fun a o z => hSS _ _ (hS' _ _ z), hm1, hm2, hm3, hm4, hm5, _, _, oL', oR', _, _, rfl, dL', dR', ?_⟩))
        rw [htk]
        exact (hA.mono fun _ _ z => z.mono hSS).snoc ⟨ta', rfl, hT⟩
  · rintro m' S' tr s₄ ⟨hS', hm1, hm2, hm3, hm4, hm5, vs, c, oL, oR, vL, vR, rfl, dL, dR, hA⟩ I
    rw [List.take_of_length_le (by omega)] at hA
    refine xa1_3 (I.settleAt (i := 0) rfl) fun S₂ hS₂ hSa I => ?_
    have hSS : ∀ a o, S a o → S₂ a o := fun a o z => hS₂ _ _ (hS' _ _ z)
    exact h s₄ m' S₂ qa vs c oL oR vL vR hSS I dL dR (F.mono hSS hm1 hm2) hm3 hm4 hm5 hSa (hA.mono fun _ _ z => z.mono hS₂)
end
end Mine
end
section
open PySem PySem.W PySem.Calls PyProof.Rows
open Sem (wp)
namespace Mine
set_option linter.unusedSectionVars false
theorem gReach (P : Params) : nsIn (KH P) mainGlobals "_law_reach" = some (some (.ref 210)) := by kernel_rfl
theorem kReach (P : Params) : keepIn (KH P) (.ref 210) = true := by kernel_rfl
noncomputable def freeL (Ed M : List (Int × Int)) : List Int := ((leftsN Ed).filter fun (x : Nat) => !(get M (x : Int)).isSome).map fun (x : Nat) => (x : Int)
noncomputable def freeR (Ed M : List (Int × Int)) : List Int := ((rightsN Ed).filter fun (x : Nat) => !((M.map (·.2)).any (fun y => y == (x : Int)))).map fun (x : Nat) => 10 + (x : Int)
noncomputable def turnA (ar : List (Int × Int)) : List (Int × Int) := ar.map fun a => (a.2, a.1)
theorem leftsN_len (Ed : List (Int × Int)) : (leftsN Ed).length ≤ 4 := stI_len _
theorem rightsN_len (Ed : List (Int × Int)) : (rightsN Ed).length ≤ 4 := stI_len _
section
variable {prog : Program} {w : World} {gB : Heap} {mg mb : Str → Option Value}
variable {O : Og} {L : Addr} {m m' : Str → Option Value} {S S' : Addr → Obj → Prop} {tr cs : List (Addr × Obj)} {s s' : Shared} {A : Around} {E : Value → Shared → Prop}

theorem FIn.addNew' (I : FIn gB O L m S tr s) (P : Post gB [] s s') {d : Addr} {od : Obj} (hd : s'.heap.get? d = some od) (hg : gB.objs.size ≤ d) (hfr : s.heap.get? d = none) : ∃ S', (∀ a o, S a o → S' a o) ∧ S' d od ∧ FIn gB O L m S' tr s' := by
  have I' := I.keepP P
  refine xa3_2 (id I.ns) fun oL _ _ hoL _ => ?_
  have I₂ := I'.track hd (fun e => by rw [e, hoL] at hfr; cases hfr) hg (fun x hx => by
    have := I.get hx
    rw [hfr] at this; cases this) (fun e => by
    refine xa1_2 (List.mem_map.mp e) fun p hp e => ?_
    have := (I.tk p hp).1
    rw [e, hfr] at this; cases this)
  exact ⟨_, fun _ _ h => .inl h, .inr ⟨rfl, rfl⟩, I₂.settle⟩

theorem lawF1 (B : Base w.params mg mb gB) {oL oR oA : Obj} {vL vR vA : Option Value} {Ed M : List (Int × Int)} {H : GA} {bh : List Int} (R : Room A 41 203)
    (I : FIn gB O L m S [(L + 4, oL), (L + 5, oR), (L + 6, oA)] s) (dL : oL.data = .cell vL) (dR : oR.data = .cell vR) (dA : oA.data = .cell vA) (F : LawS prog w gB L S m Ed M H) (G : LawT prog w S m Ed M)
    (hbh : loopR (arrowsOf Ed M) 20 0 (freeL Ed M) = some bh) {Q : Flow → Shared → Prop} {E : Value → Shared → Prop}
    (h : ∀ s' m' S' q vs c, (∀ a o, S a o → S' a o) → FIn gB O L m' S' [(L + 4, oL), (L + 5, oR), (L + 6, oA)] s' → LawS prog w gB L S' m' Ed M H → LawT prog w S' m' Ed M → m' "behind" = some (.ref q) → S' q (lst vs c) → IntsAre vs bh →
      wpAny (model prog w) A (execs ((bodyAt 215).drop 13) (envC 215 L)) Q E s') :
    wpAny (model prog w) A (execs ((bodyAt 215).drop 12) (envC 215 L)) Q E s := by
  have U := R.un
  refine xa3_5 (F.cM) fun oM d od hSm hM hSd hD hdn => ?_
  refine xa3_3 (G.lf) fun ql lv lc hml hSl hlv => ?_
  refine xa3_3 (G.ar) fun qa av ac hma hSa hav => ?_
  have hll := hlv.length
  have z4 := leftsN_len Ed
  have z7 := F.ok.len
  refine wpAny_execs_cons (wpAny_Assign_Name (PyProof.Rows.Call_ (r_glob B I (gReach _) ?_) rfl))
  refine callWith_K B.X (kReach _) (args_cons (r_lcList (gB := gB) (cl := [("matching", L + 2)]) R.hh (by kernel_rfl) (by decide) rfl (by decide) (r_loc I hml ?_)))
  walk_at "q"
  refine ⟨ql, lv, _, O, L, m, S, _, fun i => ((leftsN Ed)[i]?.map fun (x : Nat) => !(get M (x : Int)).isSome).getD false, fun i v _ => ∃ x, (leftsN Ed)[i]? = some x ∧ VI v ((x : Nat) : Int), rfl, I, hSl, lstO _ _, by exact Mine.oE ‹_› ‹_› (by exact rfl), fun _ x => x, nt3 dL dR dA, ?_, ?_⟩
  · rintro it C O' m' S' s' E' io acc ys c' i v hi J hS1 hsrc rfl
    obtain ⟨x, hx, t, ht⟩ := hlv.getD hi .none
    rw [ht]
    refine wpAny_assign_Name (r_st J fun s₂ J => tests1 (wpAny_isTrue_Compare1 (r_loc J rfl (r_cell rfl (J.get (hS1 _ _ (.inl hSm))) hM ?_))))
    walk_at "q"
    refine r_notinD J (J.get (hS1 _ _ (.inl hSd))) hD hdn fun s₃ J _ => wpAny_truthy_bool ⟨?_, fun _ => ⟨_, _, J, fun _ _ q => q⟩, fun _ => r_loc J rfl ⟨_, _, J, fun _ _ q => q, x, hx, t, rfl⟩⟩
    show _ = (((leftsN Ed)[i]?.map fun (x : Nat) => !(get M (x : Int)).isSome).getD false)
    rw [hx]; rfl
  · intro qs ys c' S' s₅ hS' I hys
    have hys' : IntsAre ys (freeL Ed M) := ints_of2 (lc_out (T := VI) (l := leftsN Ed) (p := fun x => !(get M (x : Int)).isSome) (f := fun (x : Nat) => (x : Int)) hll hys)
    refine xa1_3 (I.settleAt (i := 0) rfl) fun S₂ hS₂ hSq I => ?_
    have h02 : ∀ a o, S a o → S₂ a o := fun a o z => hS₂ _ _ (hS' _ _ z)
    refine args_cons (r_loc I hma (args_nil ⟨B.K I.wd, ?_⟩))
    refine reach_spec B hSq (lstO _ _) hys' (h02 _ _ hSa) (lstO _ _) (hav.mono fun _ _ z => z.mono h02) hbh (by omega) (by unfold arrowsOf; rw [List.length_map]; exact Mine.oL ‹_› (by exact rfl)) (by
      unfold freeL
      rw [List.length_map]
      have := List.length_filter_le (fun x : Nat => !(get M (x : Int)).isSome) (leftsN Ed)
      omega) R.mono I.pre (fun a o z => ⟨(I.st a o z).1, (I.st a o z).2.2.1⟩) fun s₆ l vs c P hl hvs hln hlf => ?_
    walk_at "q"
    refine xa1_3 (I.addNew' P hl hln hlf) fun S₃ hS₃ hSr I => ?_
    refine r_st I fun s₇ I => ?_
    walk_at "q"
    have h03 : ∀ a o, S a o → S₃ a o := fun a o z => hS₃ _ _ (h02 _ _ z)
    exact h s₇ _ S₃ l vs c h03 I (F.mono h03 rfl rfl) (G.mono h03 rfl rfl rfl) rfl hSr hvs

theorem lawF2 (B : Base w.params mg mb gB) {oL oR oA : Obj} {vL vR vA : Option Value} {Ed M : List (Int × Int)} {H : GA} {ah : List Int} (R : Room A 41 203)
    (I : FIn gB O L m S [(L + 4, oL), (L + 5, oR), (L + 6, oA)] s) (dL : oL.data = .cell vL) (dR : oR.data = .cell vR) (dA : oA.data = .cell vA) (F : LawS prog w gB L S m Ed M H) (G : LawT prog w S m Ed M)
    (hah : loopR (turnA (arrowsOf Ed M)) 20 0 (freeR Ed M) = some ah) {Q : Flow → Shared → Prop} {E : Value → Shared → Prop} {bq : Value} (hmb : m "behind" = some bq)
    (h : ∀ s' m' S' q vs c oA', (∀ a o, S a o → S' a o) → FIn gB O L m' S' [(L + 4, oL), (L + 5, oR)] s' → LawS prog w gB L S' m' Ed M H → LawT prog w S' m' Ed M → m' "behind" = some bq → S' (L + 6) oA' → oA'.data = .cell (some (.ref q)) → S' q (lst vs c) → IntsAre vs ah →
      wpAny (model prog w) A (execs ((bodyAt 215).drop 14) (envC 215 L)) Q E s') :
    wpAny (model prog w) A (execs ((bodyAt 215).drop 13) (envC 215 L)) Q E s := by
  have U := R.un
  refine xa4_4 (F.cT) fun oT qt tv ct hSt hT hqt htv => ?_
  refine xa3_3 (G.rt) fun ql lv lc hml hSl hlv => ?_
  refine xa3_3 (G.ar) fun qa av ac hma hSa hav => ?_
  have hll := hlv.length
  have z4 := rightsN_len Ed
  have z7 := F.ok.len
  have hla := hav.length
  have hla7 : (arrowsOf Ed M).length ≤ 7 := by unfold arrowsOf; rw [List.length_map]; assumption
  refine wpAny_execs_cons (wpAny_Assign_Name (PyProof.Rows.Call_ (r_glob B I (gReach _) ?_) rfl))
  refine callWith_K B.X (kReach _) (args_cons (r_lcList (gB := gB) (cl := [("taken", L + 3)]) R.hh (by kernel_rfl) (by decide) rfl (by decide) (r_loc I hml ?_)))
  walk_at "q"
  refine ⟨ql, lv, _, O, L, m, S, _, fun i => ((rightsN Ed)[i]?.map fun (x : Nat) => !((M.map (·.2)).any (fun y => y == (x : Int)))).getD false, fun i v _ => ∃ x, (rightsN Ed)[i]? = some x ∧ VI v (10 + ((x : Nat) : Int)), rfl, I, hSl, lstO _ _, by exact Mine.oE ‹_› ‹_› (by exact rfl), fun _ x => x, nt3 dL dR dA, ?_, ?_⟩
  · rintro it C O' m' S' s' E' io acc ys c' i v hi J hS1 hsrc rfl
    obtain ⟨x, hx, t, ht⟩ := hlv.getD hi .none
    rw [ht]
    refine wpAny_assign_Name (r_st J fun s₂ J => tests1 (wpAny_isTrue_Compare1 (r_loc J rfl (r_cell rfl (J.get (hS1 _ _ (.inl hSt))) hT ?_))))
    walk_at "q"
    refine PyProof.Rows.notin_list_ints ⟨_, J.get (hS1 _ _ (.inl hqt)), rfl, _, rfl⟩ htv (wpAny_truthy_bool ⟨?_, fun _ => ⟨_, _, J, fun _ _ q => q⟩, fun _ => wpAny_BinOp (wpAny_Constant_int (r_loc (J.toks _) rfl (PyProof.Rows.add_int ?_)))⟩)
    · show _ = (((rightsN Ed)[i]?.map fun (x : Nat) => !((M.map (·.2)).any (fun y => y == (x : Int)))).getD false)
      rw [hx]; rfl
    · exact ⟨_, _, J.toks _, fun _ _ q => q, x, hx, _, rfl⟩
  intro qs ys c' S' s₅ hS' I hys
  have hys' : IntsAre ys (freeR Ed M) := ints_of2 (lc_out (T := VI) (l := rightsN Ed) (p := fun x => !((M.map (·.2)).any (fun y => y == (x : Int)))) (f := fun (x : Nat) => 10 + (x : Int)) hll hys)
  refine xa1_3 (I.settleAt (i := 0) rfl) fun S₂ hS₂ hSq I => ?_
  have h02 : ∀ a o, S a o → S₂ a o := fun a o z => hS₂ _ _ (hS' _ _ z)
  refine args_cons (r_lcList (gB := gB) (cl := []) R.hh (by kernel_rfl) (by decide) rfl (by decide) (r_loc I hma ?_))
  walk_at "q"
  refine ⟨qa, av, _, O, L, m, S₂, _, fun i => ((arrowsOf Ed M)[i]?.map fun _ => true).getD false, fun i v S => ∃ p, (arrowsOf Ed M)[i]? = some p ∧ VTup prog w S v [p.2, p.1], rfl, I, h02 _ _ hSa, lstO _ _, by exact Mine.oE ‹_› ‹_› (by exact rfl), fun hs ⟨p, a, b⟩ => ⟨p, a, b.mono hs⟩, nt3 dL dR dA, ?_, ?_⟩
  · rintro it C O' m' S' s' E' io acc ys c' i v hi J hS1 hsrc rfl
    obtain ⟨p, hp, te, hte, ot, hot, tot⟩ := hav.getD hi .none
    rw [hte]
    refine xa3_2 (tot.pair) fun ta tb nt hotc hotd => ?_
    refine r_unpack2 R.hh J (J.get (hS1 _ _ (.inl (h02 _ _ hot)))) hotc hotd fun s₂ J => wpAny_assign_Name (r_st J fun s₃ J => wpAny_assign_Name (r_st J fun s₄ J => ?_))
    walk_at "q"
    refine tests0 ⟨by show true = (((arrowsOf Ed M)[i]?.map fun _ => true).getD false); rw [hp]; rfl, fun e => (nomatch e), fun _ => Tuple_ (args_cons (r_loc J rfl (args_cons (r_loc J rfl (args_nil ?_)))))⟩
    refine r_newtup J fun a s₅ ha J => ⟨_, _, J, fun _ _ q => .inl q, p, hp, a, rfl, _, ⟨.inr ⟨rfl, rfl⟩, rfl, _, _, rfl⟩, TupO.of⟩
  · intro qs2 ys2 c2 S3 s₆ hS3 I hys2
    have hpr : Prs prog w S3 ys2 (turnA (arrowsOf Ed M)) := by
      have := lc_out (T := fun v (q : Int × Int) => VTup prog w S3 v [q.1, q.2]) (l := arrowsOf Ed M) (p := fun _ => true) (f := fun a => (a.2, a.1)) hla hys2
      rwa [List.filter_eq_self.mpr (fun _ _ => rfl)] at this
    refine xa1_3 (I.settleAt (i := 0) rfl) fun S₄ hS₄ hSq2 I => ?_
    have h04 : ∀ a o, S a o → S₄ a o := fun a o z => hS₄ _ _ (hS3 _ _ (h02 _ _ z))
    refine args_nil ⟨B.K I.wd, ?_⟩
    refine reach_spec B (hS₄ _ _ (hS3 _ _ hSq)) (lstO _ _) hys' hSq2 (lstO _ _) (hpr.mono fun _ _ z => z.mono hS₄) hah (by omega) (by unfold turnA; rw [List.length_map]; exact Mine.oL ‹_› (by exact rfl)) (by
      unfold freeR
      rw [List.length_map]
      have := List.length_filter_le (fun x : Nat => !((M.map (·.2)).any (fun y => y == (x : Int)))) (rightsN Ed)
      omega) R.mono I.pre (fun a o z => ⟨(I.st a o z).1, (I.st a o z).2.2.1⟩) fun s₇ l vs c P hl hvs hln hlf => ?_
    walk_at "q"
    refine xa1_3 (I.addNew' P hl hln hlf) fun S₅ hS₅ hSr I => ?_
    refine r_cellSt I (c215a L) (i := 2) rfl dA fun s₈ oA' hA' I => ?_
    walk_at "q"
    refine xa1_3 (I.settleAt (i := 2) rfl) fun S₆ hS₆ hSA I => ?_
    have h06 : ∀ a o, S a o → S₆ a o := fun a o z => hS₆ _ _ (hS₅ _ _ (h04 _ _ z))
    exact h s₈ _ S₆ l vs c oA' h06 I (F.mono h06 rfl rfl) (G.mono h06 rfl rfl rfl) hmb hSA hA' (hS₆ _ _ hSr) hvs
end
end Mine
end
section
open PySem PySem.W PySem.Calls PyProof.Rows
open Sem (wp)
namespace Mine
set_option linter.unusedSectionVars false
noncomputable def wonE (Ed : List (Int × Int)) (e : Int × Int) : List (Int × Int) := Ed.filter fun x => decide (x.1 ≠ e.1) && decide (x.2 ≠ e.2)
noncomputable def woeE (Ed : List (Int × Int)) (e : Int × Int) : List (Int × Int) := Ed.filter (· ≠ e)

noncomputable def EdgeOk (Ed M : List (Int × Int)) (bh ah : List Int) (e : Int × Int) : Prop :=
  ((10 + e.2, e.1) ∈ arrowsOf Ed M → ∃ r M1 M2, loopR (arrowsOf Ed M) 20 0 [e.1] = some r ∧ FindOk (woeE Ed e) M1 ∧ FindOk (wonE Ed e) M2 ∧
    decide (M1.length = M.length) = ((decide (e.1 ∈ bh) || decide (10 + e.2 ∈ ah)) || decide (10 + e.2 ∈ r)) ∧ M2.length + 1 = M.length) ∧
  ((10 + e.2, e.1) ∉ arrowsOf Ed M → ∃ r M2, loopR (arrowsOf Ed M) 20 0 [10 + e.2] = some r ∧ FindOk (wonE Ed e) M2 ∧
    decide (M2.length + 1 = M.length) = ((decide (e.1 ∈ bh) || decide (10 + e.2 ∈ ah)) || decide (e.1 ∈ r)))

structure LawU (S : Addr → Obj → Prop) (L : Addr) (m : Str → Option Value) (bh ah : List Int) : Prop where
  bh : ∃ q vs c, m "behind" = some (.ref q) ∧ S q (lst vs c) ∧ IntsAre vs bh
  ah : ∃ o q vs c, S (L + 6) o ∧ o.data = .cell (some (.ref q)) ∧ S q (lst vs c) ∧ IntsAre vs ah
section
variable {prog : Program} {w : World} {gB : Heap} {mg mb : Str → Option Value}
variable {O : Og} {L : Addr} {m m' : Str → Option Value} {S S' : Addr → Obj → Prop} {tr cs : List (Addr × Obj)} {s s' : Shared} {A : Around} {E : Value → Shared → Prop} {env : Env}
theorem LawU.mono {bh ah : List Int} (h : LawU S L m bh ah) (hs : ∀ a o, S a o → S' a o) (h1 : m' "behind" = m "behind") : LawU S' L m' bh ah where
  bh := let ⟨q, vs, c, a1, a2, a3⟩ := h.bh; ⟨q, vs, c, h1.trans a1, hs _ _ a2, a3⟩
  ah := let ⟨o, q, vs, c, a1, a2, a3, a4⟩ := h.ah; ⟨o, q, vs, c, hs _ _ a1, a2, hs _ _ a3, a4⟩

theorem any_mem {ns : List Int} {k : Int} : ns.any (· == k) = decide (k ∈ ns) := by
  rw [Bool.eq_iff_iff]; simp
theorem r_inInts {l : Addr} {vs : List Value} {ns : List Int} {k : Int} {t : Tok} {c : Nat} {Q : Value → Shared → Prop} (hg : s.heap.get? l = some (lst vs c)) (hi : IntsAre vs ns)
    (h : Q (.bool (decide (k ∈ ns))) s) : wpAny (model prog w) A (compareOp .In (.int k t) (.ref l)) Q E s :=
  PyProof.Rows.in_list_ints ⟨_, hg, rfl, c, rfl⟩ hi (by rw [any_mem]; exact h)
theorem r_or2 {e1 e2 : Expr} {pos : PySem.Pos} {b1 b2 : Bool} {P : Shared → Prop} {Q : Value → Shared → Prop} (h1 : wpAny (model prog w) A (eval e1 env) (fun v s₁ => v = .bool b1 ∧ P s₁) E s)
    (h2 : ∀ s₁, P s₁ → wpAny (model prog w) A (eval e2 env) (fun v s₂ => v = .bool b2 ∧ P s₂) E s₁) (h : ∀ s', P s' → Q (.bool (b1 || b2)) s') : wpAny (model prog w) A (eval (.BoolOp .Or [e1, e2] pos) env) Q E s := by
  refine BoolOp_or (wpAny_mono h1 (fun v s₁ hv => ?_) fun _ _ x => x)
  refine xa0_2 (hv) fun he1 hP => ?_
  obtain rfl := he1
  refine wpAny_truthy_bool ?_
  walk_at "q"
  cases b1 with
  | true => rw [if_pos rfl]; exact h s₁ hP
  | false =>
    first | refine ifF Bool.false_ne_true ?_ | refine ifF (by decide) ?_ | refine wifF (by decide) ?_ | rw [if_neg (by decide)]
    refine BoolOp_one (wpAny_mono (h2 s₁ hP) (fun v s₂ hv => ?_) fun _ _ x => x)
    refine xa0_2 (hv) fun he2 hP => ?_
    obtain rfl := he2
    exact h s₂ hP

theorem r_lenNode (B : Base w.params mg mb gB) {name : Str} {g : Addr} {Ed Ed' M M' : List (Int × Int)} {H : GA} {e : Int × Int} (R : Room A 40 200) (hmeth : methIn (KH w.params) 199 name g = true) (hfl : H.flds.lookup name = none)
    (I : FIn gB O L m S tr s) (hnt : ∀ p ∈ tr, NT p.2) (F : LawS prog w gB L S m Ed M H) (hM' : FindOk Ed' M') (zE : Ed'.length ≤ 12)
    (hspec : ∀ {t : Addr} {S₁ : Addr → Obj → Prop} {s₁ : Shared} {Q : Value → Shared → Prop} {E : Value → Shared → Prop}, (∀ a o, S a o → S₁ a o) → FIn gB O L m S₁ tr s₁ → TupS prog w S₁ t [e.1, e.2] →
      (∀ s' S' (H' : GA) es n oe ol or' og ls, Post gB [] s₁ s' → s'.heap.get? H'.x = some (instObj 199 H'.dx) → s'.heap.get? H'.dx = some (dictOf es n) → FldO es H'.flds → GObs prog w gB S' H' Ed' oe ol or' og ls → (H'.x :: H'.dx :: (gtr H' oe ol or' og ls).map (·.1)).Nodup →
        (∀ p ∈ gtr H' oe ol or' og ls, s'.heap.get? p.1 = some p.2) → (∀ a ∈ H'.x :: H'.dx :: (gtr H' oe ol or' og ls).map (·.1), gB.objs.size ≤ a ∧ s₁.heap.get? a = none) → (∀ a o, S' a o → s'.heap.get? a = some o ∧ a ∉ tabP ∧ a ∉ (H'.x :: H'.dx :: (gtr H' oe ol or' og ls).map (·.1)) ∧ o.cls = .type "tuple") → Q (.ref H'.x) s') →
      wpAny (model prog w) A (call (.ref g) [.ref H.x, .ref t]) Q E s₁)
    {i j : Nat} {oL oR : Obj} {ta tb : Tok} (hiL : tr[i]? = some (L + 4, oL)) (dL : oL.data = .cell (some (.int e.1 ta))) (hjR : tr[j]? = some (L + 5, oR)) (dR : oR.data = .cell (some (.int e.2 tb)))
    {p1 p2 p3 p4 p5 p6 p7 p8 p9 p10 : PySem.Pos} {k : Nat} (hl1 : (p3.endLine == p7.line) = true) (hl2 : (p8.endLine == p9.line) = true) {Q : Value → Shared → Prop} {E : Value → Shared → Prop}
    (h : ∀ s' t, FIn gB O L m S tr s' → Q (.int M'.length t) s') :
    wpAny (model prog w) A (eval (.Call (.Name "len" p1) [.Call (.Attribute (.Call (.Attribute (.Name "graph" p2) name p3) [.Tuple [.Name "left" p4, .Name "right" p5] k p6] [] p7) "find_matching" p8) [] [] p9] [] p10) (envC 215 L)) Q E s := by
  refine xa1_1 (F.gx) fun sl hx => ?_
  refine xa2_2 (F.gd) fun es n hdx hf => ?_
  have hz : M'.length ≤ 100 := by obtain ⟨σ, _, _, a3, rfl⟩ := hM'; rw [List.length_map]; exact a3
  have hmeth' := hmeth
  simp only [methIn, Bool.and_eq_true] at hmeth'
  refine PyProof.Rows.Call_ (r_blt B I (g_len _) (v := .builtin "len") (by decide +kernel) (by decide) ?_) rfl
  refine callWith_builtin rfl (evalArgs_plain (args_cons (MethodCall_ (MethodCall_ (r_loc I F.mg (r_meth B I (I.get hx) (I.get hdx) hf hfl hmeth ?_)) (eval_callm hl1 rfl rfl)) (eval_callm hl2 rfl rfl))))
  refine callWith_K B.X hmeth'.2 (args_cons (Tuple_ (args_cons (r_cell (c215l L) (I.at hiL) dL (args_cons (r_cell (c215r L) (I.at hjR) dR (args_nil ?_)))))))
  walk_at "q"
  refine r_newtup I fun t s₁ ht I₁ => args_nil ⟨B.K I₁.wd, ?_⟩
  refine hspec (fun a o z => .inl z) I₁ ⟨_, .inr ⟨rfl, rfl⟩, TupO.of⟩ fun s' S' H' es' n' oe ol or' og ls P h1 h2 hf' hG hn h5 h6 h7 => ?_
  have I₂ := I₁.keepP P
  refine meth_new B I₂ h1 h2 hf' ?_
  refine callWith_K0 (B.K I₂.wd) (by have := m199_find_matching w.params; simp only [methIn, Bool.and_eq_true] at this; exact this.2) ?_
  refine find_new B I₁ hnt P h1 h2 hf' hG hn h5 h6 h7 zE hM' R.mono fun s'' d od I₃ hd hD hdn => args_nil ?_
  walk_at "q"
  refine r_lenD I₃ hd hD hdn (by exact Mine.oL ‹_› (by exact rfl)) fun s₄ t₄ I₄ _ => h s₄ t₄ (I₄.monoS fun a o z => .inl z)
end
end Mine
end
section
open PySem PySem.W PySem.Calls PyProof.Rows
open Sem (wp)
namespace Mine
section
variable {prog : Program} {w : World} {gB : Heap} {mg mb : Str → Option Value}
variable {O : Og} {L : Addr} {m m' : Str → Option Value} {S S' : Addr → Obj → Prop} {tr cs : List (Addr × Obj)} {s s' : Shared} {A : Around} {E : Value → Shared → Prop} {env : Env}
theorem ntLR {oL oR : Obj} {vL vR : Option Value} (dL : oL.data = .cell vL) (dR : oR.data = .cell vR) : ∀ p ∈ [(L + 4, oL), (L + 5, oR)], NT p.2 := by
  refine al2 ?_ ?_
  · exact NT.cell dL
  · exact NT.cell dR

theorem lawF3 (B : Base w.params mg mb gB) {oL oR : Obj} {vL vR : Option Value} {Ed M : List (Int × Int)} {H : GA} {bh ah : List Int} (R : Room A 41 203)
    (I : FIn gB O L m S [(L + 4, oL), (L + 5, oR)] s) (dL : oL.data = .cell vL) (dR : oR.data = .cell vR) (F : LawS prog w gB L S m Ed M H) (G : LawT prog w S m Ed M) (U : LawU S L m bh ah)
    (hz : bh.length ≤ 900) (hdis : ∀ x ∈ bh, x ∉ ah) {Q : Flow → Shared → Prop} {E : Value → Shared → Prop}
    (h : ∀ s', FIn gB O L m S [(L + 4, oL), (L + 5, oR)] s' → wpAny (model prog w) A (execs ((bodyAt 215).drop 15) (envC 215 L)) Q E s') :
    wpAny (model prog w) A (execs ((bodyAt 215).drop 14) (envC 215 L)) Q E s := by
  have Un := R.un
  refine xa3_3 (U.bh) fun qb bv bc hmb hSb hbv => ?_
  refine xa4_4 (U.ah) fun oA qa av ac hSA dA hSa hav => ?_
  have hbl := IntsAre.len hbv
  refine wpAny_execs_cons (wpAny_If (wpAny_isTrue_Compare1 ?_))
  walk_at "q"
  refine r_lcList (gB := gB) (cl := [("ahead", L + 6)]) R.hh (by kernel_rfl) (by decide) rfl (by decide) (r_loc I hmb ?_)
  walk_at "q"
  refine ⟨qb, bv, _, O, L, m, S, _, fun _ => false, fun _ _ _ => True, rfl, I, hSb, lstO _ _, by exact Mine.oE ‹_› ‹_› (by exact rfl), fun _ _ => trivial, ntLR dL dR, ?_, ?_⟩
  · rintro it C O' m' S' s' E' io acc ys c' i v hi J hS1 hsrc rfl
    refine xa1_1 (show ∃ x, bh[i]? = some x from ⟨bh[i]'(by exact Mine.oQ' ‹_› ‹_›), List.getElem?_eq_getElem _⟩) fun x hx => ?_
    refine xa1_1 (IntsAre.at hbv hx) fun t ht => ?_
    have hv : bv.getD i .none = .int x t := by rw [List.getD_eq_getElem?_getD, ht]; rfl
    rw [hv]
    refine wpAny_assign_Name (r_st J fun s₂ J => tests1 (wpAny_isTrue_Compare1 (r_loc J rfl (r_cell rfl (J.get (hS1 _ _ (.inl hSA))) dA ?_))))
    walk_at "q"
    refine r_inInts (J.get (hS1 _ _ (.inl hSa))) hav (wpAny_truthy_bool ?_)
    walk_at "q"
    have hn := hdis x (List.mem_of_getElem? hx)
    refine ⟨by simp [hn], fun _ => ⟨_, _, J, fun _ _ q => q⟩, fun e => ?_⟩
    simp [hn] at e
  · intro ql ys c' S' s₅ hS' I hys
    have hys' : ys = [] := all2_nil hys (passing_none _)
    subst hys'
    refine PyProof.Rows.List_ (args_nil (r_newlist I fun q2 s₆ hq2 I => ?_))
    refine r_ne_nil (by exact Mine.oV ‹_›) (I.at (i := 1) rfl) (I.at (i := 0) rfl) (wpAny_truthy_bool ?_)
    first | refine ifF Bool.false_ne_true ?_ | refine ifF (by decide) ?_ | refine wifF (by decide) ?_ | rw [if_neg (by decide)]
    replace I := I.sub (tr' := [(L + 4, oL), (L + 5, oR)]) (by simp)
    replace I := I.monoS (S' := S) fun a o z => hS' _ _ z
    exact wpAny_execs_nil (h _ I)

theorem r_for_listP {target iter : Expr} {body : List Stmt} {pos : PySem.Pos} {Q : Flow → Shared → Prop} (hh : A.handled = none)
    (he : wpAny (model prog w) A (eval iter env) (fun xv s₁ => ∃ (l : Addr) (items : List Value) (m : Str → Option Value) (S : Addr → Obj → Prop) (tr : List (Addr × Obj)) (Inv : Nat → (Str → Option Value) → (Addr → Obj → Prop) → List (Addr × Obj) → Prop),
      xv = .ref l ∧ FIn gB O L m S tr s₁ ∧ (∀ k m S tr, Inv k m S tr → ∃ lo, S l lo ∧ LstO items lo) ∧ Inv 0 m S tr ∧
      (∀ it k m S tr s io, k < items.length → Inv k m S tr → NT io → FIn gB O L m S ((it, io) :: tr) s →
        wpAny (model prog w) A (assign target env (items.getD k .none)) (fun _ s₂ => wpAny (model prog w) A (execs body env) (fun f s₃ => match f with
          | .next | .cont => ∃ m' S' tr', FIn gB O L m' S' ((it, io) :: tr') s₃ ∧ Inv (k + 1) m' S' tr'
          | .brk => Q .next s₃
          | .ret v => Q (.ret v) s₃) (fun _ _ => False) s₂) (fun _ _ => False) s) ∧
      (∀ m S tr s, Inv items.length m S tr → FIn gB O L m S tr s → Q .next s)) E s)
    (hs : ∀ x, foldedSetIterable iter env x = pure x := by intro _; rfl) :
    wpAny (model prog w) A (exec (.For target iter body [] pos) env) Q E s := by
  refine wpAny_For (wpAny_mono he (fun xv s₁ h₁ => ?_) fun _ _ x => x) hs
  refine xa6_6 (h₁) fun l items m S tr Inv he1 I₁ hsrc i0 turn done => ?_
  obtain rfl := he1
  obtain ⟨lo, h1, h2, nn, h3⟩ := hsrc _ _ _ _ i0
  refine wpAny_pyIter_list (items := items.toArray) ⟨lo, I₁.get h1, h2, nn, h3⟩ ?_
  walk_at "q"
  have J : Iter prog w gB s₁.heap.objs.size items.length (fun k => items.getD k .none) (LIt l) (fun S => ∃ lo, S l lo ∧ LstO items lo) := listIter
  have I₀ := I₁.push { cls := .type "list_iterator", data := .fields #[.ref l, .int 0 0] } s₁.toks
  generalize hit : s₁.heap.objs.size = it at J I₀
  refine codeAny_forLoop_any (fun c s => ∃ k m S tr io, c = items.length - k ∧ k ≤ items.length ∧ LIt l k io ∧ Inv k m S tr ∧ FIn gB O L m S ((it, io) :: tr) s) ?_ items.length ⟨0, m, S, tr, _, by simp, Nat.zero_le _, ⟨rfl, rfl⟩, i0, I₀⟩
  intro c s hp2
  refine xa5_5 (hp2) fun k m S tr io he3 hk hP hI I => ?_
  obtain rfl := he3
  by_cases hkn : k < items.length
  · refine J.next hkn I hP (hsrc _ _ _ _ hI) fun io' s' hP' I' => ?_
    refine J.go _ _ I' hP' ?_
    have hnt : NT io' := fun ⟨e, _⟩ => by rw [hP'.1] at e; exact absurd e (by decide)
    refine wpAny_mono (turn it k m S tr s' io' hkn hI hnt I') (fun _ s₂ h₂ => wpAny_mono h₂ (fun f s₃ h₃ => ?_) fun _ _ x => x.elim) fun _ _ x => x.elim
    cases f with
    | next => obtain ⟨m', S', tr', I₃, hI₃⟩ := h₃; exact ⟨items.length - (k + 1), by exact Mine.oS2 ‹_›, k + 1, m', S', tr', io', rfl, hkn, hP', hI₃, I₃⟩
    | cont => obtain ⟨m', S', tr', I₃, hI₃⟩ := h₃; exact ⟨items.length - (k + 1), by exact Mine.oS2 ‹_›, k + 1, m', S', tr', io', rfl, hkn, hP', hI₃, I₃⟩
    | brk => exact h₃
    | ret v => exact h₃
  · obtain rfl : k = items.length := by exact Mine.oN ‹_› ‹_›
    refine J.stop hh I hP (hsrc _ _ _ _ hI) fun s' I' => ?_
    exact wpAny_execs_nil (done m S tr s' hI I')

theorem woe_len (Ed : List (Int × Int)) (e : Int × Int) : (woeE Ed e).length ≤ Ed.length := List.length_filter_le ..
theorem won_len (Ed : List (Int × Int)) (e : Int × Int) : (wonE Ed e).length ≤ Ed.length := List.length_filter_le ..
theorem EOk.small {Ed : List (Int × Int)} (h : EOk Ed) : Small Ed := fun e he => by
  refine xa2_3 (h.sm e he) fun l r h1 h2 h3 => ?_
  exact ⟨l, r, h3, h1, h2⟩

theorem r_reachE (B : Base w.params mg mb gB) {Ed M : List (Int × Int)} {H : GA} (R : Room A 40 200) (F : LawS prog w gB L S m Ed M H) (G : LawT prog w S m Ed M) {r : List Int} {k : Int} {ex : Expr} {p1 p2 p3 p4 : PySem.Pos}
    (I : FIn gB O L m S tr s) (hr : loopR (arrowsOf Ed M) 20 0 [k] = some r) {Q : Value → Shared → Prop} {E : Value → Shared → Prop}
    (hx : ∀ {Q : Value → Shared → Prop}, (∀ s' t, FIn gB O L m S tr s' → Q (.int k t) s') → wpAny (model prog w) A (eval ex (envC 215 L)) Q E s)
    (h : ∀ s' l vs c, FIn gB O L m S tr s' → s'.heap.get? l = some (lst vs c) → IntsAre vs r → Q (.ref l) s')
    (hs : starEach [ex] (envC 215 L) = [(false, eval ex (envC 215 L))] := by rfl) :
    wpAny (model prog w) A (eval (.Call (.Name "_law_reach" p1) [.List [ex] p2, .Name "arrows" p3] [] p4) (envC 215 L)) Q E s := by
  obtain ⟨qa, av, ac, hma, hSa, hav⟩ := G.ar
  have z7 := F.ok.len
  refine PyProof.Rows.Call_ (r_glob B I (gReach _) ?_) rfl
  refine callWith_K B.X (kReach _) (args_cons (PyProof.Rows.List_ ?_))
  walk_at "q"
  refine args_cons (he := hs) (hx fun s₁ t I => args_nil (r_newlist I fun q s₂ hq I => ?_))
  walk_at "q"
  obtain ⟨S₂, hS₂, hSq, I⟩ := I.settleAt (i := 0) rfl
  refine args_cons (r_loc I hma (args_nil ⟨B.K I.wd, ?_⟩))
  refine reach_spec B hSq (lstO _ _) (.cons k t .nil) (hS₂ _ _ hSa) (lstO _ _) (hav.mono fun _ _ z => z.mono hS₂) hr (by omega) (by unfold arrowsOf; rw [List.length_map]; exact Mine.oL ‹_› (by exact rfl)) (by simp) R.mono I.pre (fun a o z => ⟨(I.st a o z).1, (I.st a o z).2.2.1⟩) fun s₇ l vs c P hl hvs hln hlf => h s₇ l vs c ((I.keepP P).monoS hS₂) hl hvs

inductive LvI (prog : Program) (w : World) (gB : Heap) (S : Addr → Obj → Prop) (L : Addr) (Ed M : List (Int × Int)) (H : GA) (bh ah : List Int) (m' : Str → Option Value) (S' : Addr → Obj → Prop) (tr : List (Addr × Obj)) : Prop
  | mk (h1 : S = S')
    (h2 : LawS prog w gB L S m' Ed M H)
    (h3 : LawT prog w S m' Ed M)
    (h4 : LawU S L m' bh ah)
    (oL' oR' vL' vR')
    (h5 : tr = [(L + 4, oL'), (L + 5, oR')])
    (h6 : oL'.data = .cell vL')
    (h7 : oR'.data = .cell vR') : LvI prog w gB S L Ed M H bh ah m' S' tr

theorem lawG (B : Base w.params mg mb gB) {oL oR : Obj} {vL vR : Option Value} {Ed M : List (Int × Int)} {H : GA} {bh ah : List Int} (R : Room A 41 203)
    (I : FIn gB O L m S [(L + 4, oL), (L + 5, oR)] s) (dL : oL.data = .cell vL) (dR : oR.data = .cell vR) (F : LawS prog w gB L S m Ed M H) (G : LawT prog w S m Ed M) (U : LawU S L m bh ah)
    (hok : ∀ e ∈ Ed, EdgeOk Ed M bh ah e) {Q : Flow → Shared → Prop} {E : Value → Shared → Prop}
    (h : ∀ s' m' oL' oR' vL' vR', FIn gB O L m' S [(L + 4, oL'), (L + 5, oR')] s' → oL'.data = .cell vL' → oR'.data = .cell vR' → LawS prog w gB L S m' Ed M H → LawT prog w S m' Ed M → LawU S L m' bh ah →
      wpAny (model prog w) A (execs ((bodyAt 215).drop 16) (envC 215 L)) Q E s') :
    wpAny (model prog w) A (execs ((bodyAt 215).drop 15) (envC 215 L)) Q E s := by
  have Un := R.un
  refine xa4_4 (F.cE) fun oE q items c hSe hE hq hP => ?_
  have hlen := hP.length
  have z7 := F.ok.len
  refine wpAny_execs_cons (r_for_listP (gB := gB) (O := O) (L := L) R.hh (r_cell (c215e L) (I.get hSe) hE ?_))
  walk_at "q"
  refine ⟨q, items, _, _, _, fun _ => LvI prog w gB S L Ed M H bh ah,
    rfl, I, ?_, ⟨rfl, F, G, U, oL, oR, vL, vR, rfl, dL, dR⟩, ?_, ?_⟩
  · intro k m S' tr hp4
    obtain ⟨he5, _⟩ := hp4
    obtain rfl := he5
    exact ⟨_, hq, lstO _ _⟩
  · intro it k m' S' tr s₄ io hk hp6 hio I
    obtain ⟨he7, F, G, U, oL, oR, vL, vR, he8, dL, dR⟩ := hp6
    obtain rfl := he7
    obtain rfl := he8
    obtain ⟨e, he, te, hte, ot, hot, tot⟩ := hP.getD hk .none
    rw [hte]
    refine xa3_2 (tot.pair) fun ta tb nt hotc hotd => ?_
    refine xa0_2 (hok e (List.mem_of_getElem? he)) fun ok1 ok2 => ?_
    refine xa1_1 (F.gx) fun sl hgx => ?_
    refine xa2_2 (F.gd) fun esg ng hgd hgf => ?_
    refine xa1_2 (F.ge) fun oed hge hED => ?_
    have hgn := F.gn
    refine r_unpack2 R.hh I (I.get hot) hotc hotd fun s₅ I => ?_
    walk_at "q"
    refine wpAny_assign_Name (r_cellSt I (c215l L) (i := 1) rfl dL fun s₆ oL' dL' I => ?_)
    walk_at "q"
    refine wpAny_assign_Name (r_cellSt I (c215r L) (i := 2) rfl dR fun s₇ oR' dR' I => ?_)
    walk_at "q"
    replace I : FIn gB O L m' S [(it, io), (L + 4, oL'), (L + 5, oR')] s₇ := I
    have hnt : ∀ p ∈ [(it, io), (L + 4, oL'), (L + 5, oR')], NT p.2 := by
      refine al3 ?_ ?_ ?_
      · exact hio
      · exact NT.cell dL'
      · exact NT.cell dR'
    refine xa3_3 (U.bh) fun qb bv bc hmb hSb hbv => ?_
    refine xa4_4 (U.ah) fun oA qh hv hc hSA dA hSh hhv => ?_
    refine xa3_3 (G.ar) fun qa av ac hma hSa hav => ?_
    refine wpAny_execs_cons (wpAny_Assign_Name ?_)
    walk_at "q"
    refine r_or2 (b1 := decide (e.1 ∈ bh)) (b2 := decide (10 + e.2 ∈ ah)) (P := fun s => FIn gB O L m' S [(it, io), (L + 4, oL'), (L + 5, oR')] s)
      (wpAny_Compare1 (r_cell (c215l L) (I.at (i := 1) rfl) dL' (r_loc I hmb (r_inInts (I.get hSb) hbv ⟨rfl, I⟩))))
      (fun s₈ I => wpAny_Compare1 (wpAny_BinOp (wpAny_Constant_int (r_cell (c215r L) (I.at (i := 2) rfl) dR' (PyProof.Rows.add_int (r_cell (c215a L) (I.get hSA) dA (r_inInts (I.get hSh) hhv ⟨rfl, (I.toks _)⟩)))))))
      fun s₈ I => r_st I fun s₉ I => ?_
    walk_at "q"
    generalize hloose : (decide (e.1 ∈ bh) || decide (10 + e.2 ∈ ah)) = loose at ok1 ok2 I
    refine wpAny_execs_cons (wpAny_If (wpAny_isTrue_Compare1 (Tuple_ (args_cons (wpAny_BinOp (wpAny_Constant_int (r_cell (c215r L) (I.at (i := 2) rfl) dR' (PyProof.Rows.add_int (args_cons (r_cell (c215l L) (I.at (i := 1) rfl) dL' (args_nil ?_)))))))))))
    walk_at "q"
    refine r_newtup (I.toks _) fun tq s₁₀ htq I₁ => r_loc I₁ hma ?_
    walk_at "q"
    refine r_inPrs (p := (10 + e.2, e.1)) (by exact Mine.oU ‹_› (by exact rfl)) I₁ (I₁.get (.inl hSa)) (lstO _ _) (hav.mono fun _ _ z => z.mono fun a o q => .inl q) ⟨_, .inr ⟨rfl, rfl⟩, TupO.of⟩ (wpAny_truthy_bool ?_)
    walk_at "q"
    replace I := I₁.monoS (S' := S) fun a o z => .inl z
    have fin : ∀ {s₁₁ : Shared} {m'' : Str → Option Value}, m'' "graph" = m' "graph" → m'' "size" = m' "size" → m'' "lefts" = m' "lefts" → m'' "rights" = m' "rights" → m'' "arrows" = m' "arrows" → m'' "behind" = m' "behind" → FIn gB O L m'' S [(it, io), (L + 4, oL'), (L + 5, oR')] s₁₁ →
        ∃ m₁ S₁ tr', FIn gB O L m₁ S₁ ((it, io) :: tr') s₁₁ ∧ LvI prog w gB S L Ed M H bh ah m₁ S₁ tr' :=
      fun a1 a2 a3 a4 a5 a6 I => ⟨_, _, _, I, rfl, F.mono (fun _ _ z => z) a1 a2, G.mono (fun _ _ z => z) a3 a4 a5, U.mono (fun _ _ z => z) a6, _, _, _, _, rfl, dL', dR'⟩
    refine xa1_8 (show ∃ m9 : Str → Option Value, FIn gB O L m9 S [(it, io), (L + 4, oL'), (L + 5, oR')] s₁₀ ∧ m9 "loose" = some (.bool loose) ∧ m9 "graph" = m' "graph" ∧ m9 "size" = m' "size" ∧ m9 "lefts" = m' "lefts" ∧ m9 "rights" = m' "rights" ∧ m9 "arrows" = m' "arrows" ∧ m9 "behind" = m' "behind" from ⟨_, I, rfl, rfl, rfl, rfl, rfl, rfl, rfl⟩) fun m9 I k0 k1 k2 k3 k4 k5 k6 => ?_
    have F9 := F.mono (fun _ _ z => z) k1 k2
    have G9 := G.mono (fun _ _ z => z) k3 k4 k5
    have z2 := won_len Ed e
    have z3 := woe_len Ed e
    have Rr : Room A 40 200 := R.mono
    by_cases hin : (10 + e.2, e.1) ∈ arrowsOf Ed M
    · first | refine ifT (decide_eq_true hin) ?_ | refine ifT (beq_iff_eq.mpr hin) ?_ | refine ifT (by simpa using hin) ?_ | refine wifT (by simpa using hin) ?_ | rw [if_pos (by simpa using hin)]
      refine xa3_5 (ok1 hin) fun r M1 M2 hr hM1 hM2 hd1 hd2 => ?_
      refine wpAny_execs_cons (wpAny_Assign_Name ?_)
      walk_at "q"
      refine r_or2 (b1 := loose) (b2 := decide (10 + e.2 ∈ r)) (P := fun s => FIn gB O L m9 S [(it, io), (L + 4, oL'), (L + 5, oR')] s) (r_loc I k0 ⟨rfl, I⟩)
        (fun s₁₁ I => wpAny_Compare1 (wpAny_BinOp (wpAny_Constant_int (r_cell (c215r L) (I.at (i := 2) rfl) dR' (PyProof.Rows.add_int (r_reachE B Rr F9 G9 (I.toks _) hr (fun hQ => r_cell (c215l L) ((I.toks _).at (i := 1) rfl) dL' (hQ _ _ (I.toks _))) fun s₁₂ l vs c I hl hvs => r_inInts hl hvs ⟨rfl, I⟩))))))
        fun s₁₁ I => r_st I fun s₁₂ I => ?_
      walk_at "q"
      generalize htu : (loose || decide (10 + e.2 ∈ r)) = tu at hd1 I
      refine xa1_8 (show ∃ mA : Str → Option Value, FIn gB O L mA S [(it, io), (L + 4, oL'), (L + 5, oR')] s₁₂ ∧ mA "turned" = some (.bool tu) ∧ mA "graph" = m' "graph" ∧ mA "size" = m' "size" ∧ mA "lefts" = m' "lefts" ∧ mA "rights" = m' "rights" ∧ mA "arrows" = m' "arrows" ∧ mA "behind" = m' "behind" from ⟨_, I, rfl, k1, k2, k3, k4, k5, k6⟩) fun mA I j0 j1 j2 j3 j4 j5 j6 => ?_
      have FA := F.mono (fun _ _ z => z) j1 j2
      refine xa1_1 (FA.ms) fun tsz hsz => ?_
      refine wpAny_execs_cons (wpAny_If (wpAny_isTrue_Compare1 (wpAny_Compare1 ?_)))
      walk_at "q"
      refine r_lenNode B (e := e) Rr (m199_without_edge _) rfl I hnt FA hM1 (by omega) (fun hs I ht hQ => woe_spec B ⟨sl, hs _ _ hgx⟩ (hs _ _ hgd) hgf (hs _ _ hge) (hED.mono hs) hgn F.ok.small (by exact Mine.oL ‹_› (by exact rfl)) F.ok.nd ht R.mono I.pre (fun a o z => ⟨(I.st a o z).1, (I.st a o z).2.2.1⟩) hQ) (i := 1) (j := 2) rfl dL' rfl dR' rfl rfl fun s₁₃ t₁₃ I => ?_
      walk_at "q"
      refine r_loc I hsz (PyProof.Rows.eq_int (r_loc I j0 (PyProof.Rows.ne_bool (wpAny_truthy_bool ?_))))
      walk_at "q"
      rw [if_neg (by
        have : ((M1.length : Int) == (M.length : Int)) = tu := by rw [← hd1, Bool.eq_iff_iff]; simp; exact Int.ofNat_inj
        rw [this]; simp)]
      refine wpAny_execs_nil ?_
      walk_at "q"
      refine wpAny_execs_cons (wpAny_If (wpAny_isTrue_Compare1 (wpAny_BinOp ?_)))
      walk_at "q"
      refine r_lenNode B (e := e) Rr (m199_without_nodes _) rfl I hnt FA hM2 (by omega) (fun hs I ht hQ => won_spec B ⟨sl, hs _ _ hgx⟩ (hs _ _ hgd) hgf (hs _ _ hge) (hED.mono hs) hgn F.ok.small (by exact Mine.oL ‹_› (by exact rfl)) F.ok.nd ht R.mono I.pre (fun a o z => ⟨(I.st a o z).1, (I.st a o z).2.2.1⟩) hQ) (i := 1) (j := 2) rfl dL' rfl dR' rfl rfl fun s₁₄ t₁₄ I => ?_
      walk_at "q"
      refine wpAny_Constant_int (PyProof.Rows.add_int (r_loc (I.toks _) hsz (PyProof.Rows.ne_int (wpAny_truthy_bool ?_))))
      walk_at "q"
      rw [if_neg (by
        have : ((M2.length : Int) + 1 == (M.length : Int)) = true := by simp; omega
        simp [bne, this])]
      exact wpAny_execs_nil (wpAny_execs_nil (wpAny_execs_nil (fin j1 j2 j3 j4 j5 j6 (I.toks _))))
    · first | refine ifF (ne_true_of_eq_false (decide_eq_false hin)) ?_ | refine ifF (ne_true_of_eq_false (beq_eq_false_iff_ne.mpr hin)) ?_ | refine ifF (by simpa using hin) ?_ | refine wifF (by simpa using hin) ?_ | rw [if_neg (by simpa using hin)]
      obtain ⟨r, M2, hr, hM2, hd2⟩ := ok2 hin
      refine wpAny_execs_cons (wpAny_Assign_Name ?_)
      walk_at "q"
      refine r_or2 (b1 := loose) (b2 := decide (e.1 ∈ r)) (P := fun s => FIn gB O L m9 S [(it, io), (L + 4, oL'), (L + 5, oR')] s) (r_loc I k0 ⟨rfl, I⟩)
        (fun s₁₁ I => wpAny_Compare1 (r_cell (c215l L) (I.at (i := 1) rfl) dL' (r_reachE B Rr F9 G9 I hr (fun hQ => wpAny_BinOp (wpAny_Constant_int (r_cell (c215r L) (I.at (i := 2) rfl) dR' (PyProof.Rows.add_int (hQ _ _ (I.toks _)))))) fun s₁₂ l vs c I hl hvs => r_inInts hl hvs ⟨rfl, I⟩)))
        fun s₁₁ I => r_st I fun s₁₂ I => ?_
      walk_at "q"
      generalize htu : (loose || decide (e.1 ∈ r)) = tu at hd2 I
      obtain ⟨mA, I, j0, j1, j2, j3, j4, j5, j6⟩ : ∃ mA : Str → Option Value, FIn gB O L mA S [(it, io), (L + 4, oL'), (L + 5, oR')] s₁₂ ∧ mA "used" = some (.bool tu) ∧ mA "graph" = m' "graph" ∧ mA "size" = m' "size" ∧ mA "lefts" = m' "lefts" ∧ mA "rights" = m' "rights" ∧ mA "arrows" = m' "arrows" ∧ mA "behind" = m' "behind" := ⟨_, I, rfl, k1, k2, k3, k4, k5, k6⟩
      have FA := F.mono (fun _ _ z => z) j1 j2
      obtain ⟨tsz, hsz⟩ := FA.ms
      refine wpAny_execs_cons (wpAny_If (wpAny_isTrue_Compare1 (wpAny_Compare1 (wpAny_BinOp ?_))))
      walk_at "q"
      refine r_lenNode B (e := e) Rr (m199_without_nodes _) rfl I hnt FA hM2 (by omega) (fun hs I ht hQ => won_spec B ⟨sl, hs _ _ hgx⟩ (hs _ _ hgd) hgf (hs _ _ hge) (hED.mono hs) hgn F.ok.small (by exact Mine.oL ‹_› (by exact rfl)) F.ok.nd ht R.mono I.pre (fun a o z => ⟨(I.st a o z).1, (I.st a o z).2.2.1⟩) hQ) (i := 1) (j := 2) rfl dL' rfl dR' rfl rfl fun s₁₄ t₁₄ I => ?_
      walk_at "q"
      refine wpAny_Constant_int (PyProof.Rows.add_int (r_loc (I.toks _) hsz (PyProof.Rows.eq_int (r_loc (I.toks _) j0 (PyProof.Rows.ne_bool (wpAny_truthy_bool ?_))))))
      walk_at "q"
      rw [if_neg (by
        have : ((M2.length : Int) + 1 == (M.length : Int)) = tu := by rw [← hd2, Bool.eq_iff_iff]; simp; exact Int.ofNat_inj (m := M2.length + 1)
        rw [this]; simp)]
      exact wpAny_execs_nil (wpAny_execs_nil (wpAny_execs_nil (fin j1 j2 j3 j4 j5 j6 (I.toks _))))
  · intro m' S' tr s₄ hp9 I
    obtain ⟨he10, F, G, U, oL, oR, vL, vR, he11, dL, dR⟩ := hp9
    obtain rfl := he10
    obtain rfl := he11
    exact h s₄ m' oL oR vL vR I dL dR F G U
end
end Mine
end
section
open PySem PySem.W PySem.Calls PyProof.Rows
open Sem (wp)
namespace Mine
noncomputable def LeftOk (Ed M : List (Int × Int)) (bh : List Int) (l : Nat) : Prop := ∃ M', FindOk (Ed.filter fun x => decide (x.1 ≠ (l : Int))) M' ∧ decide (M'.length = M.length) = decide ((l : Int) ∈ bh)
noncomputable def RightOk (Ed M : List (Int × Int)) (ah : List Int) (r : Nat) : Prop := ∃ M', FindOk (Ed.filter fun x => decide (x.2 ≠ (r : Int))) M' ∧ decide (M'.length = M.length) = decide (10 + (r : Int) ∈ ah)
theorem any_bits {xs : List Nat} (hx : ∀ x ∈ xs, x < 4) (k : Int) : ((stI (bits xs)).any fun i => decide (k = (i : Int))) = true ↔ ∃ i ∈ xs, k = (i : Int) := by
  rw [List.any_eq_true]
  constructor
  · rintro ⟨i, h1, h2⟩; exact ⟨i, (mem_bits hx i).mp h1, of_decide_eq_true h2⟩
  · rintro ⟨i, h1, h2⟩; exact ⟨i, (mem_bits hx i).mpr h1, decide_eq_true h2⟩
theorem small_l {Ed : List (Int × Int)} (h : EOk Ed) : ∀ x ∈ Ed.map (fun p => p.1.toNat), x < 4 := (nats_of (ps := Ed) (f := (·.1)) fun p hp => by
  refine xa2_3 (h.sm p hp) fun l r h1 _ e => ?_
  exact ⟨l, h1, by rw [e]⟩).2
theorem small_r {Ed : List (Int × Int)} (h : EOk Ed) : ∀ x ∈ Ed.map (fun p => p.2.toNat), x < 4 := (nats_of (ps := Ed) (f := (·.2)) fun p hp => by
  refine xa2_3 (h.sm p hp) fun l r _ h1 e => ?_
  exact ⟨r, h1, by rw [e]⟩).2
theorem mem_lefts {Ed : List (Int × Int)} (h : EOk Ed) (i : Nat) : i ∈ leftsN Ed ↔ ∃ p ∈ Ed, p.1 = (i : Int) := by
  unfold leftsN
  rw [mem_bits (small_l h), List.mem_map]
  constructor
  · intro hp1
    refine xa1_2 (hp1) fun p hp e => ?_
    refine xa2_3 (h.sm p hp) fun l r _ _ he2 => ?_
    obtain rfl := he2
    exact ⟨_, hp, by simp at e ⊢; omega⟩
  · rintro ⟨p, hp, e⟩; exact ⟨p, hp, by rw [e]; simp⟩
theorem mem_rights {Ed : List (Int × Int)} (h : EOk Ed) (i : Nat) : i ∈ rightsN Ed ↔ ∃ p ∈ Ed, p.2 = (i : Int) := by
  unfold rightsN
  rw [mem_bits (small_r h), List.mem_map]
  constructor
  · intro hp3
    refine xa1_2 (hp3) fun p hp e => ?_
    refine xa2_3 (h.sm p hp) fun l r _ _ he4 => ?_
    obtain rfl := he4
    exact ⟨_, hp, by simp at e ⊢; omega⟩
  · rintro ⟨p, hp, e⟩; exact ⟨p, hp, by rw [e]; simp⟩
theorem lefts_lt (Ed : List (Int × Int)) : ∀ x ∈ leftsN Ed, x < 4 := fun x hx => (mem_stI.mp hx).1
theorem rights_lt (Ed : List (Int × Int)) : ∀ x ∈ rightsN Ed, x < 4 := fun x hx => (mem_stI.mp hx).1
theorem limL {Ed : List (Int × Int)} (h : EOk Ed) (l : Nat) :
    (Ed.filter fun x => ((stI (bits ((leftsN Ed).filter fun (x : Nat) => decide (x ≠ l)))).any fun i => decide (x.1 = (i : Int))) && ((stI (bits (rightsN Ed))).any fun i => decide (x.2 = (i : Int)))) = Ed.filter fun x => decide (x.1 ≠ (l : Int)) := by
  refine List.filter_congr fun p hp => ?_
  walk_at "q"
  refine xa2_3 (h.sm p hp) fun a b ha hb he5 => ?_
  obtain rfl := he5
  rw [Bool.eq_iff_iff, Bool.and_eq_true, any_bits (fun x hx => lefts_lt Ed x (List.mem_filter.mp hx).1), any_bits (rights_lt Ed), decide_eq_true_iff]
  constructor
  · intro hp6
    obtain ⟨hp7, _⟩ := hp6
    refine xa1_2 (hp7) fun i hi e => ?_
    have := (List.mem_filter.mp hi).2
    simp only [ne_eq, decide_not, Bool.not_eq_true', decide_eq_false_iff_not] at this
    simp only at e ⊢; omega
  · intro hne
    refine ⟨⟨a, List.mem_filter.mpr ⟨(mem_lefts h a).mpr ⟨_, hp, rfl⟩, ?_⟩, rfl⟩, b, (mem_rights h b).mpr ⟨_, hp, rfl⟩, rfl⟩
    simp only [ne_eq, decide_not, Bool.not_eq_true', decide_eq_false_iff_not]
    simp only at hne; omega
theorem limR {Ed : List (Int × Int)} (h : EOk Ed) (r : Nat) :
    (Ed.filter fun x => ((stI (bits (leftsN Ed))).any fun i => decide (x.1 = (i : Int))) && ((stI (bits ((rightsN Ed).filter fun (x : Nat) => decide (x ≠ r)))).any fun i => decide (x.2 = (i : Int)))) = Ed.filter fun x => decide (x.2 ≠ (r : Int)) := by
  refine List.filter_congr fun p hp => ?_
  walk_at "q"
  refine xa2_3 (h.sm p hp) fun a b ha hb he8 => ?_
  obtain rfl := he8
  rw [Bool.eq_iff_iff, Bool.and_eq_true, any_bits (lefts_lt Ed), any_bits (fun x hx => rights_lt Ed x (List.mem_filter.mp hx).1), decide_eq_true_iff]
  constructor
  · intro hp9
    refine xa0_2 (hp9) fun _ hp10 => ?_
    refine xa1_2 (hp10) fun i hi e => ?_
    have := (List.mem_filter.mp hi).2
    simp only [ne_eq, decide_not, Bool.not_eq_true', decide_eq_false_iff_not] at this
    simp only at e ⊢; omega
  · intro hne
    refine ⟨⟨a, (mem_lefts h a).mpr ⟨_, hp, rfl⟩, rfl⟩, b, List.mem_filter.mpr ⟨(mem_rights h b).mpr ⟨_, hp, rfl⟩, ?_⟩, rfl⟩
    simp only [ne_eq, decide_not, Bool.not_eq_true', decide_eq_false_iff_not]
    simp only at hne; omega
section
variable {prog : Program} {w : World} {gB : Heap} {mg mb : Str → Option Value}
variable {O : Og} {L : Addr} {m m' : Str → Option Value} {S S' : Addr → Obj → Prop} {tr cs : List (Addr × Obj)} {s s' : Shared} {A : Around} {E : Value → Shared → Prop} {env : Env}

theorem FIn.settleAll : ∀ (ls' : List (Addr × Obj)) (S₁ : Addr → Obj → Prop), FIn gB O L m S₁ (ls' ++ cs) s → ∃ S₂, (∀ a o, S₁ a o → S₂ a o) ∧ (∀ p ∈ ls', S₂ p.1 p.2) ∧ FIn gB O L m S₂ cs s := by
  intro ls'
  induction ls' with
  | nil => intro S₁ I; exact ⟨S₁, fun _ _ q => q, (fun _ h => nomatch h), I⟩
  | cons p ls' ih =>
    intro S₁ I
    refine xa1_3 (ih _ (FIn.settle (a := p.1) (o := p.2) I)) fun S₂ a1 a2 I => ?_
    refine ⟨S₂, fun a o q => a1 _ _ (.inl q), fun p' hp' => ?_, I⟩
    rcases List.mem_cons.mp hp' with rfl | hp'
    · exact a1 _ _ (.inr ⟨rfl, rfl⟩)
    · exact a2 p' hp'

theorem r_lim (B : Base w.params mg mb gB) {Ed Ed' M : List (Int × Int)} {H : GA} (R : Room A 40 200) (I : FIn gB O L m S tr s) (hnt : ∀ p ∈ tr, NT p.2) (F : LawS prog w gB L S m Ed M H) {a1 a2 : Addr} {o1 o2 : Obj} {xs ys : List Nat} (h1 : S a1 o1) (h2 : S a2 o2)
    (hI1 : ISet (ledOf w) (bits xs) o1) (hI2 : ISet (ledOf w) (bits ys) o2) (hx : ∀ x ∈ xs, x < 4) (hy : ∀ x ∈ ys, x < 4)
    (hEd : (Ed.filter fun x => ((stI (bits xs)).any fun i => decide (x.1 = (i : Int))) && ((stI (bits ys)).any fun i => decide (x.2 = (i : Int)))) = Ed') {Q : Value → Shared → Prop} {E : Value → Shared → Prop}
    (h : ∀ s' S' (H' : GA) es n oed, (∀ a o, S a o → S' a o) → FIn gB O L m S' tr s' → (∃ sl, S' H'.x ⟨.ref 199, some H'.dx, .plain, sl⟩) → S' H'.dx (dictOf es n) → FldO es H'.flds → S' H'.ed oed → EdD prog w S' oed Ed' → gB.objs.size ≤ H'.ed → Q (.ref H'.x) s') :
    wpAny (model prog w) A (call (.ref 196) [.ref H.x, .ref a1, .ref a2]) Q E s := by
  refine xa1_1 (F.gx) fun sl hgx => ?_
  refine xa2_2 (F.gd) fun esg ng hgd hgf => ?_
  refine xa1_2 (F.ge) fun oed hge hED => ?_
  have z7 := F.ok.len
  have hb1 : bits xs < 16 := bits_lt _ 0 (by decide) hx
  have hb2 : bits ys < 16 := bits_lt _ 0 (by decide) hy
  refine lim_spec B ⟨sl, hgx⟩ hgd hgf hge hED F.gn F.ok.small (by exact Mine.oL ‹_› (by exact rfl)) F.ok.nd h1 h2 (hI1.setO hb1) (hI2.setO hb2) R.mono I.pre (fun a o z => ⟨(I.st a o z).1, (I.st a o z).2.2.1⟩) fun s' S' H' es n oe ol or' og ls P g1 g2 hf hG hn g5 g6 g7 => ?_
  walk_at "q"
  rw [hEd] at hG
  refine xa1_5 (I.newgraph hnt P g1 g2 hn g5 g6 g7) fun S₂ b1 b2 b3 b4 I₂ => ?_
  refine xa1_3 (FIn.settleAll _ _ I₂) fun S₃ d1 d2 I₃ => ?_
  exact h s' S₃ H' es n oe (fun a o z => d1 _ _ (b1 _ _ z)) I₃ ⟨_, d1 _ _ b3⟩ (d1 _ _ b4) hf (d2 _ (.head _)) (hG.ed.only.mono fun a o z => d1 _ _ (b2 _ _ z)) (g6 H'.ed (by simp)).1

inductive LwI (prog : Program) (w : World) (gB : Heap) (S : Addr → Obj → Prop) (L : Addr) (Ed M : List (Int × Int)) (H : GA) (bh ah : List Int) (nm : Str) (v : Option Value) (m' : Str → Option Value) (S' : Addr → Obj → Prop) (tr : List (Addr × Obj)) : Prop
  | mk (h1 : S = S')
    (h2 : LawS prog w gB L S m' Ed M H)
    (h3 : LawT prog w S m' Ed M)
    (h4 : LawU S L m' bh ah)
    (h5 : m' nm = v)
    (oL' oR' vL' vR')
    (h6 : tr = [(L + 4, oL'), (L + 5, oR')])
    (h7 : oL'.data = .cell vL')
    (h8 : oR'.data = .cell vR') : LwI prog w gB S L Ed M H bh ah nm v m' S' tr

theorem lawH (B : Base w.params mg mb gB) {oL oR : Obj} {vL vR : Option Value} {Ed M : List (Int × Int)} {H : GA} {bh ah : List Int} (R : Room A 41 203)
    (I : FIn gB O L m S [(L + 4, oL), (L + 5, oR)] s) (dL : oL.data = .cell vL) (dR : oR.data = .cell vR) (F : LawS prog w gB L S m Ed M H) (G : LawT prog w S m Ed M) (U : LawU S L m bh ah)
    (hok : ∀ l ∈ leftsN Ed, LeftOk Ed M bh l) {Q : Flow → Shared → Prop} {E : Value → Shared → Prop}
    (h : ∀ s' m' oL' oR' vL' vR', FIn gB O L m' S [(L + 4, oL'), (L + 5, oR')] s' → oL'.data = .cell vL' → oR'.data = .cell vR' → LawS prog w gB L S m' Ed M H → LawT prog w S m' Ed M → LawU S L m' bh ah →
      wpAny (model prog w) A (execs ((bodyAt 215).drop 17) (envC 215 L)) Q E s') :
    wpAny (model prog w) A (execs ((bodyAt 215).drop 16) (envC 215 L)) Q E s := by
  have Un := R.un
  have Rr : Room A 40 200 := R.mono
  refine xa3_3 (G.lf) fun ql lv lc hml hSl hlv => ?_
  have hll := hlv.length
  have z4 := leftsN_len Ed
  have z5 := rightsN_len Ed
  refine wpAny_execs_cons (r_for_listP (gB := gB) (O := O) (L := L) R.hh (r_loc I hml ?_))
  walk_at "q"
  refine ⟨ql, lv, _, _, _, fun _ => LwI prog w gB S L Ed M H bh ah "lefts" (m "lefts"),
    rfl, I, ?_, ⟨rfl, F, G, U, rfl, oL, oR, vL, vR, rfl, dL, dR⟩, ?_, ?_⟩
  · intro k m S' tr hp11
    obtain ⟨he12, _⟩ := hp11
    obtain rfl := he12
    exact ⟨_, hSl, lstO _ _⟩
  · intro it k m' S' tr s₄ io hk hp13 hio I
    obtain ⟨he14, F, G, U, hmm, oL, oR, vL, vR, he15, dL, dR⟩ := hp13
    obtain rfl := he14
    obtain rfl := he15
    obtain ⟨l, hl, t, ht⟩ := hlv.getD hk .none
    rw [ht]
    have hml : m' "lefts" = some (.ref ql) := hmm.trans hml
    refine xa3_3 (G.rt) fun qo ov oc hmo hSo hov => ?_
    refine xa3_3 (U.bh) fun qb bv bc hmb hSb hbv => ?_
    refine xa4_4 (U.ah) fun oA qh hv hc hSA dA hSh hhv => ?_
    refine xa1_2 (hok l (List.mem_of_getElem? hl)) fun M' hM' hdec => ?_
    refine xa1_1 (F.ms) fun tsz hsz => ?_
    refine xa1_1 (F.gx) fun sl hgx => ?_
    refine xa2_2 (F.gd) fun esg ng hgd hgf => ?_
    have zM' : M'.length ≤ 100 := by obtain ⟨σ, _, _, a3, rfl⟩ := hM'; rw [List.length_map]; exact a3
    refine wpAny_assign_Name (r_cellSt I (c215l L) (i := 1) rfl dL fun s₅ o' d' I => ?_)
    walk_at "q"
    replace I : FIn gB O L m' S [(it, io), (L + 4, o'), (L + 5, oR)] s₅ := I
    have hnt : ∀ p ∈ [(it, io), (L + 4, o'), (L + 5, oR)], NT p.2 := by
      refine al3 ?_ ?_ ?_
      · exact hio
      · exact NT.cell d'
      · exact NT.cell dR
    refine wpAny_execs_cons (wpAny_Assign_Name (MethodCall_ (r_loc I F.mg (r_meth B I (I.get hgx) (I.get hgd) hgf rfl (m199_limited_to _) ?_)) (eval_callm rfl rfl rfl)))
    refine xa1_2 (show ∃ S' : Addr → Obj → Prop, (∀ {a o}, S a o → S' a o) ∧ FIn gB O L m' S' [(it, io), (L + 4, o'), (L + 5, oR)] s₅ from ⟨S, fun z => z, I⟩) fun S' HS I => ?_
    refine callWith_K B.X (by have := m199_limited_to w.params; simp only [methIn, Bool.and_eq_true] at this; exact this.2) (args_cons (PyProof.Rows.Call_ (r_blt B I (g_set _) (v := .type "set") (by decide +kernel) (by decide) ?_) rfl))
    refine PyProof.Rows.callWith_type1 (args_cons (r_lcList (gB := gB) (cl := [("left", L + 4)]) R.hh (by kernel_rfl) (by decide) rfl (by decide) (r_loc I hml ?_)))
    walk_at "q"
    refine ⟨ql, lv, _, O, L, m', S', _, fun i => ((leftsN Ed)[i]?.map fun (x : Nat) => decide (x ≠ l)).getD false, fun i v _ => ∃ x, (leftsN Ed)[i]? = some x ∧ ∃ t, v = .int ((x : Nat) : Int) t, rfl, I, HS hSl, lstO _ _, by exact Mine.oE ‹_› ‹_› (by exact rfl), fun _ x => x, hnt, ?_, ?_⟩
    · rintro it' C O' m₁ S₁ s₁ E' io' acc ys c' i v hi J hS1 hsrc rfl
      obtain ⟨x, hx, t, ht⟩ := hlv.getD hi .none
      rw [ht]
      refine wpAny_assign_Name (r_st J fun s₂ J => tests1 (wpAny_isTrue_Compare1 (r_loc J rfl (r_cell rfl (J.get (hS1 (L + 4) o' (.inr (by simp)))) d' (PyProof.Rows.ne_int (wpAny_truthy_bool ?_))))))
      walk_at "q"
      refine ⟨?_, fun _ => ⟨_, _, J, fun _ _ q => q⟩, fun _ => r_loc J rfl ⟨_, _, J, fun _ _ q => q, x, hx, t, rfl⟩⟩
      show _ = (((leftsN Ed)[i]?.map fun (x : Nat) => decide (x ≠ l)).getD false)
      rw [hx]
      show (((x : Nat) : Int) != (l : Int)) = decide (x ≠ l)
      rw [Bool.eq_iff_iff]; simp; omega
    intro qs ys c' SS s₆ hSS I hys
    have hys' : Nats ys ((leftsN Ed).filter fun (x : Nat) => decide (x ≠ l)) := by
      have := lc_out (T := fun v (x : Nat) => ∃ t, v = .int (x : Int) t) (l := leftsN Ed) (p := fun (x : Nat) => decide (x ≠ l)) (f := fun x => x) hll hys
      simpa using this
    have hltF : ∀ x ∈ ((leftsN Ed).filter fun (x : Nat) => decide (x ≠ l)), x < 4 := fun x hx => lefts_lt Ed x (List.mem_filter.mp hx).1
    refine xa1_3 (I.settleAt (i := 0) rfl) fun S₂ hS₂ hSq I => ?_
    refine args_nil (r_set_list R.hh I hSq (lstO _ _) hys' hltF fun a1 s₇ o1 ha1 I hI1 => ?_)
    walk_at "q"
    refine xa1_3 (I.settleAt (i := 0) rfl) fun S₃ hS₃ hSa1 I => ?_
    refine args_cons (PyProof.Rows.Call_ (r_blt B I (g_set _) (v := .type "set") (by decide +kernel) (by decide) ?_) rfl)
    have h03 : ∀ a o, S a o → S₃ a o := fun a o z => hS₃ _ _ (hS₂ _ _ (hSS _ _ (HS z)))
    refine PyProof.Rows.callWith_type1 (args_cons (r_loc I hmo (args_nil (r_set_list R.hh I (h03 _ _ hSo) (lstO _ _) hov (rights_lt Ed) fun a2 s₈ o2 ha2 I hI2 => args_nil ⟨B.K I.wd, ?_⟩))))
    refine xa1_3 (I.settleAt (i := 0) rfl) fun S₄ hS₄ hSa2 I => ?_
    have h04 : ∀ a o, S a o → S₄ a o := fun a o z => hS₄ _ _ (h03 _ _ z)
    refine r_lim B Rr I hnt ((F.mono h04 rfl rfl)) (hS₄ _ _ hSa1) hSa2 hI1 hI2 hltF (rights_lt Ed) (limL F.ok l) fun s₉ S₅ H' es n oed hS₅ I gx gd gf ge gE gn => r_st I fun s₁₀ I => ?_
    walk_at "q"
    have h05 : ∀ a o, S a o → S₅ a o := fun a o z => hS₅ _ _ (h04 _ _ z)
    refine xa1_1 (gx) fun slx gx => ?_
    refine wpAny_execs_cons (wpAny_If (wpAny_isTrue_Compare1 (wpAny_Compare1 ?_)))
    walk_at "q"
    refine PyProof.Rows.Call_ (r_blt B I (g_len _) (v := .builtin "len") (by decide +kernel) (by decide) ?_) rfl
    refine callWith_builtin rfl (evalArgs_plain (args_cons (MethodCall_ (r_loc I rfl (r_meth B I (I.get gx) (I.get gd) gf rfl (m199_find_matching _) ?_)) (eval_callm rfl rfl rfl))))
    refine callWith_K0 (B.K I.wd) (by have := m199_find_matching w.params; simp only [methIn, Bool.and_eq_true] at this; exact this.2) ?_
    refine xa1_4 (hM') fun σ q1 q2 q3 q4 => ?_
    refine find_spec B (S := S₅) ⟨slx, gx⟩ gd gf ge gE gn (by have := List.length_filter_le (fun x : Int × Int => decide (x.1 ≠ (l : Int))) Ed; have := F.ok.len; omega) q1 q2 q3 Rr I.pre (fun a o z => ⟨(I.st a o z).1, (I.st a o z).2.2.1⟩) fun s₁₁ d od P hd hod hD => args_nil ?_
    walk_at "q"
    rw [← q4] at hD
    have hdn : gB.objs.size ≤ d := Nat.le_trans I.wd.sz hd
    replace I := I.keepP P
    refine r_lenD I hod hD hdn (by exact Mine.oL ‹_› (by exact rfl)) fun s₁₂ t₁₂ I _ => ?_
    walk_at "q"
    refine r_loc I hsz (PyProof.Rows.eq_int (wpAny_Compare1 (r_cell (c215l L) (I.at (i := 1) rfl) d' (r_loc I hmb (r_inInts (I.get (h05 _ _ hSb)) hbv (PyProof.Rows.ne_bool (wpAny_truthy_bool ?_)))))))
    walk_at "q"
    rw [if_neg (by
      have : ((M'.length : Int) == (M.length : Int)) = decide ((l : Int) ∈ bh) := by rw [← hdec, Bool.eq_iff_iff]; simp; omega
      rw [this]; simp)]
    refine wpAny_execs_nil (wpAny_execs_nil ⟨_, _, _, I.monoS h05, rfl, F.mono (fun _ _ z => z) rfl rfl, G.mono (fun _ _ z => z) rfl rfl rfl, U.mono (fun _ _ z => z) rfl, hmm, _, _, _, _, rfl, d', dR⟩)
  · intro m' S' tr s₄ hp16 I
    obtain ⟨he17, F, G, U, _, oL, oR, vL, vR, he18, dL, dR⟩ := hp16
    obtain rfl := he17
    obtain rfl := he18
    exact h s₄ m' oL oR vL vR I dL dR F G U

theorem lawI (B : Base w.params mg mb gB) {oL oR : Obj} {vL vR : Option Value} {Ed M : List (Int × Int)} {H : GA} {bh ah : List Int} (R : Room A 41 203)
    (I : FIn gB O L m S [(L + 4, oL), (L + 5, oR)] s) (dL : oL.data = .cell vL) (dR : oR.data = .cell vR) (F : LawS prog w gB L S m Ed M H) (G : LawT prog w S m Ed M) (U : LawU S L m bh ah)
    (hok : ∀ l ∈ rightsN Ed, RightOk Ed M ah l) {Q : Flow → Shared → Prop} {E : Value → Shared → Prop}
    (h : ∀ s' m' oL' oR' vL' vR', FIn gB O L m' S [(L + 4, oL'), (L + 5, oR')] s' → oL'.data = .cell vL' → oR'.data = .cell vR' → LawS prog w gB L S m' Ed M H → LawT prog w S m' Ed M → LawU S L m' bh ah →
      wpAny (model prog w) A (execs ((bodyAt 215).drop 18) (envC 215 L)) Q E s') :
    wpAny (model prog w) A (execs ((bodyAt 215).drop 17) (envC 215 L)) Q E s := by
  have Un := R.un
  have Rr : Room A 40 200 := R.mono
  refine xa3_3 (G.rt) fun ql lv lc hml hSl hlv => ?_
  have hll := hlv.length
  have z4 := rightsN_len Ed
  have z5 := leftsN_len Ed
  refine wpAny_execs_cons (r_for_listP (gB := gB) (O := O) (L := L) R.hh (r_loc I hml ?_))
  walk_at "q"
  refine ⟨ql, lv, _, _, _, fun _ => LwI prog w gB S L Ed M H bh ah "rights" (m "rights"),
    rfl, I, ?_, ⟨rfl, F, G, U, rfl, oL, oR, vL, vR, rfl, dL, dR⟩, ?_, ?_⟩
  · intro k m S' tr hp19
    obtain ⟨he20, _⟩ := hp19
    obtain rfl := he20
    exact ⟨_, hSl, lstO _ _⟩
  · intro it k m' S' tr s₄ io hk hp21 hio I
    obtain ⟨he22, F, G, U, hmm, oL, oR, vL, vR, he23, dL, dR⟩ := hp21
    obtain rfl := he22
    obtain rfl := he23
    obtain ⟨l, hl, t, ht⟩ := hlv.getD hk .none
    rw [ht]
    have hml : m' "rights" = some (.ref ql) := hmm.trans hml
    refine xa3_3 (G.lf) fun qo ov oc hmo hSo hov => ?_
    refine xa3_3 (U.bh) fun qb bv bc hmb hSb hbv => ?_
    refine xa4_4 (U.ah) fun oA qh hv hc hSA dA hSh hhv => ?_
    refine xa1_2 (hok l (List.mem_of_getElem? hl)) fun M' hM' hdec => ?_
    refine xa1_1 (F.ms) fun tsz hsz => ?_
    refine xa1_1 (F.gx) fun sl hgx => ?_
    refine xa2_2 (F.gd) fun esg ng hgd hgf => ?_
    have zM' : M'.length ≤ 100 := by obtain ⟨σ, _, _, a3, rfl⟩ := hM'; rw [List.length_map]; exact a3
    refine wpAny_assign_Name (r_cellSt I (c215r L) (i := 2) rfl dR fun s₅ o' d' I => ?_)
    walk_at "q"
    replace I : FIn gB O L m' S [(it, io), (L + 4, oL), (L + 5, o')] s₅ := I
    have hnt : ∀ p ∈ [(it, io), (L + 4, oL), (L + 5, o')], NT p.2 := by
      refine al3 ?_ ?_ ?_
      · exact hio
      · exact NT.cell dL
      · exact NT.cell d'
    refine wpAny_execs_cons (wpAny_Assign_Name (MethodCall_ (r_loc I F.mg (r_meth B I (I.get hgx) (I.get hgd) hgf rfl (m199_limited_to _) ?_)) (eval_callm rfl rfl rfl)))
    refine xa1_2 (show ∃ S' : Addr → Obj → Prop, (∀ {a o}, S a o → S' a o) ∧ FIn gB O L m' S' [(it, io), (L + 4, oL), (L + 5, o')] s₅ from ⟨S, fun z => z, I⟩) fun S' HS I => ?_
    refine callWith_K B.X (by have := m199_limited_to w.params; simp only [methIn, Bool.and_eq_true] at this; exact this.2) (args_cons (PyProof.Rows.Call_ (r_blt B I (g_set _) (v := .type "set") (by decide +kernel) (by decide) ?_) rfl))
    refine PyProof.Rows.callWith_type1 (args_cons (r_loc I hmo (args_nil (r_set_list R.hh I (HS hSo) (lstO _ _) hov (lefts_lt Ed) fun a1 s₇ o1 ha1 I hI1 => ?_))))
    walk_at "q"
    refine xa1_3 (I.settleAt (i := 0) rfl) fun S' hS' hSa1 I => ?_
    replace HS : ∀ {a o}, S a o → S' a o := fun z => hS' _ _ (HS z)
    refine args_cons (PyProof.Rows.Call_ (r_blt B I (g_set _) (v := .type "set") (by decide +kernel) (by decide) ?_) rfl)
    refine PyProof.Rows.callWith_type1 (args_cons (r_lcList (gB := gB) (cl := [("right", L + 5)]) R.hh (by kernel_rfl) (by decide) rfl (by decide) (r_loc I hml ?_)))
    walk_at "q"
    refine ⟨ql, lv, _, O, L, m', S', _, fun i => ((rightsN Ed)[i]?.map fun (x : Nat) => decide (x ≠ l)).getD false, fun i v _ => ∃ x, (rightsN Ed)[i]? = some x ∧ ∃ t, v = .int ((x : Nat) : Int) t, rfl, I, HS hSl, lstO _ _, by exact Mine.oE ‹_› ‹_› (by exact rfl), fun _ x => x, hnt, ?_, ?_⟩
    · rintro it' C O' m₁ S₁ s₁ E' io' acc ys c' i v hi J hS1 hsrc rfl
      obtain ⟨x, hx, t, ht⟩ := hlv.getD hi .none
      rw [ht]
      refine wpAny_assign_Name (r_st J fun s₂ J => tests1 (wpAny_isTrue_Compare1 (r_loc J rfl (r_cell rfl (J.get (hS1 (L + 5) o' (.inr (by simp)))) d' (PyProof.Rows.ne_int (wpAny_truthy_bool ?_))))))
      walk_at "q"
      refine ⟨?_, fun _ => ⟨_, _, J, fun _ _ q => q⟩, fun _ => r_loc J rfl ⟨_, _, J, fun _ _ q => q, x, hx, t, rfl⟩⟩
      show _ = (((rightsN Ed)[i]?.map fun (x : Nat) => decide (x ≠ l)).getD false)
      rw [hx]
      show (((x : Nat) : Int) != (l : Int)) = decide (x ≠ l)
      rw [Bool.eq_iff_iff]; simp; omega
    intro qs ys c' SS s₆ hSS I hys
    have hys' : Nats ys ((rightsN Ed).filter fun (x : Nat) => decide (x ≠ l)) := by
      have := lc_out (T := fun v (x : Nat) => ∃ t, v = .int (x : Int) t) (l := rightsN Ed) (p := fun (x : Nat) => decide (x ≠ l)) (f := fun x => x) hll hys
      simpa using this
    have hltF : ∀ x ∈ ((rightsN Ed).filter fun (x : Nat) => decide (x ≠ l)), x < 4 := fun x hx => rights_lt Ed x (List.mem_filter.mp hx).1
    refine xa1_3 (I.settleAt (i := 0) rfl) fun S₂ hS₂ hSq I => ?_
    refine args_nil (r_set_list R.hh I hSq (lstO _ _) hys' hltF fun a2 s₈ o2 ha2 I hI2 => args_nil ⟨B.K I.wd, ?_⟩)
    refine xa1_3 (I.settleAt (i := 0) rfl) fun S₄ hS₄ hSa2 I => ?_
    have h04 : ∀ a o, S a o → S₄ a o := fun a o z => hS₄ _ _ (hS₂ _ _ (hSS _ _ (HS z)))
    refine r_lim B Rr I hnt ((F.mono h04 rfl rfl)) (hS₄ _ _ (hS₂ _ _ (hSS _ _ hSa1))) hSa2 hI1 hI2 (lefts_lt Ed) hltF (limR F.ok l) fun s₉ S₅ H' es n oed hS₅ I gx gd gf ge gE gn => r_st I fun s₁₀ I => ?_
    walk_at "q"
    have h05 : ∀ a o, S a o → S₅ a o := fun a o z => hS₅ _ _ (h04 _ _ z)
    refine xa1_1 (gx) fun slx gx => ?_
    refine wpAny_execs_cons (wpAny_If (wpAny_isTrue_Compare1 (wpAny_Compare1 ?_)))
    walk_at "q"
    refine PyProof.Rows.Call_ (r_blt B I (g_len _) (v := .builtin "len") (by decide +kernel) (by decide) ?_) rfl
    refine callWith_builtin rfl (evalArgs_plain (args_cons (MethodCall_ (r_loc I rfl (r_meth B I (I.get gx) (I.get gd) gf rfl (m199_find_matching _) ?_)) (eval_callm rfl rfl rfl))))
    refine callWith_K0 (B.K I.wd) (by have := m199_find_matching w.params; simp only [methIn, Bool.and_eq_true] at this; exact this.2) ?_
    refine xa1_4 (hM') fun σ q1 q2 q3 q4 => ?_
    refine find_spec B (S := S₅) ⟨slx, gx⟩ gd gf ge gE gn (by have := List.length_filter_le (fun x : Int × Int => decide (x.2 ≠ (l : Int))) Ed; have := F.ok.len; omega) q1 q2 q3 Rr I.pre (fun a o z => ⟨(I.st a o z).1, (I.st a o z).2.2.1⟩) fun s₁₁ d od P hd hod hD => args_nil ?_
    walk_at "q"
    rw [← q4] at hD
    have hdn : gB.objs.size ≤ d := Nat.le_trans I.wd.sz hd
    replace I := I.keepP P
    refine r_lenD I hod hD hdn (by exact Mine.oL ‹_› (by exact rfl)) fun s₁₂ t₁₂ I _ => ?_
    walk_at "q"
    refine r_loc I hsz (PyProof.Rows.eq_int (wpAny_Compare1 (wpAny_BinOp (wpAny_Constant_int (r_cell (c215r L) (I.at (i := 2) rfl) d' (PyProof.Rows.add_int (r_cell (c215a L) (I.get (h05 _ _ hSA)) dA (r_inInts (I.get (h05 _ _ hSh)) hhv (PyProof.Rows.ne_bool (wpAny_truthy_bool ?_))))))))))
    walk_at "q"
    replace I := I.toks (s₁₂.toks + 1 + 1)
    rw [if_neg (by
      have : ((M'.length : Int) == (M.length : Int)) = decide (10 + (l : Int) ∈ ah) := by rw [← hdec, Bool.eq_iff_iff]; simp; omega
      rw [this]; simp)]
    refine wpAny_execs_nil (wpAny_execs_nil ⟨_, _, _, I.monoS h05, rfl, F.mono (fun _ _ z => z) rfl rfl, G.mono (fun _ _ z => z) rfl rfl rfl, U.mono (fun _ _ z => z) rfl, hmm, _, _, _, _, rfl, dL, d'⟩)
  · intro m' S' tr s₄ hp24 I
    obtain ⟨he25, F, G, U, _, oL, oR, vL, vR, he26, dL, dR⟩ := hp24
    obtain rfl := he25
    obtain rfl := he26
    exact h s₄ m' oL oR vL vR I dL dR F G U
end
end Mine
end
section
open PySem PySem.W PySem.Calls PyProof.Rows
open Sem (wp)
namespace Mine
noncomputable def LawOk (Ed : List (Int × Int)) : Prop :=
  ∃ M bh ah, FindOk Ed M ∧ (∀ p ∈ M, p ∈ Ed) ∧ (M.map (·.2)).Nodup ∧ loopR (arrowsOf Ed M) 20 0 (freeL Ed M) = some bh ∧ loopR (turnA (arrowsOf Ed M)) 20 0 (freeR Ed M) = some ah ∧
    bh.length ≤ 900 ∧ (∀ x ∈ bh, x ∉ ah) ∧ (∀ e ∈ Ed, EdgeOk Ed M bh ah e) ∧ (∀ l ∈ leftsN Ed, LeftOk Ed M bh l) ∧ (∀ r ∈ rightsN Ed, RightOk Ed M ah r)
section
variable {prog : Program} {w : World} {gB : Heap} {mg mb : Str → Option Value} {S : Addr → Obj → Prop}

theorem law_spec (B : Base w.params mg mb gB) {script : List Int} {sc : Addr} {osc : Obj} {scv : List Value} (hsc : S sc osc) (hso : LstO scv osc) (hsi : IntsAre scv script) (hz : script.length ≤ 1000) (hok : LawOk (edgesOf script))
    {A : Around} {s : Shared} {Q : Value → Shared → Prop} {E : Value → Shared → Prop} (R : Room A 42 206) (W : Pre gB s) (hS : ∀ a o, S a o → s.heap.get? a = some o ∧ a ∉ tabP)
    (hQ : ∀ s', Post gB [] s s' → Q (.bool true) s') : wpAny (model prog w) A (call (.ref 215) [.ref sc]) Q E s := by
  refine xa3_10 (hok) fun M bh ah f1 f2 f3 f4 f5 f6 f7 f8 f9 f10 => ?_
  have D := at215 w.params
  refine call_cells B W (f := 215) (fd := fnAt 215) (body := bodyAt 215) (binds := [("script", .ref sc)]) [] (fun _ h => nomatch h) List.nodup_nil D.k D.b D.c R.depth (by kernel_rfl) (by kernel_rfl) ?_ (fun s₁ L hL I hold hcell => ?_) D.co D.gen D.kd
  · intro L
    refine al1 ?_
    left; kernel_rfl
  have hlt : ∀ a o, Froz L [] s a o → a < L := fun a o h => by rw [hL]; exact Heap.lt_size h.1
  have hF : ∀ a o, S a o → Froz L [] s a o := fun a o h => Froz.of hL (hS a o h).1 (hS a o h).2 (by simp)
  obtain ⟨_, o1, h1, d1⟩ := hcell "edges" (L + 1) (by kernel_rfl)
  obtain ⟨_, o2, h2, d2⟩ := hcell "matching" (L + 2) (by kernel_rfl)
  obtain ⟨_, o3, h3, d3⟩ := hcell "taken" (L + 3) (by kernel_rfl)
  obtain ⟨_, o4, h4, d4⟩ := hcell "left" (L + 4) (by kernel_rfl)
  obtain ⟨_, o5, h5, d5⟩ := hcell "right" (L + 5) (by kernel_rfl)
  obtain ⟨_, o6, h6, d6⟩ := hcell "ahead" (L + 6) (by kernel_rfl)
  replace d1 : o1.data = .cell none := d1.trans (by kernel_rfl)
  replace d2 : o2.data = .cell none := d2.trans (by kernel_rfl)
  replace d3 : o3.data = .cell none := d3.trans (by kernel_rfl)
  replace d4 : o4.data = .cell none := d4.trans (by kernel_rfl)
  replace d5 : o5.data = .cell none := d5.trans (by kernel_rfl)
  replace d6 : o6.data = .cell none := d6.trans (by kernel_rfl)
  have hm : bindL (callEnvC (fnAt 215) L 215).kindOf [("script", .ref sc)] (fun _ => none) "script" = some (.ref sc) := by kernel_rfl
  have gL := I.lL
  have nn : ∀ i j : Nat, i ≠ j → (L + i : Nat) ≠ L + j := fun i j h e => h (by omega)
  have g : ∀ i : Nat, gB.objs.size ≤ L + i := fun i => Nat.le_trans gL (Nat.le_add_right _ _)
  refine xa1_3 (show ∃ T : Addr → Obj → Prop, (∀ a o, Froz L [] s a o → T a o) ∧ True ∧ FIn gB (og s) L (bindL (callEnvC (fnAt 215) L 215).kindOf [("script", .ref sc)] (fun _ => none)) T [(L + 1, o1), (L + 2, o2), (L + 3, o3), (L + 4, o4), (L + 5, o5), (L + 6, o6)] s₁ from by
    have I6 := I.unsettle h6 (g 6)
    have I5 := I6.unsettle (c := L + 5) (o := o5) ⟨h5, nn 5 6 (by decide)⟩ (g 5)
    have I4 := I5.unsettle (c := L + 4) (o := o4) ⟨⟨h4, nn 4 6 (by decide)⟩, nn 4 5 (by decide)⟩ (g 4)
    have I3 := I4.unsettle (c := L + 3) (o := o3) ⟨⟨⟨h3, nn 3 6 (by decide)⟩, nn 3 5 (by decide)⟩, nn 3 4 (by decide)⟩ (g 3)
    have I2 := I3.unsettle (c := L + 2) (o := o2) ⟨⟨⟨⟨h2, nn 2 6 (by decide)⟩, nn 2 5 (by decide)⟩, nn 2 4 (by decide)⟩, nn 2 3 (by decide)⟩ (g 2)
    have I1 := I2.unsettle (c := L + 1) (o := o1) ⟨⟨⟨⟨⟨h1, nn 1 6 (by decide)⟩, nn 1 5 (by decide)⟩, nn 1 4 (by decide)⟩, nn 1 3 (by decide)⟩, nn 1 2 (by decide)⟩ (g 1)
    refine ⟨_, fun a o h => ?_, trivial, I1⟩
    have hl := hlt a o h
    have hne : ∀ i : Nat, a ≠ L + i := fun i e => by rw [e] at hl; exact absurd hl (Nat.not_lt.mpr (Nat.le_add_right _ _))
    exact ⟨⟨⟨⟨⟨⟨hold a o h, hne 6⟩, hne 5⟩, hne 4⟩, hne 3⟩, hne 2⟩, hne 1⟩) fun T hT1 hT I => ?_
  have R' : Room (A.deeper (callEnvC (fnAt 215) L 215)) 41 203 := R.deeper (d := 41) (u := 203) _
  have hEd := edges_ok script
  refine lawA B R'.mono I d1 hm (hT1 _ _ (hF _ _ hsc)) hso hsi hz fun s₂ m₂ S₂ oE q items c k2 I hSe hE hq hP => ?_
  refine lawB B R'.mono I (by
    refine al5 ?_ ?_ ?_ ?_ ?_
    · exact NT.cell d2
    · exact NT.cell d3
    · exact NT.cell d4
    · exact NT.cell d5
    · exact NT.cell d6) hSe hE hq hP hEd fun s₃ m₃ S₃ H es n oed k3 I hmg hgx hgd hgf hge hgE hgn => ?_
  refine lawC B R' I d2 d3 (k3 _ _ hSe) hE (k3 _ _ hq) (hP.mono fun _ _ z => z.mono k3) hEd hmg hgx hgd hgf hge hgE hgn f1 fun s₄ m₄ S₄ k4 I F => ?_
  refine lawD B R' I (nt3 d4 d5 d6) F f2 f3 fun s₅ m₅ S₅ k5 I F => ?_
  refine lawE1 B R' I (nt3 d4 d5 d6) F fun s₆ m₆ S₆ ql lv lc k6 I F hml hSl hlv => ?_
  refine lawE2 B R' I (nt3 d4 d5 d6) F hml fun s₇ m₇ S₇ qr rv rc k7 I F hml hmr hSr hrv => ?_
  refine lawE3 (vA := none) B R' I d4 d5 F hml hmr fun s₈ m₈ S₈ qa av ac oL oR vL vR k8 I dL dR F hml hmr hma hSa hav => ?_
  have G : LawT prog w S₈ m₈ (edgesOf script) M := ⟨⟨ql, lv, lc, hml, k8 _ _ (k7 _ _ hSl), hlv⟩, ⟨qr, rv, rc, hmr, k8 _ _ hSr, hrv⟩, ⟨qa, av, ac, hma, hSa, hav⟩⟩
  refine lawF1 B R' I dL dR d6 F G f4 fun s₉ m₉ S₉ qb bv bc k9 I F G hmb hSb hbv => ?_
  refine lawF2 B R' I dL dR d6 F G f5 hmb fun s₁₀ m₁₀ S₁₀ qh hv hc oA k10 I F G hmb hSA dA hSh hhv => ?_
  have U : LawU S₁₀ L m₁₀ bh ah := ⟨⟨qb, bv, bc, hmb, k10 _ _ hSb, hbv⟩, ⟨oA, qh, hv, hc, hSA, dA, hSh, hhv⟩⟩
  refine lawF3 B R' I dL dR F G U f6 f7 fun s₁₁ I => ?_
  refine lawG B R' I dL dR F G U f8 fun s₁₂ m₁₂ oL oR vL vR I dL dR F G U => ?_
  refine lawH B R' I dL dR F G U f9 fun s₁₃ m₁₃ oL oR vL vR I dL dR F G U => ?_
  refine lawI B R' I dL dR F G U f10 fun s₁₄ m₁₄ oL oR vL vR I dL dR F G U => ?_
  refine wpAny_execs_cons (wpAny_Return_some (wpAny_Constant_bool ?_))
  walk_at "q"
  exact ⟨⟨_, _, _, I, fun a o z => k10 _ _ (k9 _ _ (k8 _ _ (k7 _ _ (k6 _ _ (k5 _ _ (k4 _ _ (k3 _ _ (k2 _ _ (hT1 a o z)))))))))⟩, fun P => hQ _ P⟩
end
end Mine
end
section
open PySem PySem.W PySem.Calls PyProof.Rows
open Sem (wp)
namespace Mine
set_option linter.unusedSectionVars false
theorem hd97 (P : Params) : codeHdIn (KH P) 97 93 = true := by kernel_rfl
theorem hd174 (P : Params) : codeHdIn (KH P) 174 170 = true := by kernel_rfl
theorem hd181 (P : Params) : codeHdIn (KH P) 181 177 = true := by kernel_rfl
theorem hd188 (P : Params) : codeHdIn (KH P) 188 184 = true := by kernel_rfl
theorem hd195 (P : Params) : codeHdIn (KH P) 195 191 = true := by kernel_rfl
theorem noTabsK (P : Params) : noTabs (KH P) = true := by kernel_rfl
theorem gLaw (P : Params) : nsIn (KH P) mainGlobals "law" = some (some (.ref 215)) := by kernel_rfl
section
variable {prog : Program} {w : World} {mg mb : Str → Option Value} {s : Shared}
theorem tabs_at (KX : (KH w.params).In s.heap) (hT : ∀ P ∈ [93, 170, 177, 184, 191], s.heap.get? P = some (tabObj #[])) : TabsAt tabs s.heap := by
  intro q hq
  simp only [tabs, List.mem_cons, List.not_mem_nil, or_false] at hq
  rcases hq with rfl | rfl | rfl | rfl | rfl
  · exact ⟨codeHd_of_K KX (hd97 _), hT _ (by decide)⟩
  · exact ⟨codeHd_of_K KX (hd174 _), hT _ (by decide)⟩
  · exact ⟨codeHd_of_K KX (hd181 _), hT _ (by decide)⟩
  · exact ⟨codeHd_of_K KX (hd188 _), hT _ (by decide)⟩
  · exact ⟨codeHd_of_K KX (hd195 _), hT _ (by decide)⟩
theorem codeAll_mem {h : Heap} : ∀ {tabs : List (Addr × Addr)}, CodeAll tabs h → ∀ q ∈ tabs, CodeHd h q.1 q.2
  | [], _, _, hq => nomatch hq
  | _ :: _, x, q, hq => by
    rcases List.mem_cons.mp hq with rfl | hq
    · exact x.1
    · exact codeAll_mem x.2 q hq

theorem law_top {p : Program} {loose : List Str} {mean : ExcName → Option Value} (KX : (KH w.params).In s.heap) (hT8 : ∀ P ∈ [93, 170, 177, 184, 191], s.heap.get? P = some (tabObj #[])) (T : Top p loose mean mg mb s.heap) (hg : s.gens = #[])
    {fa l : Addr} {vs : List Value} {script : List Int} (hmg : mg "law" = some (.ref fa)) (hL : s.heap.IsList l vs.toArray) (hI : IntsAre vs script) (hz : script.length ≤ 1000) (hok : LawOk (edgesOf script)) {Q : Value → Shared → Prop} {E : Value → Shared → Prop}
    (hQ : ∀ s', OldK s.heap s'.heap → s'.os = s.os → AllBare s'.gens → Q (.bool true) s') : wpAny (model prog w) callerA (call (.ref fa) [.ref l]) Q E s := by
  have hT := tabs_at KX hT8
  have GT := ghost_top hT T
  have hfa : fa = 215 := by
    have := mg_of KX T.g (gLaw w.params)
    rw [this] at hmg
    injection hmg with e; injection e with e; exact e.symm
  subst hfa
  have hsub : ∀ q ∈ tabP, q ∈ tabs.map (·.2) := by decide
  have B : Base w.params mg mb (ghostOf s.heap tabs) :=
    { X := ghost_K hT KX (noTabsK _), g := GT.g, b := GT.b, nl := GT.nolimit, bu := T.builtins, C := codeAll_mem (ghost_code hT), hid := fun q hq => hideAll_none _ (hsub q hq), bi := GT.bmain }
  have h215 : (215 : Nat) < s.heap.objs.size := Heap.lt_size (KX _ _ (at215 w.params).k)
  have hps : ∀ q ∈ tabP, s.heap.get? q = some (tabObj #[]) := fun q hq => hT8 q (by simpa [tabP] using hq)
  have W : Pre (ghostOf s.heap tabs) s := ⟨⟨fun b o e => of_hideAll _ e, fun q hq => ⟨#[], hps q hq, trivial⟩, Nat.le_of_eq (hideAll_size _ _), by rw [hideAll_size]; exact h215⟩, AllBare.of_eq hg⟩
  obtain ⟨ol, hol, hoc, n, hod⟩ := hL
  have hlt : l ∉ tabP := fun e => by
    have := hps l e
    rw [hol] at this
    injection this with this
    rw [this] at hoc; cases hoc
  refine law_spec B (S := fun a o => a = l ∧ o = ol) (sc := l) (osc := ol) (scv := vs) ⟨rfl, rfl⟩ ⟨hoc, n, hod⟩ hI hz hok ⟨rfl, by decide +kernel, by decide +kernel⟩ W (fun a o h => by obtain ⟨rfl, rfl⟩ := h; exact ⟨hol, hlt⟩) fun s' P => hQ s' ?_ P.os.1 P.bare
  refine ⟨fun b o e => ?_, fun b o e => ?_⟩
  · by_cases hb : b ∈ tabP
    · obtain ⟨ps, h1, _⟩ := P.wd.tb b hb
      have he : o = tabObj #[] := Option.some.inj (e.symm.trans (hps b hb))
      subst he
      obtain ⟨q, hq, rfl⟩ := List.mem_map.mp (hsub b hb)
      exact .inr (.inl ⟨((hT q hq).1.tab (hT q hq).2).isCodeTable, rfl, #[], ps, rfl, by rw [h1]; simp⟩)
    · exact .inl (P.kp b o e (by simp) hb)
  · by_cases hb : b ∈ tabP
    · obtain ⟨ps, h1, _⟩ := P.wd.tb b hb
      exact ⟨_, h1⟩
    · exact ⟨o, P.kp b o e (by simp) hb⟩
end
end Mine
end
section
namespace Mine
section
variable {K : Type} [DecidableEq K]
noncomputable def Ad (adj : List (K × List K)) (l r : K) : Prop := ∃ rs, get adj l = some rs ∧ r ∈ rs
structure Inv (adj : List (K × List K)) (pl pr : List (K × K)) : Prop where
  inv : ∀ l r, get pl l = some r ↔ get pr r = some l
  ad : ∀ l r, get pl l = some r → Ad adj l r
  nd : (pl.map (·.1)).Nodup
noncomputable def DsOk (adj : List (K × List K)) (ds : List (K × Int)) : Prop := ∀ l, (get adj l).isSome → (get ds l).isSome
inductive Good (adj : List (K × List K)) (pr : List (K × K)) (rf : Int) (ds : List (K × Int)) : K → Prop
  | leaf {y : K} {d : Int} {r : K} : get ds y = some d → Ad adj y r → get pr r = none → rf = d + 1 → Good adj pr rf ds y
  | step {y : K} {d : Int} {r o : K} : get ds y = some d → Ad adj y r → get pr r = some o → get ds o = some (d + 1) → Good adj pr rf ds o → Good adj pr rf ds y
variable {adj : List (K × List K)} {rf : Int}
theorem Good.move {pr : List (K × K)} {ds ds' : List (K × Int)} (h : ∀ y, Good adj pr rf ds y → get ds' y = get ds y) {y : K} (g : Good adj pr rf ds y) : Good adj pr rf ds' y := by
  induction g with
  | leaf a b c e => exact .leaf ((h _ (.leaf a b c e)).trans a) b c e
  | step a b c e g ih => exact .step ((h _ (.step a b c e g)).trans a) b c ((h _ g).trans e) ih

noncomputable def LeD (ds : List (K × Int)) (d : Int) (y : K) : Prop := ∀ x, get ds y = some x → x ≤ d

structure Aug (adj : List (K × List K)) (d : Int) (l : K) (σ σ' : HK K) : Prop where
  a1 : ∀ l', l' ≠ l → LeD σ.ds d l' → get σ'.pl l' = get σ.pl l'
  a2 : ∀ r l', get σ.pr r = some l' → LeD σ.ds d l' → get σ'.pr r = get σ.pr r
  a3 : ∀ l' r, get σ.pl l ≠ some r → (get σ'.pl l' = some r ↔ get σ'.pr r = some l')
  a4 : ∀ l' r, get σ.pl l = some r → get σ'.pl l' ≠ some r
  a5 : ∀ l' r, get σ'.pl l' = some r → Ad adj l' r
  a6 : (σ'.pl.map (·.1)).Nodup
  a7 : ∀ l', (get σ'.pl l').isSome = true ↔ ((get σ.pl l').isSome = true ∨ l' = l)

structure Res (adj : List (K × List K)) (rf d : Int) (l : K) (σ : HK K) (b : Bool) (σ' : HK K) : Prop where
  s1 : ∀ y, y ≠ l → LeD σ.ds d y → get σ'.ds y = get σ.ds y
  s3 : ∀ y x, get σ'.ds y = some x → x = -1 ∨ get σ.ds y = some x
  s4 : ∀ y, (get σ'.ds y).isSome = (get σ.ds y).isSome
  no : b = false → σ'.pl = σ.pl ∧ σ'.pr = σ.pr ∧ (∀ y, Good adj σ.pr rf σ.ds y → get σ'.ds y = get σ.ds y) ∧ ¬ Good adj σ.pr rf σ.ds l
  yes : b = true → Aug adj d l σ σ'

noncomputable def DfsSpec (adj : List (K × List K)) (rf D d : Int) (self : K → HK K → Option (Bool × HK K)) : Prop :=
  ∀ o σ, Inv adj σ.pl σ.pr → DsOk adj σ.ds → (get adj o).isSome → get σ.ds o = some d → (∀ y x, get σ.ds y = some x → x ≤ D) → ∃ b σ', self o σ = some (b, σ') ∧ Res adj rf d o σ b σ'

theorem aug_leaf {d : Int} {l r : K} {σ τ : HK K} (h : Inv adj σ.pl σ.pr) (e1 : τ.pl = σ.pl) (e2 : τ.pr = σ.pr) (hr : get σ.pr r = none) (ha : Ad adj l r) : Aug adj d l σ (swapLR τ l r) := by
  have p1 : ∀ l', get (swapLR τ l r).pl l' = if l' = l then some r else get σ.pl l' := fun l' => by
    show get (put τ.pl l r) l' = _; rw [get_put, e1]
  have p2 : ∀ r', get (swapLR τ l r).pr r' = if r' = r then some l else get σ.pr r' := fun r' => by
    show get (put τ.pr r l) r' = _; rw [get_put, e2]
  refine ⟨fun l' hl _ => by rw [p1, if_neg hl], fun r1 l' h1 _ => ?_, fun l' r1 h1 => ?_, fun l' r1 h1 => ?_, fun l' r1 h1 => ?_, ?_, fun l' => ?_⟩
  · rw [p2, if_neg (fun e => by rw [e, hr] at h1; cases h1)]
  · rw [p1, p2]
    by_cases a : l' = l <;> by_cases b : r1 = r
    · subst a b; simp
    · subst a
      rw [if_pos rfl, if_neg b]
      refine ⟨fun e => absurd (Option.some.inj e).symm b, fun e => absurd ((h.inv _ _).mpr e) h1⟩
    · subst b
      rw [if_neg a, if_pos rfl]
      refine ⟨fun e => (by rw [(h.inv _ _).mp e] at hr; cases hr), fun e => absurd (Option.some.inj e).symm a⟩
    · rw [if_neg a, if_neg b]; exact h.inv _ _
  · rw [p1]
    have h2 := (h.inv _ _).mp h1
    split
    · intro e; cases e; rw [h2] at hr; cases hr
    · rename_i a
      intro e
      have := (h.inv _ _).mp e
      rw [h2] at this; exact a (Option.some.inj this).symm
  · rw [p1] at h1
    split at h1
    · rename_i a; cases h1; exact a ▸ ha
    · exact h.ad _ _ h1
  · show ((put τ.pl l r).map (·.1)).Nodup
    rw [e1]; exact put_nodup h.nd l r
  · rw [p1]; split
    · rename_i a; simp [a]
    · rename_i a; simp [a]

theorem aug_step {d : Int} {l r o : K} {σ τ σ₁ : HK K} (h : Inv adj σ.pl σ.pr) (e1 : τ.pl = σ.pl) (e2 : τ.pr = σ.pr) (hr : get σ.pr r = some o) (ha : Ad adj l r)
    (hd : get σ.ds l = some d) (hlow : ∀ y, LeD σ.ds d y → get τ.ds y = get σ.ds y) (ho : get τ.ds o = some (d + 1)) (A : Aug adj (d + 1) o τ σ₁) : Aug adj d l σ (swapLR σ₁ l r) := by
  have p1 : ∀ l', get (swapLR σ₁ l r).pl l' = if l' = l then some r else get σ₁.pl l' := fun l' => by
    show get (put σ₁.pl l r) l' = _; rw [get_put]
  have p2 : ∀ r', get (swapLR σ₁ l r).pr r' = if r' = r then some l else get σ₁.pr r' := fun r' => by
    show get (put σ₁.pr r l) r' = _; rw [get_put]
  have hpo : get σ.pl o = some r := (h.inv _ _).mpr hr
  have hne : ∀ y, LeD σ.ds d y → y ≠ o := fun y hy e => by
    subst e
    have := hy (d + 1) ((hlow y hy).symm.trans ho)
    omega
  have hup : ∀ y, LeD σ.ds d y → LeD τ.ds (d + 1) y := fun y hy x hx => by
    have := hy x ((hlow y hy).symm.trans hx); omega
  have hl : LeD σ.ds d l := fun x hx => by rw [hd] at hx; cases hx; exact Int.le_refl _
  have hll : get σ₁.pl l = get σ.pl l := by rw [A.a1 l (hne l hl) (hup l hl), e1]
  have hor : ∀ r1, r1 ≠ r → get τ.pl o ≠ some r1 := fun r1 q e => by
    rw [e1, hpo] at e; exact q (Option.some.inj e).symm
  refine ⟨fun l' hl' hle => ?_, fun r1 l' h1 hle => ?_, fun l' r1 h1 => ?_, fun l' r1 h1 => ?_, fun l' r1 h1 => ?_, ?_, fun l' => ?_⟩
  · rw [p1, if_neg hl', A.a1 l' (hne l' hle) (hup l' hle), e1]
  · have : r1 ≠ r := fun e => by
      rw [e, hr] at h1; exact hne l' hle (Option.some.inj h1).symm
    rw [p2, if_neg this, A.a2 r1 l' (by rw [e2]; exact h1) (hup l' hle), e2]
  · rw [p1, p2]
    by_cases a : l' = l <;> by_cases b : r1 = r
    · subst a b; simp
    · subst a
      rw [if_pos rfl, if_neg b]
      refine ⟨fun e => absurd (Option.some.inj e).symm b, fun e => ?_⟩
      have := (A.a3 l' r1 (hor r1 b)).mpr e
      rw [hll] at this; exact absurd this h1
    · subst b
      rw [if_neg a, if_pos rfl]
      refine ⟨fun e => absurd e (A.a4 l' r1 (by rw [e1]; exact hpo)), fun e => absurd (Option.some.inj e).symm a⟩
    · rw [if_neg a, if_neg b]; exact A.a3 l' r1 (hor r1 b)
  · have hr1 : r1 ≠ r := fun e => by
      subst e
      have := (h.inv _ _).mp h1
      rw [hr] at this; exact hne l hl (Option.some.inj this).symm
    rw [p1]
    split
    · intro e; exact hr1 (Option.some.inj e).symm
    · rename_i a
      intro e
      have q1 := (A.a3 l' r1 (hor r1 hr1)).mp e
      have q2 := A.a2 r1 l (by rw [e2]; exact (h.inv _ _).mp h1) (hup l hl)
      rw [e2, (h.inv _ _).mp h1, q1] at q2
      exact a (Option.some.inj q2)
  · rw [p1] at h1
    split at h1
    · rename_i a; cases h1; exact a ▸ ha
    · exact A.a5 _ _ h1
  · exact put_nodup A.a6 l r
  · rw [p1]; split
    · rename_i a; simp [a]
    · rename_i a
      rw [A.a7, e1]
      refine ⟨fun q => q.elim .inl fun e => ?_, fun q => q.elim .inl fun e => absurd e a⟩
      rw [e, hpo]; exact .inl rfl

noncomputable def Wit (adj : List (K × List K)) (pr : List (K × K)) (rf d : Int) (ds : List (K × Int)) (r : K) : Prop :=
  (get pr r = none ∧ rf = d + 1) ∨ ∃ o, get pr r = some o ∧ get ds o = some (d + 1) ∧ Good adj pr rf ds o

theorem row_ok {D d : Int} {self : K → HK K → Option (Bool × HK K)} (hself : DfsSpec adj rf D (d + 1) self) (hD : 0 ≤ D) {l : K} {σ : HK K} (h : Inv adj σ.pl σ.pr) (hds : DsOk adj σ.ds) (hd : get σ.ds l = some d) (hb : ∀ y x, get σ.ds y = some x → x ≤ D) (hd0 : 0 ≤ d) :
    ∀ (rs : List K) (τ : HK K), (∀ r ∈ rs, Ad adj l r) → τ.pl = σ.pl → τ.pr = σ.pr → (∀ y, LeD σ.ds d y → get τ.ds y = get σ.ds y) → (∀ y x, get τ.ds y = some x → x = -1 ∨ get σ.ds y = some x) → (∀ y, (get τ.ds y).isSome = (get σ.ds y).isSome) →
      (∀ y, Good adj σ.pr rf σ.ds y → get τ.ds y = get σ.ds y) → (Good adj σ.pr rf σ.ds l → ∃ r ∈ rs, Wit adj σ.pr rf d σ.ds r) →
      ∃ b σ', dfsRow adj rf self l rs τ = some (b, σ') ∧ Res adj rf d l σ b σ' := by
  intro rs
  induction rs with
  | nil =>
    intro τ _ e1 e2 hlow h3 h4 hg hw
    have hng : ¬ Good adj σ.pr rf σ.ds l := fun g => by obtain ⟨r, hr, _⟩ := hw g; cases hr
    refine ⟨false, _, rfl, ⟨fun y hy hle => ?_, fun y x hx => ?_, fun y => ?_, fun _ => ⟨e1, e2, fun y g => ?_, hng⟩, fun e => nomatch e⟩⟩
    · show get (put τ.ds l (-1)) y = _
      rw [get_put_ne _ _ hy]; exact hlow y hle
    · have hx : get (put τ.ds l (-1)) y = some x := hx
      rw [get_put] at hx
      split at hx
      · cases hx; exact .inl rfl
      · exact h3 y x hx
    · show (get (put τ.ds l (-1)) y).isSome = _
      rw [get_put]
      split
      · rename_i e; rw [e, hd]; rfl
      · exact h4 y
    · show get (put τ.ds l (-1)) y = _
      rw [get_put_ne _ _ (fun e => hng (by rw [← e]; exact g))]; exact hg y g
  | cons r rs ih =>
    intro τ hrs e1 e2 hlow h3 h4 hg hw
    have hl : LeD σ.ds d l := fun x hx => by rw [hd] at hx; cases hx; exact Int.le_refl _
    have hdl : get τ.ds l = some d := (hlow l hl).trans hd
    have har := hrs r (.head _)
    have hrs' : ∀ r ∈ rs, Ad adj l r := fun x hx => hrs x (.tail _ hx)
    rw [dfsRow]
    cases hr : get τ.pr r with
    | none =>
      dsimp only
      rw [e2] at hr
      rw [hdl, Option.bind_some]
      by_cases hrf : rf = d + 1
      · rw [if_pos hrf]
        exact ⟨true, _, rfl, ⟨fun y _ hle => hlow y hle, h3, h4, (fun e => nomatch e), fun _ => aug_leaf h e1 e2 hr har⟩⟩
      · rw [if_neg hrf]
        refine ih τ hrs' e1 e2 hlow h3 h4 hg fun g => ?_
        refine xa1_2 (hw g) fun r' hr' hw' => ?_
        rcases List.mem_cons.mp hr' with rfl | hr'
        · rcases hw' with ⟨_, q⟩ | ⟨o, q, _⟩
          · exact absurd q hrf
          · rw [hr] at q; cases q
        · exact ⟨r', hr', hw'⟩
    | some o =>
      dsimp only
      rw [e2] at hr
      have hoa : (get adj o).isSome := by obtain ⟨rs', q, _⟩ := h.ad _ _ ((h.inv _ _).mpr hr); rw [q]; rfl
      refine xa1_1 (Option.isSome_iff_exists.mp ((h4 o).trans (hds o hoa))) fun d'' hd'' => ?_
      rw [hd'', hdl, Option.bind_some, Option.bind_some]
      by_cases hdd : d'' = d + 1
      · rw [if_pos hdd]
        subst hdd
        obtain ⟨b, σ₁, hs, R⟩ := hself o τ (by rw [e1, e2]; exact h) (fun y hy => (h4 y).trans (hds y hy)) hoa hd'' (fun y x hx => by
          rcases h3 y x hx with rfl | q
          · omega
          · exact hb y x q)
        rw [hs, Option.bind_some]
        have hne : ∀ y, LeD σ.ds d y → y ≠ o := fun y hy e => by
          subst e
          have := hy (d + 1) ((hlow y hy).symm.trans hd''); omega
        have hup : ∀ y, LeD σ.ds d y → LeD τ.ds (d + 1) y := fun y hy x hx => by
          have := hy x ((hlow y hy).symm.trans hx); omega
        have n1 : ∀ y, LeD σ.ds d y → get σ₁.ds y = get σ.ds y := fun y hy => (R.s1 y (hne y hy) (hup y hy)).trans (hlow y hy)
        have n3 : ∀ y x, get σ₁.ds y = some x → x = -1 ∨ get σ.ds y = some x := fun y x hx => by
          rcases R.s3 y x hx with q | q
          · exact .inl q
          · exact h3 y x q
        have n4 : ∀ y, (get σ₁.ds y).isSome = (get σ.ds y).isSome := fun y => (R.s4 y).trans (h4 y)
        cases b with
        | true =>
          dsimp only
          rw [if_pos rfl]
          exact ⟨true, _, rfl, ⟨fun y _ hle => n1 y hle, n3, n4, (fun e => nomatch e), fun _ => aug_step h e1 e2 hr har hd hlow hd'' (R.yes rfl)⟩⟩
        | false =>
          dsimp only
          rw [if_neg (by decide)]
          refine xa0_4 (R.no rfl) fun f1 f2 f3 f4 => ?_
          rw [e2] at f3 f4
          refine ih σ₁ hrs' (f1.trans e1) (f2.trans e2) n1 n3 n4 (fun y g => (f3 y (g.move hg)).trans (hg y g)) fun g => ?_
          refine xa1_2 (hw g) fun r' hr' hw' => ?_
          rcases List.mem_cons.mp hr' with rfl | hr'
          · rcases hw' with ⟨q, _⟩ | ⟨o', q, _, go⟩
            · rw [hr] at q; cases q
            · rw [hr] at q; cases q
              exact absurd (go.move hg) f4
          · exact ⟨r', hr', hw'⟩
      · rw [if_neg hdd]
        refine ih τ hrs' e1 e2 hlow h3 h4 hg fun g => ?_
        refine xa1_2 (hw g) fun r' hr' hw' => ?_
        rcases List.mem_cons.mp hr' with rfl | hr'
        · rcases hw' with ⟨q, _⟩ | ⟨o', q, qd, go⟩
          · rw [hr] at q; cases q
          · rw [hr] at q; cases q
            rw [← hg _ go, hd''] at qd
            exact absurd (Option.some.inj qd) hdd
        · exact ⟨r', hr', hw'⟩

theorem dfs_ok {D : Int} (hD : 0 ≤ D) : ∀ (n : Nat) (d : Int), 0 ≤ d → D + 1 ≤ n + d → DfsSpec adj rf D d (dfs adj rf n) := by
  intro n
  induction n with
  | zero =>
    intro d hd0 hn o σ _ _ _ hd hb
    have := hb o d hd
    omega
  | succ n ih =>
    intro d hd0 hn l σ h hds ha hd hb
    refine xa1_1 (Option.isSome_iff_exists.mp ha) fun rs hrs => ?_
    have := row_ok (rf := rf) (ih (d + 1) (by omega) (by omega)) hD h hds hd hb hd0 rs σ (fun r hr => ⟨rs, hrs, hr⟩) rfl rfl (fun _ _ => rfl) (fun _ _ q => .inr q) (fun _ => rfl) (fun _ _ => rfl) (fun g => by
      cases g with
      | @leaf _ d' r a b c e =>
        rw [hd] at a; cases a
        refine xa1_2 (b) fun rs' q hr => ?_
        rw [hrs] at q; cases q
        exact ⟨r, hr, .inl ⟨c, e⟩⟩
      | @step _ d' r o a b c e g =>
        rw [hd] at a; cases a
        refine xa1_2 (b) fun rs' q hr => ?_
        rw [hrs] at q; cases q
        exact ⟨r, hr, .inr ⟨o, c, e, g⟩⟩)
    unfold dfs
    rw [hrs, Option.bind_some]
    exact this
end
end Mine
end
section
namespace Mine
section
variable {K : Type} [DecidableEq K]
theorem filter_lt {l : List K} {p p' : K → Bool} (h : ∀ x ∈ l, p' x = true → p x = true) {a : K} (ha : a ∈ l) (h1 : p a = true) (h2 : p' a = false) : (l.filter p').length + 1 ≤ (l.filter p).length := by
  have le : ∀ l : List K, (∀ x ∈ l, p' x = true → p x = true) → (l.filter p').length ≤ (l.filter p).length := by
    intro l
    induction l with
    | nil => intro _; simp
    | cons x l ih =>
      intro h
      have ih := ih fun y hy => h y (.tail _ hy)
      have hx := h x (.head _)
      rw [List.filter_cons, List.filter_cons]
      cases e : p' x with
      | true => rw [if_pos rfl, if_pos (hx e)]; simp; assumption
      | false =>
        rw [if_neg (by decide)]
        split
        · simp; exact Nat.le_succ_of_le ‹_›
        · exact ih
  induction l with
  | nil => cases ha
  | cons x l ih =>
    have hx := h x (.head _)
    have hl := fun y (hy : y ∈ l) => h y (.tail _ hy)
    rw [List.filter_cons, List.filter_cons]
    rcases List.mem_cons.mp ha with rfl | ha
    · rw [if_neg (by rw [h2]; decide), if_pos h1]
      have := le l hl
      simp; assumption
    · have ih := ih hl ha
      cases e : p' x with
      | true => rw [if_pos rfl, if_pos (hx e)]; simp; assumption
      | false =>
        rw [if_neg (by decide)]
        split
        · simp; omega
        · exact ih
theorem bfsInit_q (pl : List (K × K)) : ∀ (ls q : List K) (ds : List (K × Int)), (bfsInit pl ls q ds).1 = q ++ ls.filter fun l => !(get pl l).isSome
  | [], q, ds => by simp [bfsInit]
  | l :: ls, q, ds => by
    rw [bfsInit, List.filter_cons]
    cases h : (get pl l).isSome with
    | true => rw [if_pos rfl, bfsInit_q pl ls, if_neg (by decide)]
    | false => rw [if_neg (by decide), bfsInit_q pl ls, if_pos (by decide)]; simp
theorem bfsInit_d (pl : List (K × K)) (y : K) : ∀ (ls q : List K) (ds : List (K × Int)), get (bfsInit pl ls q ds).2 y = if y ∈ ls then some (if (get pl y).isSome then -1 else 0) else get ds y
  | [], q, ds => by simp [bfsInit]
  | l :: ls, q, ds => by
    rw [bfsInit]
    by_cases e : y = l
    · subst e
      cases h : (get pl y).isSome with
      | true => rw [if_pos rfl, bfsInit_d pl y ls, h]; by_cases m : y ∈ ls <;> simp [m, get_put_self]
      | false => rw [if_neg (by decide), bfsInit_d pl y ls, h]; by_cases m : y ∈ ls <;> simp [m, get_put_self]
    · split
      · rw [bfsInit_d pl y ls, get_put_ne _ _ e]; by_cases m : y ∈ ls <;> simp [m, e]
      · rw [bfsInit_d pl y ls, get_put_ne _ _ e]; by_cases m : y ∈ ls <;> simp [m, e]

variable {adj : List (K × List K)} {pl pr : List (K × K)}
noncomputable def Pos0 (ds : List (K × Int)) (y : K) : Prop := ∃ z, get ds y = some z ∧ 0 ≤ z
structure BX (adj : List (K × List K)) (pl pr : List (K × K)) (W : K → Prop) (U : Int) (q : List K) (ds : List (K × Int)) (rf : Int) : Prop where
  ok : DsOk adj ds
  ge : ∀ y x, get ds y = some x → -1 ≤ x
  hi : ∀ y x, get ds y = some x → x ≤ U
  free : ∀ y, (get adj y).isSome → get pl y = none → get ds y = some 0
  qin : ∀ y ∈ q, (get adj y).isSome ∧ Pos0 ds y
  par : ∀ y x, get ds y = some x → 0 ≤ x → (get adj y).isSome → (x = 0 ∧ get pl y = none) ∨ ∃ p r, get ds p = some (x - 1) ∧ 0 ≤ x - 1 ∧ (get adj p).isSome ∧ Ad adj p r ∧ get pr r = some y
  cl : rf = -1 → ∀ y, Pos0 ds y → (get adj y).isSome → W y ∨ y ∈ q ∨ ∀ r, Ad adj y r → ∃ o, get pr r = some o ∧ Pos0 ds o
  rfk : rf = -1 ∨ ∃ y d r, get ds y = some d ∧ 0 ≤ d ∧ (get adj y).isSome ∧ Ad adj y r ∧ get pr r = none ∧ rf = d + 1

theorem BX.enq {W : K → Prop} {U : Int} {q : List K} {ds : List (K × Int)} {rf : Int} (h : BX adj pl pr W U q ds rf) {x o r : K} {d : Int} (hx : get ds x = some d) (hd : 0 ≤ d) (hU : d + 1 ≤ U) (hax : (get adj x).isSome) (ha : Ad adj x r) (hr : get pr r = some o) (ho : get ds o = some (-1)) (hao : (get adj o).isSome) :
    BX adj pl pr W U (q ++ [o]) (put ds o (d + 1)) rf ∧ ∀ y, Pos0 ds y → get (put ds o (d + 1)) y = get ds y := by
  have keep : ∀ y, Pos0 ds y → get (put ds o (d + 1)) y = get ds y := fun y ⟨z, hz, h0⟩ => by
    refine get_put_ne _ _ fun e => ?_
    rw [e, ho] at hz; cases hz; omega
  have pos : ∀ y, Pos0 ds y → Pos0 (put ds o (d + 1)) y := fun y hy => by
    refine xa1_2 (id hy) fun z hz h0 => ?_
    refine xi1_2 z ((keep y hy).trans hz) h0
  have poso : Pos0 (put ds o (d + 1)) o := ⟨d + 1, get_put_self _ _ _, by omega⟩
  refine xi0_2 ⟨fun l hl => ?_, fun y v hv => ?_, fun y v hv => ?_, fun y hy hp => ?_, fun y hy => ?_, fun y v hv h0 hay => ?_, fun hrf y hy hay => ?_, ?_⟩ keep
  · rw [get_put]; split
    · rfl
    · exact h.ok l hl
  · rw [get_put] at hv; split at hv
    · cases hv; omega
    · exact h.ge y v hv
  · rw [get_put] at hv; split at hv
    · cases hv; exact hU
    · exact h.hi y v hv
  · have := h.free y hy hp
    rw [keep y ⟨0, this, Int.le_refl _⟩]; exact this
  · rcases List.mem_append.mp hy with hy | hy
    · refine xi0_2 ((h.qin y hy).1) (pos y (h.qin y hy).2)
    · simp only [List.mem_cons, List.not_mem_nil, or_false] at hy
      subst hy; exact ⟨hao, poso⟩
  · by_cases e : y = o
    · subst e
      rw [get_put_self] at hv; cases hv
      refine .inr ?_
      refine xi2_5 x r ?_ (by omega) hax ha hr
      rw [keep x ⟨d, hx, hd⟩, hx]; congr 1; omega
    · rw [get_put_ne _ _ e] at hv
      rcases h.par y v hv h0 hay with q1 | ⟨p, r', q1, q2, q3, q4, q5⟩
      · exact .inl q1
      · refine .inr ?_
        refine xi2_5 p r' ((keep p ⟨_, q1, q2⟩).trans q1) q2 q3 q4 q5
  · by_cases e : y = o
    · subst e; exact .inr (.inl (by simp))
    · have hy' : Pos0 ds y := by
        refine xa1_2 (hy) fun z hz h0 => ?_
        rw [get_put_ne _ _ e] at hz; exact ⟨z, hz, h0⟩
      rcases h.cl hrf y hy' hay with q1 | q1 | q1
      · exact .inl q1
      · exact .inr (.inl (List.mem_append_left _ q1))
      · refine .inr (.inr fun r' hr' => ?_)
        refine xa1_2 (q1 r' hr') fun o' a1 a2 => ?_
        refine xi1_2 o' a1 (pos _ a2)
  · rcases h.rfk with q1 | ⟨y, d', r', q1, q2, q3⟩
    · exact .inl q1
    · refine .inr ?_
      refine xi3_3 y d' r' ((keep y ⟨_, q1, q2⟩).trans q1) q2 q3

noncomputable abbrev cnt (adj : List (K × List K)) (ds : List (K × Int)) : Nat := ((adj.map (·.1)).filter fun y => decide (get ds y = some (-1))).length

theorem bfsRow_ok (hI : Inv adj pl pr) {U d : Int} {x : K} (hd : 0 ≤ d) (hU : d + 1 ≤ U) (hax : (get adj x).isSome) :
    ∀ (rs q : List K) (ds : List (K × Int)) (rf : Int), (∀ r ∈ rs, Ad adj x r) → get ds x = some d → BX adj pl pr (· = x) U q ds rf →
      ∃ q' ds' rf', bfsRow pr x rs q ds rf = some (q', ds', rf') ∧ BX adj pl pr (· = x) U q' ds' rf' ∧ q'.length + cnt adj ds' ≤ q.length + cnt adj ds ∧ (∀ y, Pos0 ds y → get ds' y = get ds y) ∧ (rf' = -1 → rf = -1) ∧ (rf' = -1 → ∀ r ∈ rs, ∃ o, get pr r = some o ∧ Pos0 ds' o)
  | [], q, ds, rf, _, _, h => ⟨q, ds, rf, rfl, h, Nat.le_refl _, fun _ _ => rfl, id, fun _ _ h => nomatch h⟩
  | r :: rs, q, ds, rf, hrs, hx, h => by
    have har := hrs r (.head _)
    have hrs' : ∀ r ∈ rs, Ad adj x r := fun y hy => hrs y (.tail _ hy)
    rw [bfsRow]
    cases hr : get pr r with
    | none =>
      dsimp only
      by_cases hrf : rf = -1
      · rw [if_pos hrf, hx, Option.bind_some]
        have h' : BX adj pl pr (· = x) U q ds (d + 1) := { h with cl := fun e => by omega, rfk := .inr ⟨x, d, r, hx, hd, hax, har, hr, rfl⟩ }
        refine xa3_6 (bfsRow_ok hI hd hU hax rs q ds (d + 1) hrs' hx h') fun q' ds' rf' e1 e2 e3 e4 e5 e6 => ?_
        refine xi3_6 q' ds' rf' e1 e2 e3 e4 (fun e => by have := e5 e; assumption) (fun e => by have := e5 e; omega)
      · rw [if_neg hrf]
        refine xa3_6 (bfsRow_ok hI hd hU hax rs q ds rf hrs' hx h) fun q' ds' rf' e1 e2 e3 e4 e5 e6 => ?_
        refine xi3_6 q' ds' rf' e1 e2 e3 e4 e5 (fun e => absurd (e5 e) hrf)
    | some o =>
      dsimp only
      have hao : (get adj o).isSome := by obtain ⟨rs', q, _⟩ := hI.ad _ _ ((hI.inv _ _).mpr hr); rw [q]; rfl
      refine xa1_1 (Option.isSome_iff_exists.mp (h.ok o hao)) fun d' hd' => ?_
      rw [hd', Option.bind_some]
      by_cases h1 : d' = -1
      · rw [if_pos h1, hx, Option.bind_some]
        subst h1
        refine xa0_2 (h.enq hx hd hU hax har hr hd' hao) fun h' keep => ?_
        refine xa3_6 (bfsRow_ok hI hd hU hax rs (q ++ [o]) (put ds o (d + 1)) rf hrs' ((keep x ⟨d, hx, hd⟩).trans hx) h') fun q' ds' rf' e1 e2 e3 e4 e5 e6 => ?_
        have poso : Pos0 (put ds o (d + 1)) o := ⟨d + 1, get_put_self _ _ _, by omega⟩
        refine xi3_6 q' ds' rf' e1 e2 ?_ (fun y hy => ?_) e5 (fun e r' hr' => ?_)
        · have hc : cnt adj (put ds o (d + 1)) + 1 ≤ cnt adj ds := by
            refine filter_lt (a := o) (fun y _ hy => ?_) ((get_isSome_iff adj o).mp hao) (by simp [hd']) (by rw [get_put_self]; simp; omega)
            simp only [decide_eq_true_eq] at hy ⊢
            rw [get_put] at hy
            split at hy
            · exfalso; have := Option.some.inj hy; omega
            · exact hy
          rw [List.length_append] at e3
          simp at e3; omega
        · refine xa1_2 (id hy) fun z hz h0 => ?_
          rw [e4 y ⟨z, (keep y hy).trans hz, h0⟩, keep y hy]
        · rcases List.mem_cons.mp hr' with rfl | hr'
          · refine xa1_2 (id poso) fun z hz h0 => ?_
            exact ⟨o, hr, z, (e4 o poso).trans hz, h0⟩
          · exact e6 e r' hr'
      · rw [if_neg h1]
        refine xa3_6 (bfsRow_ok hI hd hU hax rs q ds rf hrs' hx h) fun q' ds' rf' e1 e2 e3 e4 e5 e6 => ?_
        refine xi3_6 q' ds' rf' e1 e2 e3 e4 e5 (fun e r' hr' => ?_)
        rcases List.mem_cons.mp hr' with rfl | hr'
        · have h0 : Pos0 ds o := ⟨d', hd', by have := h.ge o d' hd'; omega⟩
          refine xa1_2 (id h0) fun z hz q0 => ?_
          exact ⟨o, hr, z, (e4 o h0).trans hz, q0⟩
        · exact e6 e r' hr'

theorem BX.weak {W : K → Prop} {U U' : Int} {q : List K} {ds : List (K × Int)} {rf : Int} (h : BX adj pl pr W U q ds rf) (hU : U ≤ U') : BX adj pl pr W U' q ds rf := { h with hi := fun y x hx => Int.le_trans (h.hi y x hx) hU }

theorem bfsLoop_ok (hI : Inv adj pl pr) : ∀ (n : Nat) (q : List K) (ds : List (K × Int)) (rf : Int), n ≤ 20 → BX adj pl pr (fun _ => False) (20 - n) q ds rf → q.length + cnt adj ds < n →
    ∃ ds' rf', bfsLoop adj pr n q ds rf = some (ds', rf') ∧ BX adj pl pr (fun _ => False) 19 [] ds' rf'
  | 0, q, ds, rf, _, _, hm => absurd hm (Nat.not_lt_zero _)
  | n + 1, [], ds, rf, hn, h, hm => ⟨ds, rf, rfl, h.weak (by omega)⟩
  | n + 1, x :: q, ds, rf, hn, h, hm => by
    obtain ⟨hax, d, hx, hd⟩ := h.qin x (.head _)
    rw [bfsLoop, hx, Option.bind_some]
    rw [if_neg (fun e => by omega)]
    simp only [List.length_cons] at hm
    by_cases h2 : rf ≤ d ∧ rf ≠ -1
    · rw [if_pos h2]
      refine bfsLoop_ok hI n q ds rf (by omega) { (h.weak (U' := 20 - n) (by omega)) with qin := fun y hy => h.qin y (.tail _ hy), cl := fun e => absurd e h2.2 } (by omega)
    · rw [if_neg h2]
      refine xa1_1 (Option.isSome_iff_exists.mp hax) fun rs hrs => ?_
      rw [hrs, Option.bind_some]
      have hx0 : BX adj pl pr (· = x) (20 - n) q ds rf := { (h.weak (U' := 20 - n) (by omega)) with
        qin := fun y hy => h.qin y (.tail _ hy)
        cl := fun e y hy hay => by
          rcases h.cl e y hy hay with q1 | q1 | q1
          · exact q1.elim
          · rcases List.mem_cons.mp q1 with q1 | q1
            · exact .inl q1
            · exact .inr (.inl q1)
          · exact .inr (.inr q1) }
      obtain ⟨q', ds', rf', e1, e2, e3, e4, e5, e6⟩ := bfsRow_ok hI (U := 20 - n) hd (by have := h.hi x d hx; omega) hax rs q ds rf (fun r hr => ⟨rs, hrs, hr⟩) hx hx0
      rw [e1, Option.bind_some]
      refine bfsLoop_ok hI n q' ds' rf' (by omega) { e2 with cl := fun e y hy hay => ?_ } (by omega)
      rcases e2.cl e y hy hay with q1 | q1 | q1
      · subst q1
        refine .inr (.inr fun r hr => ?_)
        refine xa1_2 (hr) fun rs' a1 a2 => ?_
        rw [hrs] at a1; cases a1
        exact e6 e r a2
      · exact .inr (.inl q1)
      · exact .inr (.inr q1)

theorem bfs_ok (hI : Inv adj pl pr) {ds : List (K × Int)} (hds : DsOk adj ds) (hk : ∀ y x, get ds y = some x → (get adj y).isSome) (hz : adj.length < 20) :
    ∃ ds' rf', bfs adj 20 { pl, pr, ds } = some (ds', rf') ∧ BX adj pl pr (fun _ => False) 19 [] ds' rf' := by
  have hmem : ∀ y, y ∈ adj.map (·.1) ↔ (get adj y).isSome = true := fun y => (get_isSome_iff adj y).symm
  have hd : ∀ y x, get (bfsInit pl (adj.map (·.1)) [] ds).2 y = some x → (get adj y).isSome = true ∧ x = (if (get pl y).isSome then -1 else 0) := fun y x hx => by
    rw [bfsInit_d] at hx
    split at hx
    · rename_i m
      refine xi0_2 ((hmem y).mp m) ((Option.some.inj hx).symm)
    · rename_i m
      exact absurd ((hmem y).mpr (hk y x hx)) m
  have hd' : ∀ y, (get adj y).isSome → get (bfsInit pl (adj.map (·.1)) [] ds).2 y = some (if (get pl y).isSome then -1 else 0) := fun y hy => by
    rw [bfsInit_d, if_pos ((hmem y).mpr hy)]
  unfold bfs
  refine bfsLoop_ok hI 20 _ _ _ (Nat.le_refl _) ⟨fun l hl => by rw [hd' l hl]; rfl, fun y x hx => ?_, fun y x hx => ?_, fun y hy hp => ?_, fun y hy => ?_, fun y x hx h0 hay => ?_, fun _ y hy hay => ?_, .inl rfl⟩ ?_
  · obtain ⟨_, rfl⟩ := hd y x hx; split <;> omega
  · obtain ⟨_, rfl⟩ := hd y x hx; split <;> omega
  · rw [hd' y hy, hp]; rfl
  · rw [bfsInit_q, List.nil_append] at hy
    refine xa0_2 (List.mem_filter.mp hy) fun h1 h2 => ?_
    have h3 := (hmem y).mp h1
    refine ⟨h3, 0, ?_, Int.le_refl _⟩
    rw [hd' y h3]
    simp only [Bool.not_eq_true'] at h2
    rw [h2]; rfl
  · refine xa0_2 (hd y x hx) fun _ e => ?_
    left
    cases hp : get pl y with
    | none => rw [hp] at e; exact ⟨by simpa using e, rfl⟩
    | some r => rw [hp] at e; simp at e; omega
  · right; left
    refine xa1_2 (hy) fun z hz h0 => ?_
    refine xa0_2 (hd y z hz) fun _ e => ?_
    rw [bfsInit_q, List.nil_append]
    refine List.mem_filter.mpr ?_
    refine xi0_2 ((hmem y).mpr hay) ?_
    cases hp : get pl y with
    | none => rfl
    | some r => rw [hp] at e; simp at e; omega
  · have key : ∀ l : List K, (∀ y ∈ l, y ∈ adj.map (·.1)) → (l.filter fun l => !(get pl l).isSome).length + (l.filter fun y => decide (get (bfsInit pl (adj.map (·.1)) [] ds).2 y = some (-1))).length ≤ l.length := by
      intro l
      induction l with
      | nil => intro _; simp
      | cons x l ih =>
        intro hl
        have ih := ih fun y hy => hl y (.tail _ hy)
        have hx := hd' x ((hmem x).mp (hl x (.head _)))
        rw [List.filter_cons, List.filter_cons, hx]
        cases hp : (get pl x).isSome with
        | true => rw [if_neg (by decide), if_pos (by simp)]; simp only [List.length_cons]; exact Nat.succ_le_succ ‹_›
        | false => rw [if_pos (by decide), if_neg (by simp)]; simp only [List.length_cons]; omega
    have := key (adj.map (·.1)) fun _ h => h
    rw [bfsInit_q, List.nil_append]
    rw [List.length_map] at this
    exact Nat.lt_of_le_of_lt this hz

theorem good_root {ds : List (K × Int)} {rf : Int} (h : BX adj pl pr (fun _ => False) 19 [] ds rf) (hrf : rf ≠ -1) : ∃ l, (get adj l).isSome ∧ get pl l = none ∧ Good adj pr rf ds l := by
  have key : ∀ (k : Nat) (y : K), get ds y = some (k : Int) → (get adj y).isSome → Good adj pr rf ds y → ∃ l, (get adj l).isSome ∧ get pl l = none ∧ Good adj pr rf ds l := by
    intro k
    induction k with
    | zero =>
      intro y hy hay g
      rcases h.par y _ hy (by simp) hay with ⟨_, q⟩ | ⟨p, r, _, q, _⟩
      · refine xi1_3 y hay q g
      · simp at q
    | succ k ih =>
      intro y hy hay g
      rcases h.par y _ hy (by omega) hay with ⟨q, _⟩ | ⟨p, r, q1, q2, q3, q4, q5⟩
      · omega
      · have e : ((k + 1 : Nat) : Int) - 1 = (k : Int) := by omega
        rw [e] at q1
        refine ih p q1 q3 (.step q1 q4 q5 ?_ g)
        rw [hy]; congr 1
  rcases h.rfk with q | ⟨y, d, r, q1, q2, q3, q4, q5, q6⟩
  · exact absurd q hrf
  · refine xa1_1 (Int.eq_ofNat_of_zero_le q2) fun k he1 => ?_
    obtain rfl := he1
    exact key k y q1 q3 (.leaf q1 q4 q5 q6)
end
end Mine
end
section
namespace Mine
section
variable {K : Type} [DecidableEq K] {adj : List (K × List K)}
noncomputable abbrev fr (adj : List (K × List K)) (pl : List (K × K)) : Nat := ((adj.map (·.1)).filter fun l => !(get pl l).isSome).length

theorem phase_ok {rf : Int} : ∀ (ls : List K) (σ : HK K), ls.Nodup → (∀ l ∈ ls, (get adj l).isSome) → Inv adj σ.pl σ.pr → DsOk adj σ.ds → (∀ y x, get σ.ds y = some x → x ≤ 19) → (∀ y ∈ ls, get σ.pl y = none → get σ.ds y = some 0) →
    ∃ σ', phase adj rf 20 ls σ = some σ' ∧ Inv adj σ'.pl σ'.pr ∧ (∀ y, (get σ'.ds y).isSome = (get σ.ds y).isSome) ∧ fr adj σ'.pl ≤ fr adj σ.pl ∧ ((∃ l ∈ ls, get σ.pl l = none ∧ Good adj σ.pr rf σ.ds l) → fr adj σ'.pl + 1 ≤ fr adj σ.pl)
  | [], σ, _, _, hI, _, _, _ => ⟨σ, rfl, hI, fun _ => rfl, Nat.le_refl _, fun ⟨_, h, _⟩ => nomatch h⟩
  | l :: ls, σ, hn, ha, hI, hds, hhi, h0 => by
    refine xa0_2 (List.nodup_cons.mp hn) fun hnl hn' => ?_
    have ha' : ∀ l ∈ ls, (get adj l).isSome := fun y hy => ha y (.tail _ hy)
    rw [phase]
    by_cases hp : (get σ.pl l).isSome = true
    · rw [if_pos hp]
      obtain ⟨σ', e1, e2, e3, e4, e5⟩ := phase_ok ls σ hn' ha' hI hds hhi fun y hy => h0 y (.tail _ hy)
      refine xi1_5 σ' e1 e2 e3 e4 (fun ⟨y, hy, q1, q2⟩ => ?_)
      rcases List.mem_cons.mp hy with rfl | hy
      · rw [q1] at hp; cases hp
      · refine e5 ?_
        refine xi1_3 y hy q1 q2
    · rw [if_neg hp]
      have hpn : get σ.pl l = none := by simpa using hp
      obtain ⟨b, σ₁, hs, R⟩ := dfs_ok (adj := adj) (rf := rf) (D := 19) (by decide) 20 0 (by decide) (by decide) l σ hI hds (ha l (.head _)) (h0 l (.head _) hpn) hhi
      rw [hs, Option.bind_some]
      have d1 : DsOk adj σ₁.ds := fun y hy => (R.s4 y).trans (hds y hy)
      have d2 : ∀ y x, get σ₁.ds y = some x → x ≤ 19 := fun y x hx => by
        rcases R.s3 y x hx with rfl | q
        · decide
        · exact hhi y x q
      have d3 : ∀ y ∈ ls, get σ.pl y = none → get σ₁.ds y = some 0 := fun y hy hpy => by
        have hz := h0 y (.tail _ hy) hpy
        rw [R.s1 y (fun e => hnl (e ▸ hy)) (fun x hx => by rw [hz] at hx; cases hx; exact Int.le_refl _)]
        exact hz
      cases b with
      | true =>
        have A := R.yes rfl
        have hI₁ : Inv adj σ₁.pl σ₁.pr := ⟨fun l' r => A.a3 l' r (by rw [hpn]; exact fun e => nomatch e), A.a5, A.a6⟩
        obtain ⟨σ', e1, e2, e3, e4, e5⟩ := phase_ok ls σ₁ hn' ha' hI₁ d1 d2 fun y hy hpy => d3 y hy (by
          cases q : get σ.pl y with
          | none => rfl
          | some r =>
            have := (A.a7 y).mpr (.inl (by rw [q]; rfl))
            rw [hpy] at this; cases this)
        have hfr : fr adj σ₁.pl + 1 ≤ fr adj σ.pl := by
          refine filter_lt (a := l) (fun y _ hy => ?_) ((get_isSome_iff adj l).mp (ha l (.head _))) (by rw [hpn]; rfl) (by
            have := (A.a7 l).mpr (.inr rfl)
            rw [this]; rfl)
          cases q : (get σ.pl y).isSome with
          | false => rfl
          | true =>
            have := (A.a7 y).mpr (.inl q)
            rw [this] at hy; cases hy
        refine xi1_5 σ' e1 e2 (fun y => (e3 y).trans (R.s4 y)) (by omega) (fun _ => by exact oI ‹_› ‹_›)
      | false =>
        refine xa0_4 (R.no rfl) fun f1 f2 f3 f4 => ?_
        obtain ⟨σ', e1, e2, e3, e4, e5⟩ := phase_ok ls σ₁ hn' ha' (by rw [f1, f2]; exact hI) d1 d2 fun y hy hpy => d3 y hy (by rw [← f1]; exact hpy)
        rw [f1] at e4 e5
        refine xi1_5 σ' e1 e2 (fun y => (e3 y).trans (R.s4 y)) e4 (fun ⟨y, hy, q1, q2⟩ => ?_)
        rcases List.mem_cons.mp hy with rfl | hy
        · exact absurd q2 f4
        · exact e5 ⟨y, hy, q1, by rw [f2]; exact q2.move f3⟩

noncomputable def Cert (adj : List (K × List K)) (pl pr : List (K × K)) : Prop :=
  ∃ Z : K → Prop, (∀ y, (get adj y).isSome → get pl y = none → Z y) ∧ ∀ y r, Z y → Ad adj y r → ∃ o, get pr r = some o ∧ Z o

theorem hkLoop_ok (hn : (adj.map (·.1)).Nodup) (hz : adj.length < 20) : ∀ (k : Nat) (σ : HK K), Inv adj σ.pl σ.pr → DsOk adj σ.ds → (∀ y, (get σ.ds y).isSome → (get adj y).isSome) → fr adj σ.pl < k →
    ∃ σ', hkLoop adj 20 k σ = some σ' ∧ Inv adj σ'.pl σ'.pr ∧ Cert adj σ'.pl σ'.pr
  | 0, _, _, _, _, h => absurd h (Nat.not_lt_zero _)
  | k + 1, σ, hI, hds, hk, hf => by
    refine xa2_2 (bfs_ok hI hds (fun y x hx => hk y (by rw [hx]; rfl)) hz) fun ds' rf' e1 B => ?_
    have e1' : bfs adj 20 σ = some (ds', rf') := e1
    rw [hkLoop, e1', Option.bind_some]
    have hsk := bfs_keys e1' hds
    dsimp only
    by_cases hrf : rf' = -1
    · rw [if_pos hrf]
      refine ⟨_, rfl, hI, fun y => Pos0 ds' y ∧ (get adj y).isSome, fun y hy hp => ⟨⟨0, B.free y hy hp, Int.le_refl _⟩, hy⟩, fun y r hZ ha => ?_⟩
      rcases B.cl hrf y hZ.1 hZ.2 with q | q | q
      · exact q.elim
      · cases q
      · refine xa1_2 (q r ha) fun o q1 q2 => ?_
        refine xi1_3 o q1 q2 ?_
        obtain ⟨rs', q, _⟩ := hI.ad _ _ ((hI.inv _ _).mpr q1); rw [q]; rfl
    · rw [if_neg hrf]
      refine xa1_3 (good_root B hrf) fun l g1 g2 g3 => ?_
      refine xa1_5 (phase_ok (adj := adj) (rf := rf') (adj.map (·.1)) { σ with ds := ds' } hn (fun l hl => (get_isSome_iff adj l).mpr hl) hI B.ok B.hi fun y hy hp => B.free y ((get_isSome_iff adj y).mpr hy) hp) fun σ' p1 p2 p3 p4 p5 => ?_
      rw [p1, Option.bind_some]
      have hfr := p5 ⟨l, (get_isSome_iff adj l).mp g1, g2, g3⟩
      refine hkLoop_ok hn hz k σ' p2 (fun y hy => (p3 y).trans (B.ok y hy)) (fun y hy => hk y ?_) ?_
      · rw [p3 y] at hy
        rw [← hsk.isSome y]; exact hy
      · show fr adj σ'.pl < k
        have : fr adj σ'.pl + 1 ≤ fr adj σ.pl := hfr
        omega

theorem init_get (y : K) : ∀ (ls : List K) (ds : List (K × Int)), (get (ls.foldl (fun ds l => put ds l (-1)) ds) y).isSome = true ↔ y ∈ ls ∨ (get ds y).isSome = true
  | [], ds => by simp
  | l :: ls, ds => by
    rw [List.foldl_cons, init_get y ls, get_put]
    by_cases e : y = l
    · simp [e]
    · simp [e]
theorem hk_ok (hn : (adj.map (·.1)).Nodup) (hz : adj.length < 20) : ∃ σ, hk adj 20 = some σ ∧ Inv adj σ.pl σ.pr ∧ Cert adj σ.pl σ.pr := by
  unfold hk
  refine hkLoop_ok hn hz 20 _ ⟨fun l r => ?_, fun l r h => ?_, List.nodup_nil⟩ (fun y hy => ?_) (fun y hy => ?_) ?_
  · show get ([] : List (K × K)) l = some r ↔ get ([] : List (K × K)) r = some l
    rw [get_nil, get_nil]; exact ⟨fun h => (nomatch h), fun h => (nomatch h)⟩
  · exact nomatch h
  · exact (init_get y _ _).mpr (.inl ((get_isSome_iff adj y).mp hy))
  · rcases (init_get y _ _).mp hy with h | h
    · exact (get_isSome_iff adj y).mpr h
    · cases h
  · show ((adj.map (·.1)).filter _).length < 20
    have := List.length_filter_le (fun l : K => !(get ([] : List (K × K)) l).isSome) (adj.map (·.1))
    rw [List.length_map] at this
    exact Nat.lt_of_le_of_lt this hz
end
end Mine
end
section
namespace Mine
theorem nodup_len {α : Type} [DecidableEq α] : ∀ {l l' : List α}, l.Nodup → (∀ x ∈ l, x ∈ l') → l.length ≤ l'.length
  | [], _, _, _ => Nat.zero_le _
  | x :: l, l', hn, hs => by
    refine xa0_2 (List.nodup_cons.mp hn) fun h1 h2 => ?_
    have hx := hs x (.head _)
    have := nodup_len (l := l) (l' := l'.erase x) h2 fun y hy => (List.mem_erase_of_ne (fun e => h1 (by rw [← e]; exact hy))).mpr (hs y (.tail _ hy))
    rw [List.length_erase_of_mem hx] at this
    have := List.length_pos_of_mem hx
    simp only [List.length_cons]; omega
theorem nodup_all {α : Type} [DecidableEq α] : ∀ {l l' : List α}, l.Nodup → (∀ x ∈ l, x ∈ l') → l'.length ≤ l.length → ∀ x ∈ l', x ∈ l
  | [], l', _, _, hz, x, hx => by have := List.length_pos_of_mem hx; simp only [List.length_nil] at hz; omega
  | y :: l, l', hn, hs, hz, x, hx => by
    refine xa0_2 (List.nodup_cons.mp hn) fun h1 h2 => ?_
    have hy := hs y (.head _)
    by_cases e : x = y
    · subst e; exact .head _
    · refine .tail _ (nodup_all (l' := l'.erase y) h2 (fun z hz' => (List.mem_erase_of_ne (fun e => h1 (by rw [← e]; exact hz'))).mpr (hs z (.tail _ hz'))) ?_ x ((List.mem_erase_of_ne e).mpr hx))
      rw [List.length_erase_of_mem hy]; simp only [List.length_cons] at hz; omega

theorem get_addAdj (adj : List (List Int × List (List Int))) (t x y : List Int) : get (addAdj adj t x) y = if y = t then some ((get adj t).getD [] ++ [x]) else get adj y := by
  unfold addAdj
  split
  · rename_i h
    have key : ∀ adj : List (List Int × List (List Int)), get (adj.map fun p => if p.1 = t then (p.1, p.2 ++ [x]) else p) y = if y = t then (get adj t).map (· ++ [x]) else get adj y := by
      intro adj
      induction adj with
      | nil => simp [get_nil]
      | cons p adj ih =>
        rw [List.map_cons, get_cons, get_cons, get_cons, ih]
        by_cases h1 : p.1 = t
        · by_cases h2 : y = t
          · subst h2; simp [h1]
          · have h3 : ¬ t = y := fun e => h2 e.symm
            simp [h1, h2, h3]
        · by_cases h2 : y = t
          · subst h2; simp [h1]
          · simp [h1, h2]
    rw [key]
    refine xa1_1 (Option.isSome_iff_exists.mp h) fun v hv => ?_
    split <;> simp [hv]
  · rename_i h
    have hn : get adj t = none := by simpa using h
    rw [get_append, get_cons, get_nil]
    by_cases h2 : y = t
    · subst h2; simp [hn]
    · have h3 : ¬ t = y := fun e => h2 e.symm
      simp [h2, h3]
theorem ad_addAdj (adj : List (List Int × List (List Int))) (t x a b : List Int) : Ad (addAdj adj t x) a b ↔ Ad adj a b ∨ (a = t ∧ b = x) := by
  unfold Ad
  rw [get_addAdj]
  by_cases e : a = t
  · subst e
    rw [if_pos rfl]
    constructor
    · intro hp1
      refine xa1_2 (hp1) fun rs h1 h2 => ?_
      cases h1
      rcases List.mem_append.mp h2 with h2 | h2
      · left
        cases q : get adj a with
        | none => rw [q] at h2; cases h2
        | some rs => rw [q] at h2; exact ⟨rs, rfl, h2⟩
      · simp at h2; exact .inr ⟨rfl, h2⟩
    · rintro (⟨rs, h1, h2⟩ | ⟨_, rfl⟩)
      · exact ⟨_, rfl, by rw [h1]; exact List.mem_append_left _ h2⟩
      · exact ⟨_, rfl, by simp⟩
  · rw [if_neg e]
    constructor
    · exact .inl
    · rintro (h | ⟨h, _⟩)
      · exact h
      · exact absurd h e
theorem ad_adjOf (Ed : List (Int × Int)) (a b : List Int) : Ad (adjOf Ed) a b ↔ ∃ e ∈ Ed, a = [0, e.1] ∧ b = [1, e.2] := by
  have key : ∀ (E : List (Int × Int)) (adj : List (List Int × List (List Int))), Ad (E.foldl (fun adj e => addAdj adj [0, e.1] [1, e.2]) adj) a b ↔ Ad adj a b ∨ ∃ e ∈ E, a = [0, e.1] ∧ b = [1, e.2] := by
    intro E
    induction E with
    | nil => intro adj; simp
    | cons e E ih =>
      intro adj
      rw [List.foldl_cons, ih, ad_addAdj]
      simp only [List.mem_cons]
      constructor
      · rintro ((h | h) | ⟨e', h1, h2⟩)
        · exact .inl h
        · exact .inr ⟨e, .inl rfl, h⟩
        · exact .inr ⟨e', .inr h1, h2⟩
      · rintro (h | ⟨e', rfl | h1, h2⟩)
        · exact .inl (.inl h)
        · exact .inl (.inr h2)
        · exact .inr ⟨e', h1, h2⟩
  have := key Ed []
  unfold adjOf
  rw [this]
  constructor
  · rintro (⟨rs, h, _⟩ | h)
    · cases h
    · exact h
  · exact .inr

structure Mx (E M : List (Int × Int)) : Prop where
  sub : ∀ p ∈ M, p ∈ E
  n1 : (M.map (·.1)).Nodup
  n2 : (M.map (·.2)).Nodup
  cov : ∃ C : List Int, C.length = M.length ∧ ∀ e ∈ E, e.1 ∈ C ∨ 10 + e.2 ∈ C

theorem find_ok {Ed : List (Int × Int)} (hz : Ed.length ≤ 12) : ∃ σ : HK (List Int), hk (adjOf Ed) 20 = some σ ∧ (∀ p ∈ σ.pl, ∃ l r, p = ([0, l], [1, r])) ∧ σ.pl.length ≤ 100 ∧ Mx Ed (σ.pl.map fun p => (p.1.getD 1 0, p.2.getD 1 0)) := by
  have hal : (adjOf Ed).length ≤ 12 := by
    have := adjOf_length Ed Ed.length
    rw [List.take_length] at this; omega
  obtain ⟨σ, h1, hI, Z, hZ1, hZ2⟩ := hk_ok (adjOf_nodup Ed) (by exact oM ‹_› (by exact rfl) : (adjOf Ed).length < 20)
  have hmem : ∀ p ∈ σ.pl, ∃ e ∈ Ed, p = ([0, e.1], [1, e.2]) := fun p hp => by
    refine xa1_3 ((ad_adjOf Ed p.1 p.2).mp (hI.ad p.1 p.2 (get_of_mem hI.nd hp))) fun e he a b => ?_
    exact ⟨e, he, Prod.ext a b⟩
  have hpw : σ.pl.Pairwise fun p q => p.1 ≠ q.1 := List.pairwise_map.mp hI.nd
  refine ⟨σ, h1, fun p hp => let ⟨e, _, q⟩ := hmem p hp; ⟨_, _, q⟩, ?_, ⟨fun p hp => ?_, ?_, ?_, ?_⟩⟩
  · have := nodup_len (l' := (adjOf Ed).map (·.1)) hI.nd fun x hx => by
      refine xa1_2 (List.mem_map.mp hx) fun p hp he2 => ?_
      obtain rfl := he2
      refine xa1_2 (hI.ad p.1 p.2 (get_of_mem hI.nd hp)) fun rs q _ => ?_
      exact (get_isSome_iff _ _).mp (by rw [q]; rfl)
    rw [List.length_map, List.length_map] at this
    omega
  · refine xa1_2 (List.mem_map.mp hp) fun q hq he3 => ?_
    obtain rfl := he3
    refine xa1_2 (hmem q hq) fun e he he4 => ?_
    obtain rfl := he4
    exact he
  · rw [List.map_map]
    refine List.pairwise_map.mpr (hpw.imp_of_mem fun {p q} hp hq hne e => ?_)
    refine xa1_2 (hmem p hp) fun a _ he5 => ?_
    obtain rfl := he5
    refine xa1_2 (hmem q hq) fun b _ he6 => ?_
    obtain rfl := he6
    have e : a.1 = b.1 := e
    exact hne (by show [0, a.1] = [0, b.1]; rw [e])
  · rw [List.map_map]
    refine List.pairwise_map.mpr (hpw.imp_of_mem fun {p q} hp hq hne e => ?_)
    have gp := (hI.inv _ _).mp (get_of_mem hI.nd hp)
    have gq := (hI.inv _ _).mp (get_of_mem hI.nd hq)
    refine xa1_2 (hmem p hp) fun a _ he7 => ?_
    obtain rfl := he7
    refine xa1_2 (hmem q hq) fun b _ he8 => ?_
    obtain rfl := he8
    have e : a.2 = b.2 := e
    dsimp only at gp gq hne
    rw [e, gq] at gp
    exact hne (Option.some.inj gp).symm
  · classical
    refine ⟨σ.pl.map fun p => if Z p.1 then 10 + p.2.getD 1 0 else p.1.getD 1 0, by simp, fun e he => ?_⟩
    have ha : Ad (adjOf Ed) [0, e.1] [1, e.2] := (ad_adjOf Ed _ _).mpr ⟨e, he, rfl, rfl⟩
    have hs : (get (adjOf Ed) [0, e.1]).isSome := by obtain ⟨rs, q, _⟩ := ha; rw [q]; rfl
    by_cases hz : Z [0, e.1]
    · refine xa1_2 (hZ2 _ _ hz ha) fun o q1 q2 => ?_
      right
      refine List.mem_map.mpr ⟨(o, [1, e.2]), get_mem ((hI.inv _ _).mpr q1), ?_⟩
      rw [if_pos q2]; rfl
    · left
      cases q : get σ.pl [0, e.1] with
      | none => exact absurd (hZ1 _ hs q) hz
      | some r =>
        refine List.mem_map.mpr ⟨([0, e.1], r), get_mem q, ?_⟩
        rw [if_neg hz]; rfl
end Mine
end
section
namespace Mine
noncomputable def Bd (E : List (Int × Int)) : Prop := ∀ e ∈ E, 0 ≤ e.1 ∧ e.1 < 4 ∧ 0 ≤ e.2 ∧ e.2 < 4
noncomputable abbrev pick (C : List Int) (p : Int × Int) : Int := if p.1 ∈ C then p.1 else 10 + p.2
theorem pick_nodup {N : List (Int × Int)} {C : List Int} (hb : Bd N) (n1 : (N.map (·.1)).Nodup) (n2 : (N.map (·.2)).Nodup) : (N.map (pick C)).Nodup := by
  have h1 : N.Pairwise fun p q => p.1 ≠ q.1 := List.pairwise_map.mp n1
  have h2 : N.Pairwise fun p q => p.2 ≠ q.2 := List.pairwise_map.mp n2
  refine List.pairwise_map.mpr ((h1.and h2).imp_of_mem fun {p q} hp hq h e => ?_)
  refine xa0_4 (hb p hp) fun b1 b2 b3 b4 => ?_
  refine xa0_4 (hb q hq) fun c1 c2 c3 c4 => ?_
  unfold pick at e
  split at e <;> split at e
  · exact h.1 e
  · omega
  · omega
  · exact h.2 (by exact Int.add_left_cancel ‹_›)
theorem pick_mem {N : List (Int × Int)} {C : List Int} (hc : ∀ p ∈ N, p.1 ∈ C ∨ 10 + p.2 ∈ C) : ∀ x ∈ N.map (pick C), x ∈ C := by
  intro x hx
  refine xa1_2 (List.mem_map.mp hx) fun p hp he1 => ?_
  obtain rfl := he1
  unfold pick
  split
  · assumption
  · rename_i h
    exact (hc p hp).resolve_left h
theorem cov_len {N : List (Int × Int)} {C : List Int} (hb : Bd N) (n1 : (N.map (·.1)).Nodup) (n2 : (N.map (·.2)).Nodup) (hc : ∀ p ∈ N, p.1 ∈ C ∨ 10 + p.2 ∈ C) : N.length ≤ C.length := by
  have := nodup_len (pick_nodup hb n1 n2) (pick_mem hc)
  rwa [List.length_map] at this
theorem same_of_2 {N : List (Int × Int)} (n2 : (N.map (·.2)).Nodup) {p q : Int × Int} (hp : p ∈ N) (hq : q ∈ N) (e : p.2 = q.2) : p = q := by
  induction N with
  | nil => cases hp
  | cons x N ih =>
    rw [List.map_cons, List.nodup_cons] at n2
    rcases List.mem_cons.mp hp with rfl | hp' <;> rcases List.mem_cons.mp hq with rfl | hq'
    · rfl
    · exact absurd (show p.2 ∈ N.map (·.2) from List.mem_map.mpr ⟨q, hq', e.symm⟩) n2.1
    · exact absurd (show q.2 ∈ N.map (·.2) from List.mem_map.mpr ⟨p, hp', e⟩) n2.1
    · exact ih n2.2 hp' hq'
theorem same_of_1 {N : List (Int × Int)} (n1 : (N.map (·.1)).Nodup) {p q : Int × Int} (hp : p ∈ N) (hq : q ∈ N) (e : p.1 = q.1) : p = q := by
  induction N with
  | nil => cases hp
  | cons x N ih =>
    rw [List.map_cons, List.nodup_cons] at n1
    rcases List.mem_cons.mp hp with rfl | hp' <;> rcases List.mem_cons.mp hq with rfl | hq'
    · rfl
    · exact absurd (show p.1 ∈ N.map (·.1) from List.mem_map.mpr ⟨q, hq', e.symm⟩) n1.1
    · exact absurd (show q.1 ∈ N.map (·.1) from List.mem_map.mpr ⟨p, hp', e⟩) n1.1
    · exact ih n1.2 hp' hq'
theorem slack {N : List (Int × Int)} {C : List Int} (hb : Bd N) (n1 : (N.map (·.1)).Nodup) (n2 : (N.map (·.2)).Nodup) (hc : ∀ p ∈ N, p.1 ∈ C ∨ 10 + p.2 ∈ C) (hz : C.length ≤ N.length) :
    (∀ x ∈ C, x < 10 → ∃ p ∈ N, p.1 = x) ∧ (∀ x ∈ C, 10 ≤ x → ∃ p ∈ N, 10 + p.2 = x) ∧ (∀ p ∈ N, p.1 ∈ C → 10 + p.2 ∉ C) := by
  have hall := nodup_all (pick_nodup (C := C) hb n1 n2) (pick_mem hc) (by rw [List.length_map]; exact hz)
  refine ⟨fun x hx h10 => ?_, fun x hx h10 => ?_, fun p hp h1 h2 => ?_⟩
  · refine xa1_2 (List.mem_map.mp (hall x hx)) fun p hp e => ?_
    refine xa0_4 (hb p hp) fun b1 b2 b3 b4 => ?_
    unfold pick at e
    split at e
    · exact ⟨p, hp, e⟩
    · omega
  · refine xa1_2 (List.mem_map.mp (hall x hx)) fun p hp e => ?_
    refine xa0_4 (hb p hp) fun b1 b2 b3 b4 => ?_
    unfold pick at e
    split at e
    · omega
    · exact ⟨p, hp, e⟩
  · refine xa1_2 (List.mem_map.mp (hall _ h2)) fun q hq e => ?_
    refine xa0_4 (hb p hp) fun b1 b2 b3 b4 => ?_
    refine xa0_4 (hb q hq) fun c1 c2 c3 c4 => ?_
    unfold pick at e
    split at e
    · omega
    · rename_i h3
      have := same_of_2 n2 hq hp (by exact Int.add_left_cancel ‹_›)
      rw [this] at h3; exact h3 h1

structure Ctx (E N : List (Int × Int)) (B A : List Int) : Prop where
  bd : Bd E
  mx : Mx E N
  b1 : ∀ e ∈ E, (∀ p ∈ N, p.1 ≠ e.1) → e.1 ∈ B
  b2 : ∀ e ∈ N, 10 + e.2 ∈ B → e.1 ∈ B
  b3 : ∀ e ∈ E, e ∉ N → e.1 ∈ B → 10 + e.2 ∈ B
  b4 : ∀ W : Int → Prop, (∀ e ∈ E, (∀ p ∈ N, p.1 ≠ e.1) → W e.1) → (∀ e ∈ N, W (10 + e.2) → W e.1) → (∀ e ∈ E, e ∉ N → W e.1 → W (10 + e.2)) → ∀ x ∈ B, W x
  a1 : ∀ e ∈ E, (∀ p ∈ N, p.2 ≠ e.2) → 10 + e.2 ∈ A
  a2 : ∀ e ∈ N, e.1 ∈ A → 10 + e.2 ∈ A
  a3 : ∀ e ∈ E, e ∉ N → 10 + e.2 ∈ A → e.1 ∈ A
  a4 : ∀ W : Int → Prop, (∀ e ∈ E, (∀ p ∈ N, p.2 ≠ e.2) → W (10 + e.2)) → (∀ e ∈ N, W e.1 → W (10 + e.2)) → (∀ e ∈ E, e ∉ N → W (10 + e.2) → W e.1) → ∀ x ∈ A, W x
structure RC (E N : List (Int × Int)) (s : Int) (R : List Int) : Prop where
  r1 : s ∈ R
  r2 : ∀ e ∈ N, 10 + e.2 ∈ R → e.1 ∈ R
  r3 : ∀ e ∈ E, e ∉ N → e.1 ∈ R → 10 + e.2 ∈ R
  r4 : ∀ W : Int → Prop, W s → (∀ e ∈ N, W (10 + e.2) → W e.1) → (∀ e ∈ E, e ∉ N → W e.1 → W (10 + e.2)) → ∀ x ∈ R, W x
noncomputable def Wc (C : List Int) (x : Int) : Prop := (x < 10 ∧ x ∉ C) ∨ (10 ≤ x ∧ x ∈ C)

variable {E N M' : List (Int × Int)} {B A R C : List Int}
theorem Mx.bd (h : Mx E N) (b : Bd E) : Bd N := fun p hp => b p (h.sub p hp)
theorem wc_l (hb : Bd E) {e : Int × Int} (he : e ∈ E) : Wc C e.1 ↔ e.1 ∉ C := by
  have := hb e he
  unfold Wc
  constructor
  · rintro (h | h)
    · exact h.2
    · omega
  · intro h; exact .inl ⟨by omega, h⟩
theorem wc_r (hb : Bd E) {e : Int × Int} (he : e ∈ E) : Wc C (10 + e.2) ↔ 10 + e.2 ∈ C := by
  have := hb e he
  unfold Wc
  constructor
  · rintro (h | h)
    · omega
    · exact h.2
  · intro h; exact .inr ⟨by omega, h⟩

theorem Ctx.wc (X : Ctx E N B A) (hC : ∀ e ∈ E, e.1 ∈ C ∨ 10 + e.2 ∈ C) (hz : C.length ≤ N.length) :
    (∀ x ∈ B, Wc C x) ∧ (∀ x ∈ A, ¬ Wc C x) ∧ (∀ e ∈ N, Wc C (10 + e.2) → Wc C e.1) ∧ (∀ e ∈ E, e ∉ N → Wc C e.1 → Wc C (10 + e.2)) := by
  have hN : ∀ p ∈ N, p ∈ E := X.mx.sub
  refine xa0_3 (slack (X.mx.bd X.bd) X.mx.n1 X.mx.n2 (fun p hp => hC p (hN p hp)) hz) fun s1 s2 s3 => ?_
  have c1 : ∀ e ∈ N, Wc C (10 + e.2) → Wc C e.1 := fun e he h => by
    rw [wc_r X.bd (hN e he)] at h
    rw [wc_l X.bd (hN e he)]
    exact fun q => s3 e he q h
  have c2 : ∀ e ∈ E, e ∉ N → Wc C e.1 → Wc C (10 + e.2) := fun e he _ h => by
    rw [wc_l X.bd he] at h
    rw [wc_r X.bd he]
    exact (hC e he).resolve_left h
  refine ⟨X.b4 _ (fun e he hf => ?_) c1 c2, X.a4 (fun x => ¬ Wc C x) (fun e he hf h => ?_) (fun e he h q => h (c1 e he q)) (fun e he hn h q => h (c2 e he hn q)), c1, c2⟩
  · rw [wc_l X.bd he]
    intro q
    obtain ⟨p, hp, e'⟩ := s1 _ q (by have := X.bd e he; omega)
    exact hf p hp e'
  · rw [wc_r X.bd he] at h
    obtain ⟨p, hp, e'⟩ := s2 _ h (by have := X.bd e he; omega)
    exact hf p hp (by exact Int.add_left_cancel ‹_›)

theorem Ctx.disj (X : Ctx E N B A) : ∀ x ∈ B, x ∉ A := by
  refine xa1_2 (X.mx.cov) fun C h1 h2 => ?_
  refine xa0_3 (X.wc h2 (by omega)) fun w1 w2 _ => ?_
  exact fun x hx ha => w2 x ha (w1 x hx)
theorem Ctx.nd (X : Ctx E N B A) : N.Nodup := List.Pairwise.of_map _ (fun a b hab e => hab (by rw [e])) X.mx.n1
theorem Ctx.matchedL (X : Ctx E N B A) {e : Int × Int} (he : e ∈ E) (h : e.1 ∉ B) : ∃ p ∈ N, p.1 = e.1 := by
  apply Classical.byContradiction
  intro q
  exact h (X.b1 e he fun p hp e' => q ⟨p, hp, e'⟩)
theorem Ctx.matchedR (X : Ctx E N B A) {e : Int × Int} (he : e ∈ E) (h : 10 + e.2 ∉ A) : ∃ p ∈ N, p.2 = e.2 := by
  apply Classical.byContradiction
  intro q
  exact h (X.a1 e he fun p hp e' => q ⟨p, hp, e'⟩)
theorem eq_pair {a b : Int × Int} (h1 : a.1 = b.1) (h2 : a.2 = b.2) : a = b := Prod.ext h1 h2
theorem Ctx.inB (X : Ctx E N B A) {e : Int × Int} (he : e ∈ E) (h : e.1 ∈ B) : 10 + e.2 ∈ B := by
  by_cases hn : e ∈ N
  · -- e.1 is matched by e, so it was reached from 10 + e.2
    apply Classical.byContradiction
    intro q
    have := X.b4 (fun x => x ∈ B ∧ x ≠ e.1) (fun e' he' hf => ⟨X.b1 e' he' hf, fun e'' => hf e hn e''.symm⟩) (fun e' he' hw => ⟨X.b2 e' he' hw.1, fun e'' => by
      have := same_of_1 X.mx.n1 he' hn e''
      rw [this] at hw; exact q hw.1⟩) (fun e' he' hn' hw => ⟨X.b3 e' he' hn' hw.1, fun e'' => by
      have b1 := X.bd e' he'
      have b2 := X.bd e he
      omega⟩) e.1 h
    exact this.2 rfl
  · exact X.b3 e he hn h
theorem Ctx.inA (X : Ctx E N B A) {e : Int × Int} (he : e ∈ E) (h : 10 + e.2 ∈ A) : e.1 ∈ A := by
  by_cases hn : e ∈ N
  · apply Classical.byContradiction
    intro q
    have := X.a4 (fun x => x ∈ A ∧ x ≠ 10 + e.2) (fun e' he' hf => ⟨X.a1 e' he' hf, fun e'' => hf e hn (by exact Eq.symm (Int.add_left_cancel ‹_›))⟩) (fun e' he' hw => ⟨X.a2 e' he' hw.1, fun e'' => by
      have := same_of_2 X.mx.n2 he' hn (by exact Int.add_left_cancel ‹_›)
      rw [this] at hw; exact q hw.1⟩) (fun e' he' hn' hw => ⟨X.a3 e' he' hn' hw.1, fun e'' => by
      have b1 := X.bd e' he'
      have b2 := X.bd e he
      omega⟩) (10 + e.2) h
    exact this.2 rfl
  · exact X.a3 e he hn h

theorem Ctx.le (X : Ctx E N B A) {E' : List (Int × Int)} (hs : ∀ e ∈ E', e ∈ E) (h : Mx E' M') : M'.length ≤ N.length := by
  refine xa1_2 (X.mx.cov) fun C h1 h2 => ?_
  have := cov_len (h.bd fun e he => X.bd e (hs e he)) h.n1 h.n2 (fun p hp => h2 p (hs p (h.sub p hp)))
  exact oR' ‹_› ‹_›
theorem bool_iff {a b : Bool} (h : a = true ↔ b = true) : a = b := by cases a <;> cases b <;> simp_all

theorem Ctx.left (X : Ctx E N B A) {l : Int} (hl : ∃ e ∈ E, e.1 = l) (h : Mx (E.filter fun x => decide (x.1 ≠ l)) M') : decide (M'.length = N.length) = decide (l ∈ B) := by
  have hs : ∀ e ∈ (E.filter fun x => decide (x.1 ≠ l)), e ∈ E ∧ e.1 ≠ l := fun e he => ⟨(List.mem_filter.mp he).1, of_decide_eq_true (List.mem_filter.mp he).2⟩
  have hin : ∀ e ∈ E, e.1 ≠ l → e ∈ (E.filter fun x => decide (x.1 ≠ l)) := fun e he hne => List.mem_filter.mpr ⟨he, decide_eq_true hne⟩
  have hle := X.le (fun e he => (hs e he).1) h
  have hl10 : l < 10 := by obtain ⟨e, he, rfl⟩ := hl; have := X.bd e he; omega
  refine bool_iff ?_
  rw [decide_eq_true_iff, decide_eq_true_iff]
  constructor
  · intro heq
    apply Classical.byContradiction
    intro hlB
    refine xa1_2 (hl) fun e he he2 => ?_
    obtain rfl := he2
    refine xa1_2 (X.matchedL he hlB) fun pl hpl epl => ?_
    have hD := cov_len (C := (N.erase pl).map fun p => if p.1 ∈ B then 10 + p.2 else p.1) (h.bd fun e he => X.bd e (hs e he).1) h.n1 h.n2 fun p hp => by
      refine xa0_2 (hs p (h.sub p hp)) fun hpE hpl' => ?_
      by_cases hpB : p.1 ∈ B
      · right
        have h10 := X.inB hpE hpB
        refine xa1_2 (X.matchedR hpE (fun hA => X.disj _ h10 hA)) fun q hq eq => ?_
        have hqB : q.1 ∈ B := X.b2 q hq (by rw [eq]; exact h10)
        refine List.mem_map.mpr ⟨q, (X.nd.mem_erase_iff).mpr ⟨fun e' => ?_, hq⟩, by rw [if_pos hqB, eq]⟩
        rw [e', epl] at hqB; exact hlB hqB
      · left
        refine xa1_2 (X.matchedL hpE hpB) fun q hq eq => ?_
        refine List.mem_map.mpr ⟨q, (X.nd.mem_erase_iff).mpr ⟨fun e' => ?_, hq⟩, by rw [eq, if_neg hpB]⟩
        rw [e', epl] at eq; exact hpl' eq.symm
    rw [List.length_map, List.length_erase_of_mem hpl] at hD
    have := List.length_pos_of_mem hpl
    omega
  · intro hlB
    apply Classical.byContradiction
    intro hne
    refine xa1_2 (h.cov) fun C h1 h2 => ?_
    have w := X.wc (C := l :: C) (fun e he => by
      by_cases q : e.1 = l
      · left; rw [q]; exact .head _
      · rcases h2 e (hin e he q) with z | z
        · exact .inl (.tail _ z)
        · exact .inr (.tail _ z)) (by simp only [List.length_cons]; omega)
    rcases w.1 l hlB with q | q
    · exact q.2 (.head _)
    · omega

theorem Ctx.right (X : Ctx E N B A) {r : Int} (hr : ∃ e ∈ E, e.2 = r) (h : Mx (E.filter fun x => decide (x.2 ≠ r)) M') : decide (M'.length = N.length) = decide (10 + r ∈ A) := by
  have hs : ∀ e ∈ (E.filter fun x => decide (x.2 ≠ r)), e ∈ E ∧ e.2 ≠ r := fun e he => ⟨(List.mem_filter.mp he).1, of_decide_eq_true (List.mem_filter.mp he).2⟩
  have hin : ∀ e ∈ E, e.2 ≠ r → e ∈ (E.filter fun x => decide (x.2 ≠ r)) := fun e he hne => List.mem_filter.mpr ⟨he, decide_eq_true hne⟩
  have hle := X.le (fun e he => (hs e he).1) h
  have hr10 : 0 ≤ r := by obtain ⟨e, he, rfl⟩ := hr; have := X.bd e he; exact And.left (And.right (And.right ‹_›))
  refine bool_iff ?_
  rw [decide_eq_true_iff, decide_eq_true_iff]
  constructor
  · intro heq
    apply Classical.byContradiction
    intro hrA
    refine xa1_2 (hr) fun e he he3 => ?_
    obtain rfl := he3
    refine xa1_2 (X.matchedR he hrA) fun pr hpr epr => ?_
    have hD := cov_len (C := (N.erase pr).map fun p => if 10 + p.2 ∈ A then p.1 else 10 + p.2) (h.bd fun e he => X.bd e (hs e he).1) h.n1 h.n2 fun p hp => by
      refine xa0_2 (hs p (h.sub p hp)) fun hpE hpr' => ?_
      by_cases hpA : 10 + p.2 ∈ A
      · left
        have h10 := X.inA hpE hpA
        refine xa1_2 (X.matchedL hpE (fun hB => X.disj _ hB h10)) fun q hq eq => ?_
        have hqA : 10 + q.2 ∈ A := X.a2 q hq (by rw [eq]; exact h10)
        refine List.mem_map.mpr ⟨q, (X.nd.mem_erase_iff).mpr ⟨fun e' => ?_, hq⟩, by rw [if_pos hqA, eq]⟩
        rw [e', epr] at hqA; exact hrA hqA
      · right
        refine xa1_2 (X.matchedR hpE hpA) fun q hq eq => ?_
        refine List.mem_map.mpr ⟨q, (X.nd.mem_erase_iff).mpr ⟨fun e' => ?_, hq⟩, by rw [eq, if_neg hpA]⟩
        rw [e', epr] at eq; exact hpr' eq.symm
    rw [List.length_map, List.length_erase_of_mem hpr] at hD
    have := List.length_pos_of_mem hpr
    omega
  · intro hrA
    apply Classical.byContradiction
    intro hne
    refine xa1_2 (h.cov) fun C h1 h2 => ?_
    have w := X.wc (C := (10 + r) :: C) (fun e he => by
      by_cases q : e.2 = r
      · right; rw [q]; exact .head _
      · rcases h2 e (hin e he q) with z | z
        · exact .inl (.tail _ z)
        · exact .inr (.tail _ z)) (by simp only [List.length_cons]; omega)
    exact w.2.1 _ hrA (.inr ⟨by omega, .head _⟩)
end Mine
end
section
namespace Mine
variable {E N M' : List (Int × Int)} {B A R C : List Int}
theorem Ctx.erase_n (X : Ctx E N B A) (e : Int × Int) : ((N.erase e).map (·.1)).Nodup ∧ ((N.erase e).map (·.2)).Nodup :=
  ⟨X.mx.n1.sublist (List.erase_sublist.map _), X.mx.n2.sublist (List.erase_sublist.map _)⟩
noncomputable abbrev wonF (E : List (Int × Int)) (e : Int × Int) : List (Int × Int) := E.filter fun x => decide (x.1 ≠ e.1) && decide (x.2 ≠ e.2)
theorem mem_won {e x : Int × Int} : x ∈ wonF E e ↔ x ∈ E ∧ x.1 ≠ e.1 ∧ x.2 ≠ e.2 := by
  unfold wonF
  rw [List.mem_filter, Bool.and_eq_true, decide_eq_true_iff, decide_eq_true_iff]
theorem Ctx.won_le (X : Ctx E N B A) {e : Int × Int} (he : e ∈ E) (h : Mx (wonF E e) M') : M'.length + 1 ≤ N.length := by
  refine xa1_2 (X.mx.cov) fun C h1 h2 => ?_
  have hbe := X.bd e he
  have hbM : Bd M' := h.bd fun x hx => X.bd x (mem_won.mp hx).1
  refine xa1_2 (show ∃ c ∈ C, c = e.1 ∨ c = 10 + e.2 from by
    rcases h2 e he with q | q
    · exact ⟨_, q, .inl rfl⟩
    · exact ⟨_, q, .inr rfl⟩) fun c hc hcc => ?_
  have := cov_len (C := C.erase c) hbM h.n1 h.n2 fun p hp => by
    refine xa0_3 (mem_won.mp (h.sub p hp)) fun q1 q2 q3 => ?_
    have hbp := X.bd p q1
    have n1 : p.1 ≠ c := by rcases hcc with rfl | rfl <;> (first | assumption | lia)
    have n2 : 10 + p.2 ≠ c := by rcases hcc with rfl | rfl <;> omega
    rcases h2 p q1 with q | q
    · exact .inl ((List.mem_erase_of_ne n1).mpr q)
    · exact .inr ((List.mem_erase_of_ne n2).mpr q)
  rw [List.length_erase_of_mem hc] at this
  have := List.length_pos_of_mem hc
  omega
theorem Ctx.won_in (X : Ctx E N B A) {e : Int × Int} (hn : e ∈ N) (h : Mx (wonF E e) M') : M'.length + 1 = N.length := by
  have h1 := X.won_le (X.mx.sub e hn) h
  refine xa1_2 (h.cov) fun C h2 h3 => ?_
  have := cov_len (N := N.erase e) (C := C) (fun p hp => X.bd p (X.mx.sub p (List.mem_of_mem_erase hp))) (X.erase_n e).1 (X.erase_n e).2 fun p hp => by
    refine xa0_2 ((X.nd.mem_erase_iff).mp hp) fun q1 q2 => ?_
    exact h3 p (mem_won.mpr ⟨X.mx.sub p q2, fun z => q1 (same_of_1 X.mx.n1 q2 hn z), fun z => q1 (same_of_2 X.mx.n2 q2 hn z)⟩)
  rw [List.length_erase_of_mem hn] at this
  omega

theorem Ctx.woe (X : Ctx E N B A) {e : Int × Int} (hn : e ∈ N) (hR : RC E N e.1 R) (h : Mx (E.filter (· ≠ e)) M') :
    decide (M'.length = N.length) = ((decide (e.1 ∈ B) || decide (10 + e.2 ∈ A)) || decide (10 + e.2 ∈ R)) := by
  classical
  have he := X.mx.sub e hn
  have hs : ∀ x, x ∈ E.filter (· ≠ e) ↔ x ∈ E ∧ x ≠ e := fun x => by rw [List.mem_filter, decide_eq_true_iff]
  have hle := X.le (fun x hx => ((hs x).mp hx).1) h
  refine bool_iff ?_
  rw [Bool.or_eq_true, Bool.or_eq_true, decide_eq_true_iff, decide_eq_true_iff, decide_eq_true_iff, decide_eq_true_iff]
  constructor
  · intro heq
    apply Classical.byContradiction
    intro hno
    have hB : e.1 ∉ B := fun q => hno (.inl (.inl q))
    have hA : 10 + e.2 ∉ A := fun q => hno (.inl (.inr q))
    have hR' : 10 + e.2 ∉ R := fun q => hno (.inr q)
    have hRA : ∀ x ∈ R, x ∉ A := hR.r4 (fun x => x ∉ A) (fun q => hA (X.a2 e hn q)) (fun e' he' q z => q (X.a2 e' he' z)) fun e' he' hn' q z => q (X.a3 e' he' hn' z)
    have z1 : ∀ e' ∈ N, (10 + e'.2 ∈ B ∨ 10 + e'.2 ∈ R) → (e'.1 ∈ B ∨ e'.1 ∈ R) := fun e' he' q => q.imp (X.b2 e' he') (hR.r2 e' he')
    have z2 : ¬ (10 + e.2 ∈ B ∨ 10 + e.2 ∈ R) := fun q => q.elim (fun q => hB (X.b2 e hn q)) hR'
    have hD := cov_len (C := (N.erase e).map fun p => if p.1 ∈ B ∨ p.1 ∈ R then 10 + p.2 else p.1) (h.bd fun x hx => X.bd x ((hs x).mp hx).1) h.n1 h.n2 fun p hp => by
      refine xa0_2 ((hs p).mp (h.sub p hp)) fun hpE hpe => ?_
      by_cases hz : p.1 ∈ B ∨ p.1 ∈ R
      · right
        by_cases hpN : p ∈ N
        · exact List.mem_map.mpr ⟨p, (X.nd.mem_erase_iff).mpr ⟨hpe, hpN⟩, by rw [if_pos hz]⟩
        · have h10 : 10 + p.2 ∈ B ∨ 10 + p.2 ∈ R := hz.imp (X.b3 p hpE hpN) (hR.r3 p hpE hpN)
          refine xa1_2 (X.matchedR hpE (fun a => h10.elim (fun b => X.disj _ b a) fun b => hRA _ b a)) fun q hq eq => ?_
          refine List.mem_map.mpr ⟨q, (X.nd.mem_erase_iff).mpr ⟨fun e' => ?_, hq⟩, by rw [if_pos (z1 q hq (by rw [eq]; exact h10)), eq]⟩
          rw [← e', eq] at z2; exact z2 h10
      · left
        refine xa1_2 (X.matchedL hpE (fun b => hz (.inl b))) fun q hq eq => ?_
        refine List.mem_map.mpr ⟨q, (X.nd.mem_erase_iff).mpr ⟨fun e' => ?_, hq⟩, by rw [eq, if_neg hz]⟩
        rw [← eq, e'] at hz; exact hz (.inr hR.r1)
    rw [List.length_map, List.length_erase_of_mem hn] at hD
    have := List.length_pos_of_mem hn
    omega
  · intro hyes
    apply Classical.byContradiction
    intro hne
    refine xa1_2 (h.cov) fun C h1 h2 => ?_
    have hpos := List.length_pos_of_mem hn
    have hlenE : (N.erase e).length = N.length - 1 := List.length_erase_of_mem hn
    have hmE : ∀ p, p ∈ N.erase e ↔ p ≠ e ∧ p ∈ N := fun p => X.nd.mem_erase_iff
    refine xa0_3 (slack (N := N.erase e) (C := C) (fun p hp => X.bd p (X.mx.sub p ((hmE p).mp hp).2)) (X.erase_n e).1 (X.erase_n e).2 (fun p hp => by
      obtain ⟨q1, q2⟩ := (hmE p).mp hp
      exact h2 p ((hs p).mpr ⟨X.mx.sub p q2, q1⟩)) (by omega)) fun s1 s2 s3 => ?_
    have hbe := X.bd e he
    have n1 : e.1 ∉ C := fun q => by
      refine xa1_2 (s1 _ q (by omega)) fun p hp e' => ?_
      refine xa0_2 ((hmE p).mp hp) fun q1 q2 => ?_
      exact q1 (same_of_1 X.mx.n1 q2 hn e')
    have n2 : 10 + e.2 ∉ C := fun q => by
      refine xa1_2 (s2 _ q (by omega)) fun p hp e' => ?_
      refine xa0_2 ((hmE p).mp hp) fun q1 q2 => ?_
      exact q1 (same_of_2 X.mx.n2 q2 hn (by exact Int.add_left_cancel ‹_›))
    have c1 : ∀ e' ∈ N, Wc C (10 + e'.2) → Wc C e'.1 := fun e' he' w => by
      rw [wc_r X.bd (X.mx.sub e' he')] at w
      rw [wc_l X.bd (X.mx.sub e' he')]
      intro q
      by_cases z : e' = e
      · rw [z] at w; exact n2 w
      · exact s3 e' ((hmE e').mpr ⟨z, he'⟩) q w
    have c2 : ∀ e' ∈ E, e' ∉ N → Wc C e'.1 → Wc C (10 + e'.2) := fun e' he' hn' w => by
      rw [wc_l X.bd he'] at w
      rw [wc_r X.bd he']
      exact (h2 e' ((hs e').mpr ⟨he', fun z => hn' (z ▸ hn)⟩)).resolve_left w
    have wB : ∀ x ∈ B, Wc C x := X.b4 _ (fun e' he' hf => by
      rw [wc_l X.bd he']
      intro q
      obtain ⟨p, hp, z⟩ := s1 _ q (by have := X.bd e' he'; omega)
      exact hf p ((hmE p).mp hp).2 z) c1 c2
    have wA : ∀ x ∈ A, ¬ Wc C x := X.a4 (fun x => ¬ Wc C x) (fun e' he' hf w => by
      rw [wc_r X.bd he'] at w
      obtain ⟨p, hp, z⟩ := s2 _ w (by have := X.bd e' he'; omega)
      exact hf p ((hmE p).mp hp).2 (by exact Int.add_left_cancel ‹_›)) (fun e' he' w q => w (c1 e' he' q)) (fun e' he' hn' w q => w (c2 e' he' hn' q))
    have we : Wc C e.1 := (wc_l X.bd he).mpr n1
    have wR : ∀ x ∈ R, Wc C x := hR.r4 _ we c1 c2
    rcases hyes with (q | q) | q
    · exact n2 ((wc_r X.bd he).mp (wB _ (X.inB he q)))
    · exact wA _ (X.inA he q) we
    · exact n2 ((wc_r X.bd he).mp (wR _ q))

theorem Ctx.won_out (X : Ctx E N B A) {e : Int × Int} (he : e ∈ E) (hn : e ∉ N) (hR : RC E N (10 + e.2) R) (h : Mx (wonF E e) M') :
    decide (M'.length + 1 = N.length) = ((decide (e.1 ∈ B) || decide (10 + e.2 ∈ A)) || decide (e.1 ∈ R)) := by
  classical
  have hle := X.won_le he h
  have hbe := X.bd e he
  refine bool_iff ?_
  rw [Bool.or_eq_true, Bool.or_eq_true, decide_eq_true_iff, decide_eq_true_iff, decide_eq_true_iff, decide_eq_true_iff]
  constructor
  · intro heq
    apply Classical.byContradiction
    intro hno
    have hB : e.1 ∉ B := fun q => hno (.inl (.inl q))
    have hA : 10 + e.2 ∉ A := fun q => hno (.inl (.inr q))
    have hR' : e.1 ∉ R := fun q => hno (.inr q)
    refine xa1_2 (X.matchedL he hB) fun pl hpl epl => ?_
    refine xa1_2 (X.matchedR he hA) fun pr hpr epr => ?_
    have hne : pr ≠ pl := fun z => hn (by
      have : e = pr := eq_pair (by rw [z]; exact epl.symm) epr.symm
      rw [this]; exact hpr)
    have hRA : ∀ x ∈ R, x ∉ A := hR.r4 (fun x => x ∉ A) hA (fun e' he' q z => q (X.a2 e' he' z)) fun e' he' hn' q z => q (X.a3 e' he' hn' z)
    have z1 : ∀ e' ∈ N, (10 + e'.2 ∈ B ∨ 10 + e'.2 ∈ R) → (e'.1 ∈ B ∨ e'.1 ∈ R) := fun e' he' q => q.imp (X.b2 e' he') (hR.r2 e' he')
    have z2 : ¬ (e.1 ∈ B ∨ e.1 ∈ R) := fun q => q.elim hB hR'
    have z3 : pr.1 ∈ B ∨ pr.1 ∈ R := z1 pr hpr (.inr (by rw [epr]; exact hR.r1))
    have hm : ∀ p, p ∈ (N.erase pl).erase pr ↔ p ≠ pr ∧ p ≠ pl ∧ p ∈ N := fun p => by
      rw [(X.nd.erase pl).mem_erase_iff, X.nd.mem_erase_iff]
    have hD := cov_len (C := ((N.erase pl).erase pr).map fun p => if p.1 ∈ B ∨ p.1 ∈ R then 10 + p.2 else p.1) (h.bd fun x hx => X.bd x (mem_won.mp hx).1) h.n1 h.n2 fun p hp => by
      refine xa0_3 (mem_won.mp (h.sub p hp)) fun hpE hp1 hp2 => ?_
      by_cases hz : p.1 ∈ B ∨ p.1 ∈ R
      · right
        by_cases hpN : p ∈ N
        · exact List.mem_map.mpr ⟨p, (hm p).mpr ⟨fun z => hp2 (by rw [z]; exact epr), fun z => hp1 (by rw [z]; exact epl), hpN⟩, by rw [if_pos hz]⟩
        · have h10 : 10 + p.2 ∈ B ∨ 10 + p.2 ∈ R := hz.imp (X.b3 p hpE hpN) (hR.r3 p hpE hpN)
          refine xa1_2 (X.matchedR hpE (fun a => h10.elim (fun b => X.disj _ b a) fun b => hRA _ b a)) fun q hq eq => ?_
          have hzq := z1 q hq (by rw [eq]; exact h10)
          refine List.mem_map.mpr ⟨q, (hm q).mpr ⟨fun z => hp2 (by rw [← eq, z]; exact epr), fun z => ?_, hq⟩, by rw [if_pos hzq, eq]⟩
          rw [z, epl] at hzq; exact z2 hzq
      · left
        refine xa1_2 (X.matchedL hpE (fun b => hz (.inl b))) fun q hq eq => ?_
        refine List.mem_map.mpr ⟨q, (hm q).mpr ⟨fun z => ?_, fun z => hp1 (by rw [← eq, z]; exact epl), hq⟩, by rw [eq, if_neg hz]⟩
        rw [← eq, z] at hz; exact hz z3
    have hpr' : pr ∈ N.erase pl := (X.nd.mem_erase_iff).mpr ⟨hne, hpr⟩
    rw [List.length_map, List.length_erase_of_mem hpr', List.length_erase_of_mem hpl] at hD
    have k1 := List.length_pos_of_mem hpr'
    rw [List.length_erase_of_mem hpl] at k1
    omega
  · intro hyes
    apply Classical.byContradiction
    intro hne
    refine xa1_2 (h.cov) fun C h1 h2 => ?_
    have w := X.wc (C := e.1 :: (10 + e.2) :: C) (fun x hx => by
      by_cases q1 : x.1 = e.1
      · left; rw [q1]; exact .head _
      · by_cases q2 : x.2 = e.2
        · right; rw [q2]; exact .tail _ (.head _)
        · rcases h2 x (mem_won.mpr ⟨hx, q1, q2⟩) with z | z
          · exact .inl (.tail _ (.tail _ z))
          · exact .inr (.tail _ (.tail _ z))) (by simp only [List.length_cons]; omega)
    have we : ¬ Wc (e.1 :: (10 + e.2) :: C) e.1 := fun q => (wc_l X.bd he).mp q (.head _)
    have wr : Wc (e.1 :: (10 + e.2) :: C) (10 + e.2) := (wc_r X.bd he).mpr (.tail _ (.head _))
    rcases hyes with (q | q) | q
    · exact we (w.1 _ q)
    · exact w.2.1 _ q wr
    · exact we (hR.r4 _ wr w.2.2.1 w.2.2.2 _ q)
end Mine
end
section
namespace Mine
theorem rowR_mem (x y : Int) : ∀ (as : List (Int × Int)) (r : List Int), y ∈ rowR x as r ↔ y ∈ r ∨ ∃ a ∈ as, a.1 = x ∧ a.2 = y
  | [], r => by simp [rowR]
  | a :: as, r => by
    rw [rowR]
    split
    · rename_i h
      rw [rowR_mem x y as, List.mem_append]
      simp only [List.mem_cons, List.not_mem_nil, or_false]
      constructor
      · rintro ((q | q) | ⟨b, q1, q2⟩)
        · exact .inl q
        · refine .inr ?_
          refine xi1_3 a (.inl rfl) h.1 q.symm
        · refine .inr ?_
          refine xi1_2 b (.inr q1) q2
      · rintro (q | ⟨b, rfl | q1, q2, q3⟩)
        · exact .inl (.inl q)
        · exact .inl (.inr q3.symm)
        · refine .inr ?_
          refine xi1_3 b q1 q2 q3
    · rename_i h
      rw [rowR_mem x y as]
      simp only [List.mem_cons]
      constructor
      · rintro (q | ⟨b, q1, q2⟩)
        · exact .inl q
        · refine .inr ?_
          refine xi1_2 b (.inr q1) q2
      · rintro (q | ⟨b, rfl | q1, q2, q3⟩)
        · exact .inl q
        · left
          apply Classical.byContradiction
          intro z
          refine h ?_
          refine xi0_2 q2 (fun w => z (q3 ▸ w))
        · refine .inr ?_
          refine xi1_3 b q1 q2 q3
theorem rowR_nodup (x : Int) : ∀ (as : List (Int × Int)) (r : List Int), r.Nodup → (rowR x as r).Nodup
  | [], r, h => h
  | a :: as, r, h => by
    rw [rowR]
    split
    · rename_i q
      refine rowR_nodup x as _ ?_
      rw [List.nodup_append]
      refine xi0_3 h (by simp) (fun u hu v hv e => ?_)
      simp only [List.mem_cons, List.not_mem_nil, or_false] at hv
      subst hv; subst e; exact q.2 hu
    · exact rowR_nodup x as r h

theorem loopR_ok {ar : List (Int × Int)} {U : List Int} (hU : ∀ a ∈ ar, a.2 ∈ U) : ∀ (n k : Nat) (r : List Int), r.Nodup → (∀ x ∈ r, x ∈ U) → k ≤ r.length → U.length + 1 ≤ n + k → (∀ i x, i < k → r[i]? = some x → ∀ a ∈ ar, a.1 = x → a.2 ∈ r) →
    ∃ r', loopR ar n k r = some r' ∧ r'.Nodup ∧ (∀ x ∈ r', x ∈ U) ∧ (∀ x ∈ r, x ∈ r') ∧ (∀ a ∈ ar, a.1 ∈ r' → a.2 ∈ r') ∧ (∀ W : Int → Prop, (∀ x ∈ r, W x) → (∀ a ∈ ar, W a.1 → W a.2) → ∀ x ∈ r', W x)
  | 0, k, r, hn, hs, hk, hm, _ => by have := nodup_len hn hs; omega
  | n + 1, k, r, hn, hs, hk, hm, hp => by
    rw [loopR]
    cases h : r[k]? with
    | none =>
      refine xi1_6 r rfl hn hs (fun _ q => q) (fun a ha hr => ?_) (fun W h _ => h)
      refine xa1_1 (List.mem_iff_getElem?.mp hr) fun i hi => ?_
      have h1 := (List.getElem?_eq_some_iff.mp hi).1
      have h2 := List.getElem?_eq_none_iff.mp h
      exact hp i _ (by exact oI' ‹_› ‹_›) hi a ha rfl
    | some x =>
      have hx : x ∈ r := List.mem_of_getElem? h
      have hg := rowR_get x ar r h
      have hin : ∀ y ∈ r, y ∈ rowR x ar r := fun y hy => (rowR_mem x y ar r).mpr (.inl hy)
      refine xa1_6 (loopR_ok hU n (k + 1) (rowR x ar r) (rowR_nodup x ar r hn) (fun y hy => by
        rcases (rowR_mem x y ar r).mp hy with q | ⟨a, q1, q2, q3⟩
        · exact hs y q
        · rw [← q3]; exact hU a q1) ((List.getElem?_eq_some_iff.mp hg).1) (by omega) (fun i y hi hy a ha hay => by
        by_cases q : i < k
        · have hlt : i < r.length := by exact oI' ‹_› ‹_›
          have h1 : r[i]? = some r[i] := List.getElem?_eq_getElem hlt
          have h2 := rowR_get x ar r h1
          rw [h2] at hy
          rw [hy] at h1
          exact hin _ (hp i y q h1 a ha hay)
        · have : i = k := by omega
          subst this
          rw [hg] at hy; cases hy
          exact (rowR_mem x a.2 ar r).mpr (.inr ⟨a, ha, hay, rfl⟩))) fun r' e1 e2 e3 e4 e5 e6 => ?_
      refine xi1_6 r' e1 e2 e3 (fun y hy => e4 y (hin y hy)) e5 (fun W hW hc => e6 W (fun y hy => ?_) hc)
      rcases (rowR_mem x y ar r).mp hy with q | ⟨a, q1, q2, q3⟩
      · exact hW y q
      · rw [← q3]; exact hc a q1 (by rw [q2]; exact hW x hx)

noncomputable abbrev UU : List Int := [0, 1, 2, 3, 10, 11, 12, 13]
theorem memU_l {x : Int} (h0 : 0 ≤ x) (h4 : x < 4) : x ∈ UU := by
  have : x = 0 ∨ x = 1 ∨ x = 2 ∨ x = 3 := by omega
  rcases this with rfl | rfl | rfl | rfl <;> decide
theorem memU_r {x : Int} (h0 : 0 ≤ x) (h4 : x < 4) : 10 + x ∈ UU := by
  have : x = 0 ∨ x = 1 ∨ x = 2 ∨ x = 3 := by omega
  rcases this with rfl | rfl | rfl | rfl <;> decide
theorem reach_ok {ar : List (Int × Int)} (hU : ∀ a ∈ ar, a.2 ∈ UU) {st : List Int} (hn : st.Nodup) (hs : ∀ x ∈ st, x ∈ UU) :
    ∃ r, loopR ar 20 0 st = some r ∧ r.length ≤ 8 ∧ (∀ x ∈ st, x ∈ r) ∧ (∀ a ∈ ar, a.1 ∈ r → a.2 ∈ r) ∧ (∀ W : Int → Prop, (∀ x ∈ st, W x) → (∀ a ∈ ar, W a.1 → W a.2) → ∀ x ∈ r, W x) := by
  refine xa1_6 (loopR_ok hU 20 0 st hn hs (Nat.zero_le _) (by decide) (fun i x h => absurd h (Nat.not_lt_zero _))) fun r e1 e2 e3 e4 e5 e6 => ?_
  refine xi1_5 r e1 (nodup_len e2 e3) e4 e5 e6

theorem arr_mem {E N : List (Int × Int)} (n1 : (N.map (·.1)).Nodup) (a : Int × Int) : a ∈ arrowsOf E N ↔ ∃ e ∈ E, (e ∈ N ∧ a = (10 + e.2, e.1)) ∨ (e ∉ N ∧ a = (e.1, 10 + e.2)) := by
  unfold arrowsOf
  rw [List.mem_map]
  have hg : ∀ e : Int × Int, get N e.1 = some e.2 ↔ e ∈ N := fun e => ⟨fun h => get_mem h, fun h => get_of_mem n1 h⟩
  constructor
  · intro hp1
    refine xa1_2 (hp1) fun e he he2 => ?_
    obtain rfl := he2
    refine xi1_2 e he ?_
    by_cases q : e ∈ N
    · refine .inl ?_
      refine xi0_2 q (by rw [if_pos ((hg e).mpr q)])
    · refine .inr ?_
      refine xi0_2 q (by rw [if_neg (fun z => q ((hg e).mp z))])
  · rintro ⟨e, he, ⟨q, rfl⟩ | ⟨q, rfl⟩⟩
    · refine xi1_2 e he (by rw [if_pos ((hg e).mpr q)])
    · refine xi1_2 e he (by rw [if_neg (fun z => q ((hg e).mp z))])

section
variable {E N : List (Int × Int)}
theorem arr_clo (hm : Mx E N) {W : Int → Prop} (h1 : ∀ e ∈ N, W (10 + e.2) → W e.1) (h2 : ∀ e ∈ E, e ∉ N → W e.1 → W (10 + e.2)) : ∀ a ∈ arrowsOf E N, W a.1 → W a.2 := by
  intro a ha hw
  obtain ⟨e, he, ⟨q, rfl⟩ | ⟨q, rfl⟩⟩ := (arr_mem hm.n1 a).mp ha
  · exact h1 e q hw
  · exact h2 e he q hw
theorem arr_cloB (hm : Mx E N) {W : Int → Prop} (h1 : ∀ e ∈ N, W e.1 → W (10 + e.2)) (h2 : ∀ e ∈ E, e ∉ N → W (10 + e.2) → W e.1) : ∀ a ∈ (arrowsOf E N).map (fun a => (a.2, a.1)), W a.1 → W a.2 := by
  intro a ha hw
  refine xa1_2 (List.mem_map.mp ha) fun b hb he3 => ?_
  obtain rfl := he3
  obtain ⟨e, he, ⟨q, rfl⟩ | ⟨q, rfl⟩⟩ := (arr_mem hm.n1 b).mp hb
  · exact h1 e q hw
  · exact h2 e he q hw
theorem arr_U (hb : Bd E) (hm : Mx E N) : ∀ a ∈ arrowsOf E N, a.1 ∈ UU ∧ a.2 ∈ UU := by
  intro a ha
  obtain ⟨e, he, ⟨q, rfl⟩ | ⟨q, rfl⟩⟩ := (arr_mem hm.n1 a).mp ha
  · have := hb e he; exact ⟨memU_r (by exact And.left (And.right (And.right ‹_›))) (by exact And.right (And.right (And.right ‹_›))), memU_l (by exact And.left ‹_›) (by exact And.left (And.right ‹_›))⟩
  · have := hb e he; exact ⟨memU_l (by exact And.left ‹_›) (by exact And.left (And.right ‹_›)), memU_r (by exact And.left (And.right (And.right ‹_›))) (by exact And.right (And.right (And.right ‹_›)))⟩

theorem rc_ok (hb : Bd E) (hm : Mx E N) {s : Int} (hs : s ∈ UU) : ∃ r, loopR (arrowsOf E N) 20 0 [s] = some r ∧ RC E N s r := by
  refine xa1_5 (reach_ok (ar := arrowsOf E N) (fun a ha => (arr_U hb hm a ha).2) (st := [s]) (by simp) (fun x hx => by
    simp only [List.mem_cons, List.not_mem_nil, or_false] at hx; subst hx; exact hs)) fun r e1 _ e3 e4 e5 => ?_
  refine xi1_2 r e1 ⟨e3 s (.head _), fun e he h => ?_, fun e he hn h => ?_, fun W h1 h2 h3 => e5 W (fun x hx => ?_) (arr_clo hm h2 h3)⟩
  · exact e4 _ ((arr_mem hm.n1 _).mpr ⟨e, hm.sub e he, .inl ⟨he, rfl⟩⟩) h
  · exact e4 _ ((arr_mem hm.n1 _).mpr ⟨e, he, .inr ⟨hn, rfl⟩⟩) h
  · simp only [List.mem_cons, List.not_mem_nil, or_false] at hx; subst hx; exact h1

theorem ctx_ok (hb : Bd E) (hm : Mx E N) {sl sr : List Int} (nl : sl.Nodup) (nr : sr.Nodup) (hl : ∀ x, x ∈ sl ↔ (∃ e ∈ E, e.1 = x) ∧ ∀ p ∈ N, p.1 ≠ x) (hr : ∀ x, x ∈ sr ↔ ∃ e ∈ E, 10 + e.2 = x ∧ ∀ p ∈ N, p.2 ≠ e.2) :
    ∃ B A, loopR (arrowsOf E N) 20 0 sl = some B ∧ loopR ((arrowsOf E N).map fun a => (a.2, a.1)) 20 0 sr = some A ∧ B.length ≤ 8 ∧ Ctx E N B A := by
  refine xa1_5 (reach_ok (ar := arrowsOf E N) (fun a ha => (arr_U hb hm a ha).2) nl (fun x hx => by
    obtain ⟨⟨e, he, rfl⟩, _⟩ := (hl x).mp hx
    have := hb e he; exact memU_l (by exact And.left ‹_›) (by exact And.left (And.right ‹_›)))) fun B e1 e2 e3 e4 e5 => ?_
  refine xa1_5 (reach_ok (ar := (arrowsOf E N).map fun a => (a.2, a.1)) (fun a ha => by
    obtain ⟨b, hb', rfl⟩ := List.mem_map.mp ha
    exact (arr_U hb hm b hb').1) nr (fun x hx => by
    obtain ⟨e, he, rfl, _⟩ := (hr x).mp hx
    have := hb e he; exact memU_r (by exact And.left (And.right (And.right ‹_›))) (by exact And.right (And.right (And.right ‹_›))))) fun A f1 f2 f3 f4 f5 => ?_
  have back : ∀ a ∈ arrowsOf E N, a.2 ∈ A → a.1 ∈ A := fun a ha h => f4 (a.2, a.1) (List.mem_map.mpr ⟨a, ha, rfl⟩) h
  refine ⟨B, A, e1, f1, e2, ⟨hb, hm, fun e he hf => e3 _ ((hl _).mpr ⟨⟨e, he, rfl⟩, hf⟩), fun e he h => ?_, fun e he hn h => ?_, fun W h1 h2 h3 => e5 W (fun x hx => ?_) (arr_clo hm h2 h3),
    fun e he hf => f3 _ ((hr _).mpr ⟨e, he, rfl, hf⟩), fun e he h => ?_, fun e he hn h => ?_, fun W h1 h2 h3 => f5 W (fun x hx => ?_) (arr_cloB hm h2 h3)⟩⟩
  · exact e4 _ ((arr_mem hm.n1 _).mpr ⟨e, hm.sub e he, .inl ⟨he, rfl⟩⟩) h
  · exact e4 _ ((arr_mem hm.n1 _).mpr ⟨e, he, .inr ⟨hn, rfl⟩⟩) h
  · refine xa0_2 ((hl x).mp hx) fun hp4 hf => ?_
    refine xa1_2 (hp4) fun e he he5 => ?_
    obtain rfl := he5
    exact h1 e he hf
  · exact back (10 + e.2, e.1) ((arr_mem hm.n1 _).mpr ⟨e, hm.sub e he, .inl ⟨he, rfl⟩⟩) h
  · exact back (e.1, 10 + e.2) ((arr_mem hm.n1 _).mpr ⟨e, he, .inr ⟨hn, rfl⟩⟩) h
  · refine xa1_3 ((hr x).mp hx) fun e he he6 hf => ?_
    obtain rfl := he6
    exact h1 e he hf
end
end Mine
end
section
open PySem PySem.W PySem.Calls PyProof.Rows
namespace Mine
set_option linter.unusedSectionVars false
theorem EOk.bd {Ed : List (Int × Int)} (h : EOk Ed) : Bd Ed := fun e he => by
  refine xa2_3 (h.sm e he) fun l r hl hr he1 => ?_
  obtain rfl := he1
  exact ⟨by simp, by simp; omega, by simp, by simp; omega⟩
theorem find_both {Ed : List (Int × Int)} (hz : Ed.length ≤ 12) : ∃ M, FindOk Ed M ∧ Mx Ed M := by
  refine xa1_4 (find_ok hz) fun σ h1 h2 h3 h4 => ?_
  refine xi1_2 _ ⟨σ, h1, h2, h3, rfl⟩ h4
theorem nodup_mapI {l : List Nat} (h : l.Nodup) {f : Nat → Int} (hf : ∀ a b, f a = f b → a = b) : (l.map f).Nodup :=
  List.pairwise_map.mpr (h.imp fun {a b} hne e => hne (hf a b e))
theorem arrow_in {Ed M : List (Int × Int)} (hb : Bd Ed) (hm : Mx Ed M) {e : Int × Int} (he : e ∈ Ed) : (10 + e.2, e.1) ∈ arrowsOf Ed M ↔ e ∈ M := by
  rw [arr_mem hm.n1]
  constructor
  · rintro ⟨e', he', ⟨q, z⟩ | ⟨q, z⟩⟩
    · injection z with z1 z2
      have : e = e' := Prod.ext z2 (by exact Int.add_left_cancel ‹_›)
      rw [this]; exact q
    · injection z with z1 z2
      have b1 := hb e he
      have b2 := hb e' he'
      omega
  · intro q; exact ⟨e, he, .inl ⟨q, rfl⟩⟩

theorem law_ok {Ed : List (Int × Int)} (h : EOk Ed) : LawOk Ed := by
  have hb := h.bd
  have z7 := h.len
  refine xa1_2 (find_both (Ed := Ed) (by exact oL ‹_› (by exact rfl))) fun M hF hm => ?_
  have hgM : ∀ x : Int, (get M x).isSome = true ↔ ∃ p ∈ M, p.1 = x := fun x => by
    rw [get_isSome_iff, List.mem_map]
  have hl : ∀ x, x ∈ freeL Ed M ↔ (∃ e ∈ Ed, e.1 = x) ∧ ∀ p ∈ M, p.1 ≠ x := fun x => by
    unfold freeL
    rw [List.mem_map]
    constructor
    · intro hp2
      refine xa1_2 (hp2) fun n hn he3 => ?_
      obtain rfl := he3
      refine xa0_2 (List.mem_filter.mp hn) fun q1 q2 => ?_
      refine xi0_2 ((mem_lefts h n).mp q1) (fun p hp e => ?_)
      have := (hgM (n : Int)).mpr ⟨p, hp, e⟩
      rw [this] at q2; cases q2
    · intro hp4
      refine xa0_2 (hp4) fun hp5 hf => ?_
      refine xa1_2 (hp5) fun e he he6 => ?_
      obtain rfl := he6
      refine xa2_3 (h.sm e he) fun l r hl hr he7 => ?_
      obtain rfl := he7
      refine xi1_2 l (List.mem_filter.mpr ⟨(mem_lefts h l).mpr ⟨_, he, rfl⟩, ?_⟩) rfl
      cases q : (get M (l : Int)).isSome with
      | false => rfl
      | true => obtain ⟨p, hp, e⟩ := (hgM _).mp q; exact absurd e (hf p hp)
  have hany : ∀ n : Nat, ((M.map (·.2)).any fun y => y == (n : Int)) = true ↔ ∃ p ∈ M, p.2 = (n : Int) := fun n => by
    rw [List.any_eq_true]
    constructor
    · intro hp8
      refine xa1_2 (hp8) fun x hx e => ?_
      refine xa1_2 (List.mem_map.mp hx) fun p hp he9 => ?_
      obtain rfl := he9
      refine xi1_2 p hp (eq_of_beq e)
    · rintro ⟨p, hp, e⟩; exact ⟨p.2, List.mem_map.mpr ⟨p, hp, rfl⟩, by rw [e]; exact beq_self_eq_true _⟩
  have hr : ∀ x, x ∈ freeR Ed M ↔ ∃ e ∈ Ed, 10 + e.2 = x ∧ ∀ p ∈ M, p.2 ≠ e.2 := fun x => by
    unfold freeR
    rw [List.mem_map]
    constructor
    · intro hp10
      refine xa1_2 (hp10) fun n hn he11 => ?_
      obtain rfl := he11
      refine xa0_2 (List.mem_filter.mp hn) fun q1 q2 => ?_
      refine xa1_2 ((mem_rights h n).mp q1) fun e he ee => ?_
      refine xi1_3 e he (by rw [ee]) (fun p hp e' => ?_)
      have := (hany n).mpr ⟨p, hp, e'.trans ee⟩
      rw [this] at q2; cases q2
    · intro hp12
      refine xa1_3 (hp12) fun e he he13 hf => ?_
      obtain rfl := he13
      refine xa2_3 (h.sm e he) fun l r hl hr he14 => ?_
      obtain rfl := he14
      refine xi1_2 r (List.mem_filter.mpr ⟨(mem_rights h r).mpr ⟨_, he, rfl⟩, ?_⟩) rfl
      cases q : ((M.map (·.2)).any fun y => y == (r : Int)) with
      | false => rfl
      | true => obtain ⟨p, hp, e⟩ := (hany _).mp q; exact absurd e (hf p hp)
  have nl : (freeL Ed M).Nodup := nodup_mapI (List.Pairwise.filter _ (stI_nodup _)) (fun a b e => by omega)
  have nr : (freeR Ed M).Nodup := nodup_mapI (List.Pairwise.filter _ (stI_nodup _)) (fun a b e => by omega)
  refine xa2_4 (ctx_ok hb hm nl nr hl hr) fun B A e1 e2 e3 X => ?_
  refine xi3_10 M B A hF hm.sub hm.n2 e1 e2 (by exact oL ‹_› (by exact rfl)) X.disj (fun e he => ⟨fun hin => ?_, fun hin => ?_⟩) (fun l hl' => ?_) (fun r hr' => ?_)
  · have hn := (arrow_in hb hm he).mp hin
    have hbe := hb e he
    refine xa1_2 (rc_ok hb hm (s := e.1) (memU_l (by exact And.left ‹_›) (by exact And.left (And.right ‹_›)))) fun R r1 r2 => ?_
    obtain ⟨M1, g1, g2⟩ := find_both (Ed := woeE Ed e) (by have := woe_len Ed e; omega)
    obtain ⟨M2, k1, k2⟩ := find_both (Ed := wonE Ed e) (by have := won_len Ed e; omega)
    refine xi3_5 R M1 M2 r1 g1 k1 (X.woe hn r2 g2) (X.won_in hn k2)
  · have hn : e ∉ M := fun q => hin ((arrow_in hb hm he).mpr q)
    have hbe := hb e he
    refine xa1_2 (rc_ok hb hm (s := 10 + e.2) (memU_r (by exact And.left (And.right (And.right ‹_›))) (by exact And.right (And.right (And.right ‹_›))))) fun R r1 r2 => ?_
    obtain ⟨M2, k1, k2⟩ := find_both (Ed := wonE Ed e) (by have := won_len Ed e; omega)
    refine xi2_3 R M2 r1 k1 (X.won_out he hn r2 k2)
  · obtain ⟨M', k1, k2⟩ := find_both (Ed := Ed.filter fun x => decide (x.1 ≠ (l : Int))) (by have := List.length_filter_le (fun x : Int × Int => decide (x.1 ≠ (l : Int))) Ed; omega)
    refine xi1_2 M' k1 (X.left ((mem_lefts h l).mp hl') k2)
  · obtain ⟨M', k1, k2⟩ := find_both (Ed := Ed.filter fun x => decide (x.2 ≠ (r : Int))) (by have := List.length_filter_le (fun x : Int × Int => decide (x.2 ≠ (r : Int))) Ed; omega)
    refine xi1_2 M' k1 (X.right ((mem_rights h r).mp hr') k2)
theorem law_all (script : List Int) : LawOk (edgesOf script) := law_ok (edges_ok script)
end Mine
end
set_option Elab.async false
set_option maxRecDepth 100000
open PySem PySem.W PyProof.Rows PySem.Calls
set_option maxHeartbeats 8000000 in
theorem PySem.Challenge.cw_af0005_01_holds : PySem.Challenge.rw_af0005_01.Holds := by
  refine Mine.hd ?_
  all_goals (
    k_fill
    intro w s₀ s₁ mg mb G Y fa o pm cd doc dV kV ho hd hcd hD hmg hg args vals as hpre hlay hrd hwl hlo
    have KX := km_in_of Y
    have hT8 := km_tabs_of Y
    have X := (Ground.X G).1
    have V := (Ground.X G).2
    refine Ground.open G ?_
    intro T B D TE TW
    try (refine guard_noD D (by decide +kernel) ?_; clear D))
  all_goals (wrow_args hpre hlay hrd hwl hlo)
  rename_i script _ _ _ _ _ _ _ l vs _ hL _ _ _ hI _ hc _
  refine Mine.law_top KX hT8 T hg hmg hL hI (by omega) (Mine.law_all script) fun s' h1 h2 h3 => ?_
  exact ⟨.inl ⟨.bool true, .bool true, [], rfl, fun _ => rfl, .bool true, by kernel_rfl, fun _ => ⟨List.nodup_nil, fun _ h => nomatch h⟩⟩, h1, h2, h3⟩
