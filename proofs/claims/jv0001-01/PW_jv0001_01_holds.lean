import PyProof.Rows.All
import Wide.All
import OpenK.AllK
import Wide.FinOn
import Lean
import PySem.Challenge.RW_jv0001_01
open PySem PySem.W PyProof.Rows PySem.Spec PySem.Calls
set_option Elab.async false
set_option linter.all false
set_option maxRecDepth 100000
set_option maxHeartbeats 8000000
set_option compiler.extract_closed false
namespace Mine
local macro_rules | `(tactic| walk_at $s:str) => `(tactic| k_extra $s)
section
theorem fmc {α : Type _} {p : α → Prop} {a : α} {l : List α} (h : p a) (k : ∀ x ∈ l, p x) : ∀ x ∈ a :: l, p x := List.forall_mem_cons.mpr ⟨h, k⟩
theorem fma {α : Type _} {p : α → Prop} {l m : List α} (h : ∀ x ∈ l, p x) (k : ∀ x ∈ m, p x) : ∀ x ∈ l ++ m, p x := fun x e => (List.mem_append.mp e).elim (h x) (k x)
theorem an_2 {p1 p2 g : Prop} (h : p1 ∧ p2) (k : p1 → p2 → g) : g := k h.1 h.2
theorem an_3 {p1 p2 p3 g : Prop} (h : p1 ∧ p2 ∧ p3) (k : p1 → p2 → p3 → g) : g := an_2 h.2 (k h.1)
theorem an_4 {p1 p2 p3 p4 g : Prop} (h : p1 ∧ p2 ∧ p3 ∧ p4) (k : p1 → p2 → p3 → p4 → g) : g := an_3 h.2 (k h.1)
theorem an_5 {p1 p2 p3 p4 p5 g : Prop} (h : p1 ∧ p2 ∧ p3 ∧ p4 ∧ p5) (k : p1 → p2 → p3 → p4 → p5 → g) : g := an_4 h.2 (k h.1)
theorem an_6 {p1 p2 p3 p4 p5 p6 g : Prop} (h : p1 ∧ p2 ∧ p3 ∧ p4 ∧ p5 ∧ p6) (k : p1 → p2 → p3 → p4 → p5 → p6 → g) : g := an_5 h.2 (k h.1)
theorem an_7 {p1 p2 p3 p4 p5 p6 p7 g : Prop} (h : p1 ∧ p2 ∧ p3 ∧ p4 ∧ p5 ∧ p6 ∧ p7) (k : p1 → p2 → p3 → p4 → p5 → p6 → p7 → g) : g := an_6 h.2 (k h.1)
theorem an_8 {p1 p2 p3 p4 p5 p6 p7 p8 g : Prop} (h : p1 ∧ p2 ∧ p3 ∧ p4 ∧ p5 ∧ p6 ∧ p7 ∧ p8) (k : p1 → p2 → p3 → p4 → p5 → p6 → p7 → p8 → g) : g := an_7 h.2 (k h.1)
theorem an_9 {p1 p2 p3 p4 p5 p6 p7 p8 p9 g : Prop} (h : p1 ∧ p2 ∧ p3 ∧ p4 ∧ p5 ∧ p6 ∧ p7 ∧ p8 ∧ p9) (k : p1 → p2 → p3 → p4 → p5 → p6 → p7 → p8 → p9 → g) : g := an_8 h.2 (k h.1)
theorem an_10 {p1 p2 p3 p4 p5 p6 p7 p8 p9 p10 g : Prop} (h : p1 ∧ p2 ∧ p3 ∧ p4 ∧ p5 ∧ p6 ∧ p7 ∧ p8 ∧ p9 ∧ p10) (k : p1 → p2 → p3 → p4 → p5 → p6 → p7 → p8 → p9 → p10 → g) : g := an_9 h.2 (k h.1)
theorem an_11 {p1 p2 p3 p4 p5 p6 p7 p8 p9 p10 p11 g : Prop} (h : p1 ∧ p2 ∧ p3 ∧ p4 ∧ p5 ∧ p6 ∧ p7 ∧ p8 ∧ p9 ∧ p10 ∧ p11) (k : p1 → p2 → p3 → p4 → p5 → p6 → p7 → p8 → p9 → p10 → p11 → g) : g := an_10 h.2 (k h.1)
theorem xa_1_2 {t1 : Sort _} {p1 p2 : t1 → Prop} {g : Prop} (h : ∃ v1, p1 v1 ∧ p2 v1) (k : ∀ v1, p1 v1 → p2 v1 → g) : g := h.elim fun v1 h => an_2 h (k v1)
theorem xa_1_3 {t1 : Sort _} {p1 p2 p3 : t1 → Prop} {g : Prop} (h : ∃ v1, p1 v1 ∧ p2 v1 ∧ p3 v1) (k : ∀ v1, p1 v1 → p2 v1 → p3 v1 → g) : g := h.elim fun v1 h => an_3 h (k v1)
theorem xa_2_1 {t1 : Sort _} {t2 : Sort _} {p1 : t1 → t2 → Prop} {g : Prop} (h : ∃ v1 v2, p1 v1 v2) (k : ∀ v1 v2, p1 v1 v2 → g) : g := h.elim fun v1 h => h.elim fun v2 h => k v1 v2 h
theorem xa_2_2 {t1 : Sort _} {t2 : Sort _} {p1 p2 : t1 → t2 → Prop} {g : Prop} (h : ∃ v1 v2, p1 v1 v2 ∧ p2 v1 v2) (k : ∀ v1 v2, p1 v1 v2 → p2 v1 v2 → g) : g := h.elim fun v1 h => h.elim fun v2 h => an_2 h (k v1 v2)
theorem xa_2_3 {t1 : Sort _} {t2 : Sort _} {p1 p2 p3 : t1 → t2 → Prop} {g : Prop} (h : ∃ v1 v2, p1 v1 v2 ∧ p2 v1 v2 ∧ p3 v1 v2) (k : ∀ v1 v2, p1 v1 v2 → p2 v1 v2 → p3 v1 v2 → g) : g := h.elim fun v1 h => h.elim fun v2 h => an_3 h (k v1 v2)
theorem xa_2_4 {t1 : Sort _} {t2 : Sort _} {p1 p2 p3 p4 : t1 → t2 → Prop} {g : Prop} (h : ∃ v1 v2, p1 v1 v2 ∧ p2 v1 v2 ∧ p3 v1 v2 ∧ p4 v1 v2) (k : ∀ v1 v2, p1 v1 v2 → p2 v1 v2 → p3 v1 v2 → p4 v1 v2 → g) : g := h.elim fun v1 h => h.elim fun v2 h => an_4 h (k v1 v2)
theorem xa_2_6 {t1 : Sort _} {t2 : Sort _} {p1 p2 p3 p4 p5 p6 : t1 → t2 → Prop} {g : Prop} (h : ∃ v1 v2, p1 v1 v2 ∧ p2 v1 v2 ∧ p3 v1 v2 ∧ p4 v1 v2 ∧ p5 v1 v2 ∧ p6 v1 v2) (k : ∀ v1 v2, p1 v1 v2 → p2 v1 v2 → p3 v1 v2 → p4 v1 v2 → p5 v1 v2 → p6 v1 v2 → g) : g := h.elim fun v1 h => h.elim fun v2 h => an_6 h (k v1 v2)
theorem xa_3_2 {t1 : Sort _} {t2 : Sort _} {t3 : Sort _} {p1 p2 : t1 → t2 → t3 → Prop} {g : Prop} (h : ∃ v1 v2 v3, p1 v1 v2 v3 ∧ p2 v1 v2 v3) (k : ∀ v1 v2 v3, p1 v1 v2 v3 → p2 v1 v2 v3 → g) : g := h.elim fun v1 h => h.elim fun v2 h => h.elim fun v3 h => an_2 h (k v1 v2 v3)
theorem xa_3_3 {t1 : Sort _} {t2 : Sort _} {t3 : Sort _} {p1 p2 p3 : t1 → t2 → t3 → Prop} {g : Prop} (h : ∃ v1 v2 v3, p1 v1 v2 v3 ∧ p2 v1 v2 v3 ∧ p3 v1 v2 v3) (k : ∀ v1 v2 v3, p1 v1 v2 v3 → p2 v1 v2 v3 → p3 v1 v2 v3 → g) : g := h.elim fun v1 h => h.elim fun v2 h => h.elim fun v3 h => an_3 h (k v1 v2 v3)
theorem xa_3_4 {t1 : Sort _} {t2 : Sort _} {t3 : Sort _} {p1 p2 p3 p4 : t1 → t2 → t3 → Prop} {g : Prop} (h : ∃ v1 v2 v3, p1 v1 v2 v3 ∧ p2 v1 v2 v3 ∧ p3 v1 v2 v3 ∧ p4 v1 v2 v3) (k : ∀ v1 v2 v3, p1 v1 v2 v3 → p2 v1 v2 v3 → p3 v1 v2 v3 → p4 v1 v2 v3 → g) : g := h.elim fun v1 h => h.elim fun v2 h => h.elim fun v3 h => an_4 h (k v1 v2 v3)
theorem xa_3_5 {t1 : Sort _} {t2 : Sort _} {t3 : Sort _} {p1 p2 p3 p4 p5 : t1 → t2 → t3 → Prop} {g : Prop} (h : ∃ v1 v2 v3, p1 v1 v2 v3 ∧ p2 v1 v2 v3 ∧ p3 v1 v2 v3 ∧ p4 v1 v2 v3 ∧ p5 v1 v2 v3) (k : ∀ v1 v2 v3, p1 v1 v2 v3 → p2 v1 v2 v3 → p3 v1 v2 v3 → p4 v1 v2 v3 → p5 v1 v2 v3 → g) : g := h.elim fun v1 h => h.elim fun v2 h => h.elim fun v3 h => an_5 h (k v1 v2 v3)
theorem xa_3_6 {t1 : Sort _} {t2 : Sort _} {t3 : Sort _} {p1 p2 p3 p4 p5 p6 : t1 → t2 → t3 → Prop} {g : Prop} (h : ∃ v1 v2 v3, p1 v1 v2 v3 ∧ p2 v1 v2 v3 ∧ p3 v1 v2 v3 ∧ p4 v1 v2 v3 ∧ p5 v1 v2 v3 ∧ p6 v1 v2 v3) (k : ∀ v1 v2 v3, p1 v1 v2 v3 → p2 v1 v2 v3 → p3 v1 v2 v3 → p4 v1 v2 v3 → p5 v1 v2 v3 → p6 v1 v2 v3 → g) : g := h.elim fun v1 h => h.elim fun v2 h => h.elim fun v3 h => an_6 h (k v1 v2 v3)
theorem xa_3_9 {t1 : Sort _} {t2 : Sort _} {t3 : Sort _} {p1 p2 p3 p4 p5 p6 p7 p8 p9 : t1 → t2 → t3 → Prop} {g : Prop} (h : ∃ v1 v2 v3, p1 v1 v2 v3 ∧ p2 v1 v2 v3 ∧ p3 v1 v2 v3 ∧ p4 v1 v2 v3 ∧ p5 v1 v2 v3 ∧ p6 v1 v2 v3 ∧ p7 v1 v2 v3 ∧ p8 v1 v2 v3 ∧ p9 v1 v2 v3) (k : ∀ v1 v2 v3, p1 v1 v2 v3 → p2 v1 v2 v3 → p3 v1 v2 v3 → p4 v1 v2 v3 → p5 v1 v2 v3 → p6 v1 v2 v3 → p7 v1 v2 v3 → p8 v1 v2 v3 → p9 v1 v2 v3 → g) : g := h.elim fun v1 h => h.elim fun v2 h => h.elim fun v3 h => an_9 h (k v1 v2 v3)
theorem xa_3_10 {t1 : Sort _} {t2 : Sort _} {t3 : Sort _} {p1 p2 p3 p4 p5 p6 p7 p8 p9 p10 : t1 → t2 → t3 → Prop} {g : Prop} (h : ∃ v1 v2 v3, p1 v1 v2 v3 ∧ p2 v1 v2 v3 ∧ p3 v1 v2 v3 ∧ p4 v1 v2 v3 ∧ p5 v1 v2 v3 ∧ p6 v1 v2 v3 ∧ p7 v1 v2 v3 ∧ p8 v1 v2 v3 ∧ p9 v1 v2 v3 ∧ p10 v1 v2 v3) (k : ∀ v1 v2 v3, p1 v1 v2 v3 → p2 v1 v2 v3 → p3 v1 v2 v3 → p4 v1 v2 v3 → p5 v1 v2 v3 → p6 v1 v2 v3 → p7 v1 v2 v3 → p8 v1 v2 v3 → p9 v1 v2 v3 → p10 v1 v2 v3 → g) : g := h.elim fun v1 h => h.elim fun v2 h => h.elim fun v3 h => an_10 h (k v1 v2 v3)
theorem xa_4_4 {t1 : Sort _} {t2 : Sort _} {t3 : Sort _} {t4 : Sort _} {p1 p2 p3 p4 : t1 → t2 → t3 → t4 → Prop} {g : Prop} (h : ∃ v1 v2 v3 v4, p1 v1 v2 v3 v4 ∧ p2 v1 v2 v3 v4 ∧ p3 v1 v2 v3 v4 ∧ p4 v1 v2 v3 v4) (k : ∀ v1 v2 v3 v4, p1 v1 v2 v3 v4 → p2 v1 v2 v3 v4 → p3 v1 v2 v3 v4 → p4 v1 v2 v3 v4 → g) : g := h.elim fun v1 h => h.elim fun v2 h => h.elim fun v3 h => h.elim fun v4 h => an_4 h (k v1 v2 v3 v4)
theorem xa_5_8 {t1 : Sort _} {t2 : Sort _} {t3 : Sort _} {t4 : Sort _} {t5 : Sort _} {p1 p2 p3 p4 p5 p6 p7 p8 : t1 → t2 → t3 → t4 → t5 → Prop} {g : Prop} (h : ∃ v1 v2 v3 v4 v5, p1 v1 v2 v3 v4 v5 ∧ p2 v1 v2 v3 v4 v5 ∧ p3 v1 v2 v3 v4 v5 ∧ p4 v1 v2 v3 v4 v5 ∧ p5 v1 v2 v3 v4 v5 ∧ p6 v1 v2 v3 v4 v5 ∧ p7 v1 v2 v3 v4 v5 ∧ p8 v1 v2 v3 v4 v5) (k : ∀ v1 v2 v3 v4 v5, p1 v1 v2 v3 v4 v5 → p2 v1 v2 v3 v4 v5 → p3 v1 v2 v3 v4 v5 → p4 v1 v2 v3 v4 v5 → p5 v1 v2 v3 v4 v5 → p6 v1 v2 v3 v4 v5 → p7 v1 v2 v3 v4 v5 → p8 v1 v2 v3 v4 v5 → g) : g := h.elim fun v1 h => h.elim fun v2 h => h.elim fun v3 h => h.elim fun v4 h => h.elim fun v5 h => an_8 h (k v1 v2 v3 v4 v5)
theorem xa_8_3 {t1 : Sort _} {t2 : Sort _} {t3 : Sort _} {t4 : Sort _} {t5 : Sort _} {t6 : Sort _} {t7 : Sort _} {t8 : Sort _} {p1 p2 p3 : t1 → t2 → t3 → t4 → t5 → t6 → t7 → t8 → Prop} {g : Prop} (h : ∃ v1 v2 v3 v4 v5 v6 v7 v8, p1 v1 v2 v3 v4 v5 v6 v7 v8 ∧ p2 v1 v2 v3 v4 v5 v6 v7 v8 ∧ p3 v1 v2 v3 v4 v5 v6 v7 v8) (k : ∀ v1 v2 v3 v4 v5 v6 v7 v8, p1 v1 v2 v3 v4 v5 v6 v7 v8 → p2 v1 v2 v3 v4 v5 v6 v7 v8 → p3 v1 v2 v3 v4 v5 v6 v7 v8 → g) : g := h.elim fun v1 h => h.elim fun v2 h => h.elim fun v3 h => h.elim fun v4 h => h.elim fun v5 h => h.elim fun v6 h => h.elim fun v7 h => h.elim fun v8 h => an_3 h (k v1 v2 v3 v4 v5 v6 v7 v8)
theorem xa_8_4 {t1 : Sort _} {t2 : Sort _} {t3 : Sort _} {t4 : Sort _} {t5 : Sort _} {t6 : Sort _} {t7 : Sort _} {t8 : Sort _} {p1 p2 p3 p4 : t1 → t2 → t3 → t4 → t5 → t6 → t7 → t8 → Prop} {g : Prop} (h : ∃ v1 v2 v3 v4 v5 v6 v7 v8, p1 v1 v2 v3 v4 v5 v6 v7 v8 ∧ p2 v1 v2 v3 v4 v5 v6 v7 v8 ∧ p3 v1 v2 v3 v4 v5 v6 v7 v8 ∧ p4 v1 v2 v3 v4 v5 v6 v7 v8) (k : ∀ v1 v2 v3 v4 v5 v6 v7 v8, p1 v1 v2 v3 v4 v5 v6 v7 v8 → p2 v1 v2 v3 v4 v5 v6 v7 v8 → p3 v1 v2 v3 v4 v5 v6 v7 v8 → p4 v1 v2 v3 v4 v5 v6 v7 v8 → g) : g := h.elim fun v1 h => h.elim fun v2 h => h.elim fun v3 h => h.elim fun v4 h => h.elim fun v5 h => h.elim fun v6 h => h.elim fun v7 h => h.elim fun v8 h => an_4 h (k v1 v2 v3 v4 v5 v6 v7 v8)
theorem xa_8_5 {t1 : Sort _} {t2 : Sort _} {t3 : Sort _} {t4 : Sort _} {t5 : Sort _} {t6 : Sort _} {t7 : Sort _} {t8 : Sort _} {p1 p2 p3 p4 p5 : t1 → t2 → t3 → t4 → t5 → t6 → t7 → t8 → Prop} {g : Prop} (h : ∃ v1 v2 v3 v4 v5 v6 v7 v8, p1 v1 v2 v3 v4 v5 v6 v7 v8 ∧ p2 v1 v2 v3 v4 v5 v6 v7 v8 ∧ p3 v1 v2 v3 v4 v5 v6 v7 v8 ∧ p4 v1 v2 v3 v4 v5 v6 v7 v8 ∧ p5 v1 v2 v3 v4 v5 v6 v7 v8) (k : ∀ v1 v2 v3 v4 v5 v6 v7 v8, p1 v1 v2 v3 v4 v5 v6 v7 v8 → p2 v1 v2 v3 v4 v5 v6 v7 v8 → p3 v1 v2 v3 v4 v5 v6 v7 v8 → p4 v1 v2 v3 v4 v5 v6 v7 v8 → p5 v1 v2 v3 v4 v5 v6 v7 v8 → g) : g := h.elim fun v1 h => h.elim fun v2 h => h.elim fun v3 h => h.elim fun v4 h => h.elim fun v5 h => h.elim fun v6 h => h.elim fun v7 h => h.elim fun v8 h => an_5 h (k v1 v2 v3 v4 v5 v6 v7 v8)
theorem xa_8_6 {t1 : Sort _} {t2 : Sort _} {t3 : Sort _} {t4 : Sort _} {t5 : Sort _} {t6 : Sort _} {t7 : Sort _} {t8 : Sort _} {p1 p2 p3 p4 p5 p6 : t1 → t2 → t3 → t4 → t5 → t6 → t7 → t8 → Prop} {g : Prop} (h : ∃ v1 v2 v3 v4 v5 v6 v7 v8, p1 v1 v2 v3 v4 v5 v6 v7 v8 ∧ p2 v1 v2 v3 v4 v5 v6 v7 v8 ∧ p3 v1 v2 v3 v4 v5 v6 v7 v8 ∧ p4 v1 v2 v3 v4 v5 v6 v7 v8 ∧ p5 v1 v2 v3 v4 v5 v6 v7 v8 ∧ p6 v1 v2 v3 v4 v5 v6 v7 v8) (k : ∀ v1 v2 v3 v4 v5 v6 v7 v8, p1 v1 v2 v3 v4 v5 v6 v7 v8 → p2 v1 v2 v3 v4 v5 v6 v7 v8 → p3 v1 v2 v3 v4 v5 v6 v7 v8 → p4 v1 v2 v3 v4 v5 v6 v7 v8 → p5 v1 v2 v3 v4 v5 v6 v7 v8 → p6 v1 v2 v3 v4 v5 v6 v7 v8 → g) : g := h.elim fun v1 h => h.elim fun v2 h => h.elim fun v3 h => h.elim fun v4 h => h.elim fun v5 h => h.elim fun v6 h => h.elim fun v7 h => h.elim fun v8 h => an_6 h (k v1 v2 v3 v4 v5 v6 v7 v8)
theorem xa_8_7 {t1 : Sort _} {t2 : Sort _} {t3 : Sort _} {t4 : Sort _} {t5 : Sort _} {t6 : Sort _} {t7 : Sort _} {t8 : Sort _} {p1 p2 p3 p4 p5 p6 p7 : t1 → t2 → t3 → t4 → t5 → t6 → t7 → t8 → Prop} {g : Prop} (h : ∃ v1 v2 v3 v4 v5 v6 v7 v8, p1 v1 v2 v3 v4 v5 v6 v7 v8 ∧ p2 v1 v2 v3 v4 v5 v6 v7 v8 ∧ p3 v1 v2 v3 v4 v5 v6 v7 v8 ∧ p4 v1 v2 v3 v4 v5 v6 v7 v8 ∧ p5 v1 v2 v3 v4 v5 v6 v7 v8 ∧ p6 v1 v2 v3 v4 v5 v6 v7 v8 ∧ p7 v1 v2 v3 v4 v5 v6 v7 v8) (k : ∀ v1 v2 v3 v4 v5 v6 v7 v8, p1 v1 v2 v3 v4 v5 v6 v7 v8 → p2 v1 v2 v3 v4 v5 v6 v7 v8 → p3 v1 v2 v3 v4 v5 v6 v7 v8 → p4 v1 v2 v3 v4 v5 v6 v7 v8 → p5 v1 v2 v3 v4 v5 v6 v7 v8 → p6 v1 v2 v3 v4 v5 v6 v7 v8 → p7 v1 v2 v3 v4 v5 v6 v7 v8 → g) : g := h.elim fun v1 h => h.elim fun v2 h => h.elim fun v3 h => h.elim fun v4 h => h.elim fun v5 h => h.elim fun v6 h => h.elim fun v7 h => h.elim fun v8 h => an_7 h (k v1 v2 v3 v4 v5 v6 v7 v8)
theorem xa_9_4 {t1 : Sort _} {t2 : Sort _} {t3 : Sort _} {t4 : Sort _} {t5 : Sort _} {t6 : Sort _} {t7 : Sort _} {t8 : Sort _} {t9 : Sort _} {p1 p2 p3 p4 : t1 → t2 → t3 → t4 → t5 → t6 → t7 → t8 → t9 → Prop} {g : Prop} (h : ∃ v1 v2 v3 v4 v5 v6 v7 v8 v9, p1 v1 v2 v3 v4 v5 v6 v7 v8 v9 ∧ p2 v1 v2 v3 v4 v5 v6 v7 v8 v9 ∧ p3 v1 v2 v3 v4 v5 v6 v7 v8 v9 ∧ p4 v1 v2 v3 v4 v5 v6 v7 v8 v9) (k : ∀ v1 v2 v3 v4 v5 v6 v7 v8 v9, p1 v1 v2 v3 v4 v5 v6 v7 v8 v9 → p2 v1 v2 v3 v4 v5 v6 v7 v8 v9 → p3 v1 v2 v3 v4 v5 v6 v7 v8 v9 → p4 v1 v2 v3 v4 v5 v6 v7 v8 v9 → g) : g := h.elim fun v1 h => h.elim fun v2 h => h.elim fun v3 h => h.elim fun v4 h => h.elim fun v5 h => h.elim fun v6 h => h.elim fun v7 h => h.elim fun v8 h => h.elim fun v9 h => an_4 h (k v1 v2 v3 v4 v5 v6 v7 v8 v9)
theorem xa_9_5 {t1 : Sort _} {t2 : Sort _} {t3 : Sort _} {t4 : Sort _} {t5 : Sort _} {t6 : Sort _} {t7 : Sort _} {t8 : Sort _} {t9 : Sort _} {p1 p2 p3 p4 p5 : t1 → t2 → t3 → t4 → t5 → t6 → t7 → t8 → t9 → Prop} {g : Prop} (h : ∃ v1 v2 v3 v4 v5 v6 v7 v8 v9, p1 v1 v2 v3 v4 v5 v6 v7 v8 v9 ∧ p2 v1 v2 v3 v4 v5 v6 v7 v8 v9 ∧ p3 v1 v2 v3 v4 v5 v6 v7 v8 v9 ∧ p4 v1 v2 v3 v4 v5 v6 v7 v8 v9 ∧ p5 v1 v2 v3 v4 v5 v6 v7 v8 v9) (k : ∀ v1 v2 v3 v4 v5 v6 v7 v8 v9, p1 v1 v2 v3 v4 v5 v6 v7 v8 v9 → p2 v1 v2 v3 v4 v5 v6 v7 v8 v9 → p3 v1 v2 v3 v4 v5 v6 v7 v8 v9 → p4 v1 v2 v3 v4 v5 v6 v7 v8 v9 → p5 v1 v2 v3 v4 v5 v6 v7 v8 v9 → g) : g := h.elim fun v1 h => h.elim fun v2 h => h.elim fun v3 h => h.elim fun v4 h => h.elim fun v5 h => h.elim fun v6 h => h.elim fun v7 h => h.elim fun v8 h => h.elim fun v9 h => an_5 h (k v1 v2 v3 v4 v5 v6 v7 v8 v9)
theorem xa_9_11 {t1 : Sort _} {t2 : Sort _} {t3 : Sort _} {t4 : Sort _} {t5 : Sort _} {t6 : Sort _} {t7 : Sort _} {t8 : Sort _} {t9 : Sort _} {p1 p2 p3 p4 p5 p6 p7 p8 p9 p10 p11 : t1 → t2 → t3 → t4 → t5 → t6 → t7 → t8 → t9 → Prop} {g : Prop} (h : ∃ v1 v2 v3 v4 v5 v6 v7 v8 v9, p1 v1 v2 v3 v4 v5 v6 v7 v8 v9 ∧ p2 v1 v2 v3 v4 v5 v6 v7 v8 v9 ∧ p3 v1 v2 v3 v4 v5 v6 v7 v8 v9 ∧ p4 v1 v2 v3 v4 v5 v6 v7 v8 v9 ∧ p5 v1 v2 v3 v4 v5 v6 v7 v8 v9 ∧ p6 v1 v2 v3 v4 v5 v6 v7 v8 v9 ∧ p7 v1 v2 v3 v4 v5 v6 v7 v8 v9 ∧ p8 v1 v2 v3 v4 v5 v6 v7 v8 v9 ∧ p9 v1 v2 v3 v4 v5 v6 v7 v8 v9 ∧ p10 v1 v2 v3 v4 v5 v6 v7 v8 v9 ∧ p11 v1 v2 v3 v4 v5 v6 v7 v8 v9) (k : ∀ v1 v2 v3 v4 v5 v6 v7 v8 v9, p1 v1 v2 v3 v4 v5 v6 v7 v8 v9 → p2 v1 v2 v3 v4 v5 v6 v7 v8 v9 → p3 v1 v2 v3 v4 v5 v6 v7 v8 v9 → p4 v1 v2 v3 v4 v5 v6 v7 v8 v9 → p5 v1 v2 v3 v4 v5 v6 v7 v8 v9 → p6 v1 v2 v3 v4 v5 v6 v7 v8 v9 → p7 v1 v2 v3 v4 v5 v6 v7 v8 v9 → p8 v1 v2 v3 v4 v5 v6 v7 v8 v9 → p9 v1 v2 v3 v4 v5 v6 v7 v8 v9 → p10 v1 v2 v3 v4 v5 v6 v7 v8 v9 → p11 v1 v2 v3 v4 v5 v6 v7 v8 v9 → g) : g := h.elim fun v1 h => h.elim fun v2 h => h.elim fun v3 h => h.elim fun v4 h => h.elim fun v5 h => h.elim fun v6 h => h.elim fun v7 h => h.elim fun v8 h => h.elim fun v9 h => an_11 h (k v1 v2 v3 v4 v5 v6 v7 v8 v9)
theorem xa_10_5 {t1 : Sort _} {t2 : Sort _} {t3 : Sort _} {t4 : Sort _} {t5 : Sort _} {t6 : Sort _} {t7 : Sort _} {t8 : Sort _} {t9 : Sort _} {t10 : Sort _} {p1 p2 p3 p4 p5 : t1 → t2 → t3 → t4 → t5 → t6 → t7 → t8 → t9 → t10 → Prop} {g : Prop} (h : ∃ v1 v2 v3 v4 v5 v6 v7 v8 v9 v10, p1 v1 v2 v3 v4 v5 v6 v7 v8 v9 v10 ∧ p2 v1 v2 v3 v4 v5 v6 v7 v8 v9 v10 ∧ p3 v1 v2 v3 v4 v5 v6 v7 v8 v9 v10 ∧ p4 v1 v2 v3 v4 v5 v6 v7 v8 v9 v10 ∧ p5 v1 v2 v3 v4 v5 v6 v7 v8 v9 v10) (k : ∀ v1 v2 v3 v4 v5 v6 v7 v8 v9 v10, p1 v1 v2 v3 v4 v5 v6 v7 v8 v9 v10 → p2 v1 v2 v3 v4 v5 v6 v7 v8 v9 v10 → p3 v1 v2 v3 v4 v5 v6 v7 v8 v9 v10 → p4 v1 v2 v3 v4 v5 v6 v7 v8 v9 v10 → p5 v1 v2 v3 v4 v5 v6 v7 v8 v9 v10 → g) : g := h.elim fun v1 h => h.elim fun v2 h => h.elim fun v3 h => h.elim fun v4 h => h.elim fun v5 h => h.elim fun v6 h => h.elim fun v7 h => h.elim fun v8 h => h.elim fun v9 h => h.elim fun v10 h => an_5 h (k v1 v2 v3 v4 v5 v6 v7 v8 v9 v10)
theorem xa_10_11 {t1 : Sort _} {t2 : Sort _} {t3 : Sort _} {t4 : Sort _} {t5 : Sort _} {t6 : Sort _} {t7 : Sort _} {t8 : Sort _} {t9 : Sort _} {t10 : Sort _} {p1 p2 p3 p4 p5 p6 p7 p8 p9 p10 p11 : t1 → t2 → t3 → t4 → t5 → t6 → t7 → t8 → t9 → t10 → Prop} {g : Prop} (h : ∃ v1 v2 v3 v4 v5 v6 v7 v8 v9 v10, p1 v1 v2 v3 v4 v5 v6 v7 v8 v9 v10 ∧ p2 v1 v2 v3 v4 v5 v6 v7 v8 v9 v10 ∧ p3 v1 v2 v3 v4 v5 v6 v7 v8 v9 v10 ∧ p4 v1 v2 v3 v4 v5 v6 v7 v8 v9 v10 ∧ p5 v1 v2 v3 v4 v5 v6 v7 v8 v9 v10 ∧ p6 v1 v2 v3 v4 v5 v6 v7 v8 v9 v10 ∧ p7 v1 v2 v3 v4 v5 v6 v7 v8 v9 v10 ∧ p8 v1 v2 v3 v4 v5 v6 v7 v8 v9 v10 ∧ p9 v1 v2 v3 v4 v5 v6 v7 v8 v9 v10 ∧ p10 v1 v2 v3 v4 v5 v6 v7 v8 v9 v10 ∧ p11 v1 v2 v3 v4 v5 v6 v7 v8 v9 v10) (k : ∀ v1 v2 v3 v4 v5 v6 v7 v8 v9 v10, p1 v1 v2 v3 v4 v5 v6 v7 v8 v9 v10 → p2 v1 v2 v3 v4 v5 v6 v7 v8 v9 v10 → p3 v1 v2 v3 v4 v5 v6 v7 v8 v9 v10 → p4 v1 v2 v3 v4 v5 v6 v7 v8 v9 v10 → p5 v1 v2 v3 v4 v5 v6 v7 v8 v9 v10 → p6 v1 v2 v3 v4 v5 v6 v7 v8 v9 v10 → p7 v1 v2 v3 v4 v5 v6 v7 v8 v9 v10 → p8 v1 v2 v3 v4 v5 v6 v7 v8 v9 v10 → p9 v1 v2 v3 v4 v5 v6 v7 v8 v9 v10 → p10 v1 v2 v3 v4 v5 v6 v7 v8 v9 v10 → p11 v1 v2 v3 v4 v5 v6 v7 v8 v9 v10 → g) : g := h.elim fun v1 h => h.elim fun v2 h => h.elim fun v3 h => h.elim fun v4 h => h.elim fun v5 h => h.elim fun v6 h => h.elim fun v7 h => h.elim fun v8 h => h.elim fun v9 h => h.elim fun v10 h => an_11 h (k v1 v2 v3 v4 v5 v6 v7 v8 v9 v10)
theorem xa_14_6 {t1 : Sort _} {t2 : Sort _} {t3 : Sort _} {t4 : Sort _} {t5 : Sort _} {t6 : Sort _} {t7 : Sort _} {t8 : Sort _} {t9 : Sort _} {t10 : Sort _} {t11 : Sort _} {t12 : Sort _} {t13 : Sort _} {t14 : Sort _} {p1 p2 p3 p4 p5 p6 : t1 → t2 → t3 → t4 → t5 → t6 → t7 → t8 → t9 → t10 → t11 → t12 → t13 → t14 → Prop} {g : Prop} (h : ∃ v1 v2 v3 v4 v5 v6 v7 v8 v9 v10 v11 v12 v13 v14, p1 v1 v2 v3 v4 v5 v6 v7 v8 v9 v10 v11 v12 v13 v14 ∧ p2 v1 v2 v3 v4 v5 v6 v7 v8 v9 v10 v11 v12 v13 v14 ∧ p3 v1 v2 v3 v4 v5 v6 v7 v8 v9 v10 v11 v12 v13 v14 ∧ p4 v1 v2 v3 v4 v5 v6 v7 v8 v9 v10 v11 v12 v13 v14 ∧ p5 v1 v2 v3 v4 v5 v6 v7 v8 v9 v10 v11 v12 v13 v14 ∧ p6 v1 v2 v3 v4 v5 v6 v7 v8 v9 v10 v11 v12 v13 v14) (k : ∀ v1 v2 v3 v4 v5 v6 v7 v8 v9 v10 v11 v12 v13 v14, p1 v1 v2 v3 v4 v5 v6 v7 v8 v9 v10 v11 v12 v13 v14 → p2 v1 v2 v3 v4 v5 v6 v7 v8 v9 v10 v11 v12 v13 v14 → p3 v1 v2 v3 v4 v5 v6 v7 v8 v9 v10 v11 v12 v13 v14 → p4 v1 v2 v3 v4 v5 v6 v7 v8 v9 v10 v11 v12 v13 v14 → p5 v1 v2 v3 v4 v5 v6 v7 v8 v9 v10 v11 v12 v13 v14 → p6 v1 v2 v3 v4 v5 v6 v7 v8 v9 v10 v11 v12 v13 v14 → g) : g := h.elim fun v1 h => h.elim fun v2 h => h.elim fun v3 h => h.elim fun v4 h => h.elim fun v5 h => h.elim fun v6 h => h.elim fun v7 h => h.elim fun v8 h => h.elim fun v9 h => h.elim fun v10 h => h.elim fun v11 h => h.elim fun v12 h => h.elim fun v13 h => h.elim fun v14 h => an_6 h (k v1 v2 v3 v4 v5 v6 v7 v8 v9 v10 v11 v12 v13 v14)
theorem xa_14_7 {t1 : Sort _} {t2 : Sort _} {t3 : Sort _} {t4 : Sort _} {t5 : Sort _} {t6 : Sort _} {t7 : Sort _} {t8 : Sort _} {t9 : Sort _} {t10 : Sort _} {t11 : Sort _} {t12 : Sort _} {t13 : Sort _} {t14 : Sort _} {p1 p2 p3 p4 p5 p6 p7 : t1 → t2 → t3 → t4 → t5 → t6 → t7 → t8 → t9 → t10 → t11 → t12 → t13 → t14 → Prop} {g : Prop} (h : ∃ v1 v2 v3 v4 v5 v6 v7 v8 v9 v10 v11 v12 v13 v14, p1 v1 v2 v3 v4 v5 v6 v7 v8 v9 v10 v11 v12 v13 v14 ∧ p2 v1 v2 v3 v4 v5 v6 v7 v8 v9 v10 v11 v12 v13 v14 ∧ p3 v1 v2 v3 v4 v5 v6 v7 v8 v9 v10 v11 v12 v13 v14 ∧ p4 v1 v2 v3 v4 v5 v6 v7 v8 v9 v10 v11 v12 v13 v14 ∧ p5 v1 v2 v3 v4 v5 v6 v7 v8 v9 v10 v11 v12 v13 v14 ∧ p6 v1 v2 v3 v4 v5 v6 v7 v8 v9 v10 v11 v12 v13 v14 ∧ p7 v1 v2 v3 v4 v5 v6 v7 v8 v9 v10 v11 v12 v13 v14) (k : ∀ v1 v2 v3 v4 v5 v6 v7 v8 v9 v10 v11 v12 v13 v14, p1 v1 v2 v3 v4 v5 v6 v7 v8 v9 v10 v11 v12 v13 v14 → p2 v1 v2 v3 v4 v5 v6 v7 v8 v9 v10 v11 v12 v13 v14 → p3 v1 v2 v3 v4 v5 v6 v7 v8 v9 v10 v11 v12 v13 v14 → p4 v1 v2 v3 v4 v5 v6 v7 v8 v9 v10 v11 v12 v13 v14 → p5 v1 v2 v3 v4 v5 v6 v7 v8 v9 v10 v11 v12 v13 v14 → p6 v1 v2 v3 v4 v5 v6 v7 v8 v9 v10 v11 v12 v13 v14 → p7 v1 v2 v3 v4 v5 v6 v7 v8 v9 v10 v11 v12 v13 v14 → g) : g := h.elim fun v1 h => h.elim fun v2 h => h.elim fun v3 h => h.elim fun v4 h => h.elim fun v5 h => h.elim fun v6 h => h.elim fun v7 h => h.elim fun v8 h => h.elim fun v9 h => h.elim fun v10 h => h.elim fun v11 h => h.elim fun v12 h => h.elim fun v13 h => h.elim fun v14 h => an_7 h (k v1 v2 v3 v4 v5 v6 v7 v8 v9 v10 v11 v12 v13 v14)
theorem xa_15_1 {t1 : Sort _} {t2 : Sort _} {t3 : Sort _} {t4 : Sort _} {t5 : Sort _} {t6 : Sort _} {t7 : Sort _} {t8 : Sort _} {t9 : Sort _} {t10 : Sort _} {t11 : Sort _} {t12 : Sort _} {t13 : Sort _} {t14 : Sort _} {t15 : Sort _} {p1 : t1 → t2 → t3 → t4 → t5 → t6 → t7 → t8 → t9 → t10 → t11 → t12 → t13 → t14 → t15 → Prop} {g : Prop} (h : ∃ v1 v2 v3 v4 v5 v6 v7 v8 v9 v10 v11 v12 v13 v14 v15, p1 v1 v2 v3 v4 v5 v6 v7 v8 v9 v10 v11 v12 v13 v14 v15) (k : ∀ v1 v2 v3 v4 v5 v6 v7 v8 v9 v10 v11 v12 v13 v14 v15, p1 v1 v2 v3 v4 v5 v6 v7 v8 v9 v10 v11 v12 v13 v14 v15 → g) : g := h.elim fun v1 h => h.elim fun v2 h => h.elim fun v3 h => h.elim fun v4 h => h.elim fun v5 h => h.elim fun v6 h => h.elim fun v7 h => h.elim fun v8 h => h.elim fun v9 h => h.elim fun v10 h => h.elim fun v11 h => h.elim fun v12 h => h.elim fun v13 h => h.elim fun v14 h => h.elim fun v15 h => k v1 v2 v3 v4 v5 v6 v7 v8 v9 v10 v11 v12 v13 v14 v15 h
end
section
/-- a heap's objects as a tree -/
noncomputable def mkT (f : Nat → Option Obj) : Nat → Nat → Nat → BT
  | 0, _, _ => .nil
  | n + 1, a, b => match f b with
    | some o => .node o (mkT f n (2 * a) (a + b)) (mkT f n (2 * a) (2 * a + b))
    | none => .nil
/-- the top's run over a tree -/
noncomputable def runT (ok : Thread → Bool) (F : SharedT → Thread → Option (SharedT × Thread)) : Nat → SharedT → Thread → Option SharedT
  | 0, _, _ => none
  | n + 1, s, t => match through t with
    | true => some s
    | false => match ok t with
      | false => none
      | true => match F s t with
        | some (s', t') => runT ok F n s' t'
        | none => none
theorem runT_of {tb : String → Option Builtin} {p : Program} {w : World} {n₀ : Nat} {ann : Option Value} : ∀ {n : Nat} {s s' : SharedT} {t : Thread}, runT (stepOk n₀ ann) (stepT (denote tb) p w) n s t = some s' → topRun tb p w n₀ ann n s.abs t = some s'.abs
  | 0, _, _, _, h => by cases h
  | n + 1, s, s', t, h => by
    unfold runT at h
    unfold topRun
    cases he : through t with
    | true => rw [he] at h; cases h; rfl
    | false =>
      rw [he] at h
      cases hk : stepOk n₀ ann t with
      | false => rw [hk] at h; cases h
      | true =>
        rw [hk] at h
        cases hs : stepT (denote tb) p w s t with
        | none => rw [hs] at h; cases h
        | some r => obtain ⟨s₂, t₂⟩ := r; rw [hs] at h; rw [stepT_spec hs]; exact runT_of h
noncomputable def bootT (P : Params) : BT := mkT (fun i => (boot_heap P).objs[i]?) 5 1 0
noncomputable def bootS (w : World) (os : OsState) : SharedT := ⟨bootT w.params, 11, (boot_heap w.params).life, Array.mk [], boot_drawn, boot_toks, os⟩
theorem boot_size (w : World) : ((boot_heap w.params).isNs mainGlobals && (Array.mk [] : Array GenState).size == 0, (boot_heap w.params).objs.size, (boot_heap w.params).nsMap mainGlobals "__annotations__") = (true, 11, some (.ref 6)) := by kernel_rfl
theorem boot_abs (w : World) (os : OsState) : (bootS w os).abs = ⟨boot_heap w.params, Array.mk [], boot_drawn, boot_toks, os⟩ := by kernel_rfl
theorem left_own {p q : Program} {loose : List Str} {Xt : Shared → Bool} {α : Type} {Yf : Shared → α} {Ya : World → α} {N : Nat} (e : opening p = plainProg p.main.scope.names) (hN : Nat.ble 600 N = true) (f : ∀ s, fenceModules? p s = some s)
    (h : ∀ w : World, (fun os => (runT (Fast.tw6613529449190102663 11 (some (.ref 6))) (Fast.tw10156331382660048174 (Fast.tw11892475500146522536 Fast.tw14364793385576792824) p w) N (bootS w os) (topStub p)).map fun s => ((staticsOk (importedModules p.main.body) (boot_heap w.params) s.abs.heap && namesBound p s.abs.heap && gensDone s.abs && laidKept (boot_heap w.params) s.abs.heap),
      Fast.tw4187177175401517315 q loose (importedModules p.main.body) Xt true s.abs, Yf s.abs)) = fun _ => some (true, openGood q loose, Ya w)) : LeftO p q loose Xt Yf Ya N true := fun w => by
  obtain ⟨⟨hp, gs, d, k, os⟩, e1, e'⟩ := Option.map_eq_some_iff.mp (boot_open e hN f w)
  have h := h w
  rw [← Fast.te6613529449190102663, ← Fast.te10156331382660048174, ← Fast.te11892475500146522536, ← Fast.te14364793385576792824, ← Fast.te4187177175401517315] at h
  obtain ⟨rfl, rfl, rfl, rfl⟩ : hp = boot_heap w.params ∧ gs = Array.mk [] ∧ d = boot_drawn ∧ k = boot_toks := by simpa using e'
  obtain ⟨s1, hr, hl⟩ := Option.map_eq_some_iff.mp (congrFun h os)
  obtain ⟨l1, l2, l3⟩ : _ ∧ _ ∧ _ := by simpa only [Prod.mk.injEq] using hl
  obtain ⟨z1, z2, z3⟩ : _ ∧ _ ∧ _ := by simpa only [Prod.mk.injEq] using boot_size w
  have r := runT_of hr
  rw [boot_abs] at r
  have t : topFrom treeTable p w N ⟨boot_heap w.params, Array.mk [], boot_drawn, boot_toks, os⟩ = some s1.abs := by
    unfold topFrom
    dsimp only
    rw [z1, z2, z3, r]
    show (match staticsOk (importedModules p.main.body) (boot_heap w.params) s1.abs.heap && namesBound p s1.abs.heap && gensDone s1.abs && laidKept (boot_heap w.params) s1.abs.heap with | true => _ | false => _) = _
    rw [l1]
  unfold openEnds
  rw [e1]
  show (topFrom treeTable p w N _).map _ = _
  rw [t]
  exact congrArg some (Prod.ext l2 l3)
noncomputable def vw : Program := view PySem.Challenge.pw_jv0001_01 [32]
noncomputable def vl : List Str := [Str.ofString "_wall", Str.ofString "CandidateSet", Str.ofString "str_set_of_candidates", Str.ofString "Fraction", Str.ofString "UnknownScoreFunctionError", Str.ofString "MarginalScoreFct", Str.ofString "get_marginal_scorefct", Str.ofString "thiele_score", Str.ofString "geometric_marginal_score_fct", Str.ofString "pav_score_fct", Str.ofString "adams_score_fct", Str.ofString "slav_score_fct", Str.ofString "av_score_fct", Str.ofString "cc_score_fct", Str.ofString "at_least_ell_fct", Str.ofString "cumulative_score", Str.ofString "marginal_thiele_scores_add", Str.ofString "marginal_thiele_scores_remove", Str.ofString "Profile", Str.ofString "Voter", Str.ofString "_law_cell", Str.ofString "_law_ballots", Str.ofString "_law_profile", Str.ofString "_law_gain", Str.ofString "_law_add", Str.ofString "_law_score", Str.ofString "_law_is", Str.ofString "_law_unknown"]
theorem andI {a b : Bool} (h : a = true) (k : b = true) : (a && b) = true := by rw [h, k]; rfl
theorem said1 : namesResolve PySem.Challenge.rw_jv0001_01.row.prog = true := by kernel_rfl
theorem said2 : noRoadLSs { strict := !(importedModules PySem.Challenge.rw_jv0001_01.row.prog.main.body).all cThrough.contains, foot := none, bare := (["vars", "dir", "locals"] : List Str).filter (readsOut PySem.Challenge.rw_jv0001_01.row.prog PySem.Challenge.rw_jv0001_01.row.prog.main.body) } PySem.Challenge.rw_jv0001_01.row.prog.main.body = true := by kernel_rfl
theorem said3 : namesMeet PySem.Challenge.rw_jv0001_01.row.prog PySem.Challenge.rw_jv0001_01.row.prog.main.body (fun _ n => attrL n) = true := by kernel_rfl
theorem said4 : looksOpen PySem.Challenge.rw_jv0001_01.row.prog = true := by
  unfold looksOpen
  refine andI (andI (andI (andI (andI ?_ ?_) said1) ?_) said2) said3
  · kernel_rfl
  · kernel_rfl
  · kernel_rfl
theorem said5 : OpenRow.partSaid PySem.Challenge.rw_jv0001_01.row = true := by
  unfold OpenRow.partSaid
  refine andI (andI (andI (andI (andI (andI (andI (andI (andI (andI (andI (andI (andI said4 ?_) ?_) ?_) ?_) ?_) ?_) ?_) ?_) ?_) ?_) ?_) ?_) ?_ <;> kernel_rfl
theorem said6 : OpenRow.wellSaid PySem.Challenge.rw_jv0001_01.row = true := by
  unfold OpenRow.wellSaid
  refine andI (andI said5 ?_) ?_ <;> kernel_rfl
theorem said7 : OpenLaw.bound' PySem.Challenge.rw_jv0001_01 |>.all (fun n => !builtinNamed n || PySem.Challenge.rw_jv0001_01.about == [n] || !PySem.Challenge.rw_jv0001_01.reads n) := by kernel_rfl
theorem said8 : namesMeet PySem.Challenge.rw_jv0001_01.prog PySem.Challenge.rw_jv0001_01.above (fun _ n => !PySem.Challenge.rw_jv0001_01.own.contains n) = true := by kernel_rfl
theorem said9 : namesMeet PySem.Challenge.rw_jv0001_01.prog PySem.Challenge.rw_jv0001_01.footing (fun sc n => sc.kind == .module || sc.names.lookup n != some .globalExplicit) = true := by kernel_rfl
theorem said0 : OpenLaw.wellSaid PySem.Challenge.rw_jv0001_01 = true := by
  unfold OpenLaw.wellSaid
  refine andI (andI (andI (andI (andI (andI (andI (andI (andI (andI (andI (andI (andI (andI (andI (andI (andI (andI said6 ?_) ?_) ?_) ?_) ?_) ?_) ?_) ?_) ?_) said7) ?_) ?_) ?_) ?_) ?_) ?_) said8) said9 <;> kernel_rfl
local macro_rules | `(tactic| o_law) => `(tactic| refine holds_law said0 fun said => ?_)
local macro_rules | `(tactic| o_head ($f $k $a $e)) => `(tactic|
  (apply holds_open (q := vw) (loose := vl) (Xt := fun s => xlAt vw [] s && recOk (RowW.records (OpenRow.toRowW PySem.Challenge.rw_jv0001_01.row)) s) (XP := XL vw []) (Yf := Hook.obs (kmHook $k $a (fun _ => by kernel_rfl) [25])) (Ya := Hook.val (kmHook $k $a (fun _ => by kernel_rfl) [25])) (YP := Hook.says (kmHook $k $a (fun _ => by kernel_rfl) [25])) (N := 6350)
    (hY := Hook.of (kmHook $k $a (fun _ => by kernel_rfl) [25])) (hYk := Hook.keeps (kmHook $k $a (fun _ => by kernel_rfl) [25])) (hX := fun s e => xl_of s (Bool.and_eq_true_iff.mp e).1) (hXk := XL.keeps) (hdef := by rfl) (hp := by rfl) (hk := by rfl) (hRf := fun s e => recFacts_of (Bool.and_eq_true_iff.mp e).2) (hwr := by rfl) (k1 := by first | assumption | decide +kernel) (ok := by decide +kernel) (hb := ⟨rfl, rfl, rfl, rfl, rfl, by decide +kernel⟩);
   (focus (refine left_own (p := PySem.Challenge.pw_jv0001_01) (by kernel_rfl) (by decide) (fun s => by kernel_rfl) ?_; intro w; kernel_rfl))))
set_option maxHeartbeats 8000000 in
open_top hd for PySem.Challenge.rw_jv0001_01
end
section
/-- existence and conjunction, flat: one case split, no nested remainder -/
inductive E2 {α0 α1 : Type} (p : α0 → α1 → Prop) : Prop where
  | mk (x0 : α0) (x1 : α1) (h : p x0 x1) : E2 p
inductive E3 {α0 α1 α2 : Type} (p : α0 → α1 → α2 → Prop) : Prop where
  | mk (x0 : α0) (x1 : α1) (x2 : α2) (h : p x0 x1 x2) : E3 p
inductive E4 {α0 α1 α2 α3 : Type} (p : α0 → α1 → α2 → α3 → Prop) : Prop where
  | mk (x0 : α0) (x1 : α1) (x2 : α2) (x3 : α3) (h : p x0 x1 x2 x3) : E4 p
inductive E5 {α0 α1 α2 α3 α4 : Type} (p : α0 → α1 → α2 → α3 → α4 → Prop) : Prop where
  | mk (x0 : α0) (x1 : α1) (x2 : α2) (x3 : α3) (x4 : α4) (h : p x0 x1 x2 x3 x4) : E5 p
inductive E10 {α0 α1 α2 α3 α4 α5 α6 α7 α8 α9 : Type} (p : α0 → α1 → α2 → α3 → α4 → α5 → α6 → α7 → α8 → α9 → Prop) : Prop where
  | mk (x0 : α0) (x1 : α1) (x2 : α2) (x3 : α3) (x4 : α4) (x5 : α5) (x6 : α6) (x7 : α7) (x8 : α8) (x9 : α9) (h : p x0 x1 x2 x3 x4 x5 x6 x7 x8 x9) : E10 p
structure A3 (a0 a1 a2 : Prop) : Prop where
  h0 : a0
  h1 : a1
  h2 : a2
structure A4 (a0 a1 a2 a3 : Prop) : Prop where
  h0 : a0
  h1 : a1
  h2 : a2
  h3 : a3
structure A5 (a0 a1 a2 a3 a4 : Prop) : Prop where
  h0 : a0
  h1 : a1
  h2 : a2
  h3 : a3
  h4 : a4
structure A6 (a0 a1 a2 a3 a4 a5 : Prop) : Prop where
  h0 : a0
  h1 : a1
  h2 : a2
  h3 : a3
  h4 : a4
  h5 : a5
structure A8 (a0 a1 a2 a3 a4 a5 a6 a7 : Prop) : Prop where
  h0 : a0
  h1 : a1
  h2 : a2
  h3 : a3
  h4 : a4
  h5 : a5
  h6 : a6
  h7 : a7
structure A9 (a0 a1 a2 a3 a4 a5 a6 a7 a8 : Prop) : Prop where
  h0 : a0
  h1 : a1
  h2 : a2
  h3 : a3
  h4 : a4
  h5 : a5
  h6 : a6
  h7 : a7
  h8 : a8
structure A10 (a0 a1 a2 a3 a4 a5 a6 a7 a8 a9 : Prop) : Prop where
  h0 : a0
  h1 : a1
  h2 : a2
  h3 : a3
  h4 : a4
  h5 : a5
  h6 : a6
  h7 : a7
  h8 : a8
  h9 : a9
structure A11 (a0 a1 a2 a3 a4 a5 a6 a7 a8 a9 a10 : Prop) : Prop where
  h0 : a0
  h1 : a1
  h2 : a2
  h3 : a3
  h4 : a4
  h5 : a5
  h6 : a6
  h7 : a7
  h8 : a8
  h9 : a9
  h10 : a10
structure A12 (a0 a1 a2 a3 a4 a5 a6 a7 a8 a9 a10 a11 : Prop) : Prop where
  h0 : a0
  h1 : a1
  h2 : a2
  h3 : a3
  h4 : a4
  h5 : a5
  h6 : a6
  h7 : a7
  h8 : a8
  h9 : a9
  h10 : a10
  h11 : a11
structure A14 (a0 a1 a2 a3 a4 a5 a6 a7 a8 a9 a10 a11 a12 a13 : Prop) : Prop where
  h0 : a0
  h1 : a1
  h2 : a2
  h3 : a3
  h4 : a4
  h5 : a5
  h6 : a6
  h7 : a7
  h8 : a8
  h9 : a9
  h10 : a10
  h11 : a11
  h12 : a12
  h13 : a13

/-- what a call that writes to nothing old leaves -/
structure Done (s s' : Shared) : Prop where
  is : s' = { s with heap := s'.heap, toks := s'.toks }
  keep : ∀ b o, s.heap.get? b = some o → s'.heap.get? b = some o

theorem Done.refl (s : Shared) : Done s s := ⟨rfl, fun _ _ e => e⟩
theorem Done.trans {a b c : Shared} (x : Done a b) (y : Done b c) : Done a c :=
  ⟨by rw [y.is, x.is], fun d o e => y.keep d o (x.keep d o e)⟩
theorem Done.of {s : Shared} {h' : Heap} {tk : Nat} (k : ∀ b o, s.heap.get? b = some o → h'.get? b = some o) : Done s { s with heap := h', toks := tk } := ⟨rfl, k⟩
theorem Done.ofFr {s s₂ : Shared} {L : Addr} {m : Str → Option Value} (F : Fr s.heap L s₂.heap m) (e : s₂ = { s with heap := s₂.heap, toks := s₂.toks }) : Done s s₂ := ⟨e, F.keep⟩
theorem newsAfter {h₀ h h' : Heap} {L : Addr} {news : List (Addr × Obj)} (N : News h₀ L h news) (k : ∀ b o, h.get? b = some o → h'.get? b = some o) : News h₀ L h' news :=
  fun p hp => ⟨k _ _ (N p hp).1, (N p hp).2⟩
theorem newsSub {h₀ h : Heap} {L : Addr} {news news' : List (Addr × Obj)} (N : News h₀ L h news) (k : ∀ p ∈ news', p ∈ news) : News h₀ L h news' := fun p hp => N p (k p hp)
/-- what a call made stands apart from what was there -/
theorem newsFresh1 {h₀ h h' : Heap} {L a : Addr} {o : Obj} {m : Str → Option Value} {news : List (Addr × Obj)} (F : Fr h₀ L h m) (N : News h₀ L h' news) (ha : h.objs.size ≤ a) (ho : h'.get? a = some o) : News h₀ L h' ((a, o) :: news) := by
  intro p hp
  rcases List.mem_cons.mp hp with rfl | hp
  · refine ⟨ho, fun e => ?_, ?_⟩
    · have := F.ns.lt
      exact absurd this (Nat.not_lt.mpr (e ▸ ha))
    · cases q : h₀.get? a with
      | none => rfl
      | some o' => exact absurd (Heap.lt_size (F.keep _ _ q)) (Nat.not_lt.mpr ha)
  · exact N p hp

/-- an Around with no exception handled -/
noncomputable abbrev mkA (dp un : Nat) (fr : Option (List Env)) (gd : Option (List Code)) : Around := { handled := none, depth := dp, frames := fr, guards := gd, units := un }
structure Room (A : Around) (k : Nat) : Prop where
  hd : A.handled = none
  depth : A.depth + k ≤ 900
  units : A.units + 10 * k ≤ 9000
theorem Room.deeper {A : Around} {k : Nat} (h : Room A (k + 1)) (env : Env) : Room (A.deeper env) k :=
  ⟨h.hd, by have := h.depth; show A.depth + 1 + k ≤ 900; omega, by have := h.units; show A.units + 3 + 10 * k ≤ 9000; omega⟩
theorem Room.in1 {A : Around} {k : Nat} (h : Room A (k + 1)) : Room A.in1 k :=
  ⟨h.hd, by have := h.depth; show A.depth + k ≤ 900; omega, by have := h.units; show A.units + 1 + 10 * k ≤ 9000; omega⟩
theorem Room.make {A : Around} {k : Nat} (h : Room A (k + 1)) (C : Addr) (vals : List Value) (kw : List (Str × Value)) : Room (A.under (.builtin "type.__call__" ⟨.ref C :: vals, kw⟩)) k :=
  ⟨h.hd, by have := h.depth; show A.depth + 1 + k ≤ 900; omega, by have := h.units; show A.units + 1 + 10 * k ≤ 9000; omega⟩
theorem Room.le {A : Around} {k j : Nat} (h : Room A k) (hj : j ≤ k) : Room A j := ⟨h.hd, by have := h.depth; omega, by have := h.units; omega⟩
theorem Room.lim {A : Around} {k : Nat} (h : Room A (k + 1)) : A.depth < recursionLimit := by have := h.depth; show A.depth < 1000; omega
theorem Room.mk' {A : Around} {k : Nat} (h : Room A k) : A = mkA A.depth A.units A.frames A.guards := by
  obtain ⟨hd0, d, f, g, u⟩ := A
  have := h.hd
  dsimp only at this
  subst this
  rfl
/-- for all such Arounds with room k -/
noncomputable def AtA (k : Nat) (P : Around → Prop) : Prop := ∀ dp un fr gd, Room (mkA dp un fr gd) k → P (mkA dp un fr gd)
theorem AtA.use {k : Nat} {P : Around → Prop} (h : AtA k P) {A : Around} (hA : Room A k) : P A := by
  have e := hA.mk'
  rw [e]
  exact h _ _ _ _ (e ▸ hA)

/-- the written part and the top's facts at a heap -/
noncomputable def Gnd (w : World) (h : Heap) : Prop := (hd.heap_1 w.params).In h ∧ ∃ p loose mean mg mb, Top p loose mean mg mb h
theorem Gnd.keep {w : World} {h h' : Heap} (G : Gnd w h) (k : ∀ b o, h.get? b = some o → h'.get? b = some o) : Gnd w h' :=
  ⟨G.1.keeps k, let ⟨p, l, e, g, b, T⟩ := G.2; ⟨p, l, e, g, b, T.keeps k⟩⟩

section
variable {prog : Program} {w : World} {A : Around} {s : Shared} {K : Frag} {R : Result → Shared → Prop}

theorem enter {name qual : Str} {params : Arguments} {body : List Stmt} {scope : Scope} {dV kV doc pm cdv ct oc : Value} {an od : Option Addr} {osl : Array (Option Value)} {f : Addr} {args : Args} {binds : List (Str × Value)}
    (X : K.In s.heap) (hlim : s.heap.NoLimit) (ho : K.lookup f = some ⟨oc, od, .func (fnOf name qual params body scope dV kV doc pm an cdv ct), osl⟩) (hcd : codeIn K cdv qual = true)
    (hbind : BindsTo s (fnOf name qual params body scope dV kV doc pm an cdv ct) args binds) (hloc : ∀ y ∈ binds, scope.names.lookup y.1 = some .local)
    {k : Nat} (hA : Room A (k + 1))
    (h : ∀ L h₁, Fr s.heap L h₁ (fun y => binds.reverse.lookup y) → News s.heap L h₁ [] → AtA k fun A' =>
      wpAny (model prog w) A' (execs body (envOf qual scope L f cdv))
        (fun fl s' => R (.ok (.ret (match fl with | .ret v => v | _ => .none))) s') (fun _ _ => False)
        { s with heap := h₁, toks := s.toks + binds.length })
    (hco : scope.isCoroutine = false) (hgen : scope.isGenerator = false) (hk : scope.kind = .function)
    (hcell : ∀ x ∈ scope.names, x.2 ≠ .cell) : codeAny (model prog w) A (.call (.ref f) args) R s := by
  refine codeAny_call_def (fd := fnOf name qual params body scope dV kV doc pm an cdv ct) (body := body) (binds := binds) hA.lim (X _ _ ho) rfl hlim (codeRec_of X hcd) rfl hbind hcell hloc (fun h₁ hns hk₁ => ?_) hco hgen hk
  exact wpAny_mono ((h s.heap.objs.size h₁ ⟨hns, hk₁, Nat.le_refl _⟩ News.nil).use (hA.deeper _)) (fun _ _ y => y) (fun _ _ y => y.elim)

/-- as enter, with what stands apart from the base -/
theorem enterN {g : Heap} {news : List (Addr × Obj)} {name qual : Str} {params : Arguments} {body : List Stmt} {scope : Scope} {dV kV doc pm cdv ct oc : Value} {an od : Option Addr} {osl : Array (Option Value)} {f : Addr} {args : Args} {binds : List (Str × Value)}
    (st : ∀ b o, g.get? b = some o → s.heap.get? b = some o) (hz : g.objs.size ≤ s.heap.objs.size) (N : ∀ p ∈ news, s.heap.get? p.1 = some p.2 ∧ g.get? p.1 = none)
    (X : K.In g) (hlim : g.NoLimit) (ho : K.lookup f = some ⟨oc, od, .func (fnOf name qual params body scope dV kV doc pm an cdv ct), osl⟩) (hcd : codeIn K cdv qual = true) (hroom : A.depth < recursionLimit)
    (hbind : BindsTo s (fnOf name qual params body scope dV kV doc pm an cdv ct) args binds) (hloc : ∀ y ∈ binds, scope.names.lookup y.1 = some .local)
    (h : ∀ L h₁, Fr g L h₁ (fun y => binds.reverse.lookup y) → News g L h₁ news → (∀ p ∈ news, p.1 < L) →
      wpAny (model prog w) (A.deeper (envOf qual scope L f cdv)) (execs body (envOf qual scope L f cdv))
        (fun fl s' => R (.ok (.ret (match fl with | .ret v => v | _ => .none))) s') (fun _ _ => False)
        { s with heap := h₁, toks := s.toks + binds.length })
    (hco : scope.isCoroutine = false) (hgen : scope.isGenerator = false) (hk : scope.kind = .function)
    (hcell : ∀ x ∈ scope.names, x.2 ≠ .cell) : codeAny (model prog w) A (.call (.ref f) args) R s := by
  refine codeAny_call_def (fd := fnOf name qual params body scope dV kV doc pm an cdv ct) (body := body) (binds := binds) hroom (st _ _ (X _ _ ho)) rfl (hlim.keeps st) (codeRec_of (X.keeps st) hcd) rfl hbind hcell hloc (fun h₁ hns hk₁ => ?_) hco hgen hk
  exact wpAny_mono (h s.heap.objs.size h₁ ⟨hns, fun b o e => hk₁ b o (st b o e), hz⟩ (fun p hp => ⟨hk₁ _ _ (N p hp).1, Nat.ne_of_lt (Heap.lt_size (N p hp).1), (N p hp).2⟩) (fun p hp => Heap.lt_size (N p hp).1)) (fun _ _ y => y) (fun _ _ y => y.elim)

/-- a class is called: its __init__ walked over the heap as it stood -/
theorem make {C fI : Addr} {rest : List Value} {kw : List (Str × Value)} {name qual : Str} {params : Arguments} {body : List Stmt} {scope : Scope} {dV kV doc pm cdv ct oc : Value} {an od : Option Addr} {osl : Array (Option Value)} {binds : Addr → List (Str × Value)}
    (X : K.In s.heap) (hlim : s.heap.NoLimit) (hm : makesIn K C = true) (hi : findIn K (.ref C) "__init__" = some (some (.ref fI))) (hf : typeIn K (.ref fI) = some (.type "function"))
    (ho : K.lookup fI = some ⟨oc, od, .func (fnOf name qual params body scope dV kV doc pm an cdv ct), osl⟩) (hcd : codeIn K cdv qual = true) {k : Nat} (hA : Room A (k + 2))
    (hbind : ∀ x (s' : Shared), K.In s'.heap → BindsTo s' (fnOf name qual params body scope dV kV doc pm an cdv ct) ⟨.ref x :: rest, kw⟩ (binds x)) (hloc : ∀ x, ∀ y ∈ binds x, scope.names.lookup y.1 = some .local)
    (h : ∀ x dx L h₁, Fr s.heap L h₁ (fun y => (binds x).reverse.lookup y) → News s.heap L h₁ [(x, instObj C dx), (dx, dictOf [] 0)] → @LE.le Nat _ s.heap.objs.size dx → @LT.lt Nat _ dx x → @LT.lt Nat _ x L → AtA k fun A' =>
      wpAny (model prog w) A' (execs body (envOf qual scope L fI cdv))
        (fun fl s' => (match fl with | .ret v => v | _ => .none) = .none ∧ R (.ok (.ret (.ref x))) s') (fun _ _ => False)
        { s with heap := h₁, toks := s.toks + (binds x).length })
    (hco : scope.isCoroutine = false) (hgen : scope.isGenerator = false) (hk : scope.kind = .function)
    (hcell : ∀ x ∈ scope.names, x.2 ≠ .cell) : codeAny (model prog w) A (.call (.ref C) ⟨rest, kw⟩) R s := by
  obtain ⟨hh, gg, d, t, os⟩ := s
  refine make_core (makes_of X hm) (looks_findIn X hi) (fun self => bind_fn X self hf) (.inl rfl) ?_
  have k1 : ∀ b o, hh.get? b = some o → ((hh.push emptyDict).push (instObj C hh.objs.size)).get? b = some o := fun b o e => Heap.get?_push_of_some _ (Heap.get?_push_of_some _ e)
  have hx : ((hh.push emptyDict).push (instObj C hh.objs.size)).get? (hh.objs.size + 1) = some (instObj C hh.objs.size) := by
    have := Heap.get?_push_size (hh.push emptyDict) (o := instObj C hh.objs.size) rfl
    rwa [Heap.size_push] at this
  have hdx : ((hh.push emptyDict).push (instObj C hh.objs.size)).get? hh.objs.size = some emptyDict := Heap.get?_push_of_some _ (Heap.get?_push_size _ rfl)
  have n1 : hh.get? (hh.objs.size + 1) = none := by
    cases q : hh.get? (hh.objs.size + 1) with
    | none => rfl
    | some o => exact absurd (Heap.lt_size q) (Nat.not_lt.mpr (Nat.le_succ _))
  have n2 : hh.get? hh.objs.size = none := by
    cases q : hh.get? hh.objs.size with
    | none => rfl
    | some o => exact absurd (Heap.lt_size q) (Nat.lt_irrefl _)
  have hM := hA.make C rest kw
  refine enterN (s := ⟨(hh.push emptyDict).push (instObj C hh.objs.size), gg, d, t, os⟩) (K := K) (g := hh) (news := [(hh.objs.size + 1, instObj C hh.objs.size), (hh.objs.size, dictOf [] 0)]) k1 (by show hh.objs.size ≤ ((hh.push emptyDict).push (instObj C hh.objs.size)).objs.size; rw [Heap.size_push, Heap.size_push]; omega) ?_ X hlim ho hcd (Room.lim hM) (hbind _ _ (X.keeps k1)) (hloc _) (fun L h₁ F N l => ?_) hco hgen hk hcell
  · intro p hp
    rcases List.mem_cons.mp hp with rfl | hp
    · exact ⟨hx, n1⟩
    · rw [List.mem_singleton.mp hp]; exact ⟨hdx, n2⟩
  · refine wpAny_mono ((h _ _ L h₁ F N (Nat.le_refl _) (Nat.lt_succ_self _) (l _ (.head _))).use (hM.deeper _)) (fun fl s' z => ?_) fun _ _ z => z
    exact ⟨z.1, z.2⟩

theorem call_of {f : Value} {pos : List Value} {kw : List (Str × Value)} {Q : Value → Shared → Prop} {E : Value → Shared → Prop}
    (h : codeAny (model prog w) A (.call f ⟨pos, kw⟩) (fun r s' => match r with | .ok (.ret v) => Q v s' | .ok _ => False | .error e => E e s') s) :
    wpAny (model prog w) A (call f pos kw) Q E s := wpAny_call h
end

/-- an int's size -/
noncomputable def Sz (k : Nat) (x : Int) : Prop := x.natAbs < 2 ^ k
theorem Sz.mono {j k : Nat} {x : Int} (h : Sz j x) (l : j ≤ k) : Sz k x := Nat.lt_of_lt_of_le h (Nat.pow_le_pow_right (by decide) l)
theorem Sz.mul {j k : Nat} {x y : Int} (h : Sz j x) (g : Sz k y) : Sz (j + k) (x * y) := by
  unfold Sz; rw [Int.natAbs_mul, Nat.pow_add]
  exact Nat.mul_lt_mul'' h g
theorem Sz.add {j k : Nat} {x y : Int} (h : Sz j x) (g : Sz k y) : Sz (max j k + 1) (x + y) := by
  have h' : x.natAbs < 2 ^ max j k := Sz.mono h (Nat.le_max_left _ _)
  have g' : y.natAbs < 2 ^ max j k := Sz.mono g (Nat.le_max_right _ _)
  unfold Sz; rw [Nat.pow_succ]
  have := Int.natAbs_add_le x y
  omega
theorem Sz.log {k : Nat} {x : Int} (h : Sz k x) (l : k ≤ 9000 := by decide) : x.natAbs.log2 < 9000 := by
  rcases Nat.eq_zero_or_pos x.natAbs with e | p
  · rw [e]; decide +kernel
  · exact Nat.lt_of_lt_of_le ((Nat.log2_lt (Nat.ne_of_gt p)).mpr h) l
theorem Sz.bits {k : Nat} {x : Int} (h : Sz k x) : Builtin.Int.intBits x ≤ k := by
  unfold Builtin.Int.intBits
  split
  · exact Nat.zero_le _
  · rename_i q
    have : x.natAbs ≠ 0 := by simpa using q
    exact (Nat.log2_lt this).mpr h
theorem Sz.ok {j k : Nat} {x y : Int} (h : Sz j x) (g : Sz k y) (l : j + k ≤ 100000 := by decide) : IntMulOk x y := by
  have a := h.bits
  have b := g.bits
  unfold IntMulOk
  have : Builtin.Int.intTooBig (Builtin.Int.intBits x + Builtin.Int.intBits y) = false := by
    unfold Builtin.Int.intTooBig
    refine decide_eq_false ?_
    show ¬ ((Builtin.Int.intBits x + Builtin.Int.intBits y : Nat) : Int) > ((2 ^ 27 : Nat) : Int)
    have h27 : (2 : Nat) ^ 27 = 134217728 := by decide
    rw [h27]
    omega
  rw [this]
  simp
noncomputable def Hold (P : Prop) : Prop := P
theorem hold {P : Prop} (h : Hold P) : P := h

/-- a Fraction at hand -/
noncomputable abbrev fracD (hs1 hs2 : Int) (n d : Int) (t1 t2 t3 t4 : Tok) : Obj :=
  dictOf [⟨hs1, .str (Str.ofString "numerator") t1, .int n t2⟩, ⟨hs2, .str (Str.ofString "denominator") t3, .int d t4⟩] 2
noncomputable def IsFrac (h : Heap) (v : Value) (n d : Int) : Prop :=
  ∃ x dx hs1 hs2 t1 t2 t3 t4, v = .ref x ∧ h.get? x = some (instObj 182 dx) ∧ h.get? dx = some (fracD hs1 hs2 n d t1 t2 t3 t4)
theorem IsFrac.keep {h h' : Heap} {v : Value} {n d : Int} (x : IsFrac h v n d) (k : ∀ b o, h.get? b = some o → h'.get? b = some o) : IsFrac h' v n d := by
  obtain ⟨a, dx, hs1, hs2, t1, t2, t3, t4, e, h1, h2⟩ := x
  exact ⟨a, dx, hs1, hs2, t1, t2, t3, t4, e, k _ _ h1, k _ _ h2⟩
/-- .. that a call made -/
noncomputable def NewFrac (h h' : Heap) (v : Value) (n d : Int) : Prop :=
  ∃ x dx hs1 hs2 t1 t2 t3 t4, v = .ref x ∧ @LE.le Nat _ h.objs.size dx ∧ @LT.lt Nat _ dx x ∧ h'.get? x = some (instObj 182 dx) ∧ h'.get? dx = some (fracD hs1 hs2 n d t1 t2 t3 t4)
theorem NewFrac.is {h h' : Heap} {v : Value} {n d : Int} (x : NewFrac h h' v n d) : IsFrac h' v n d := by
  obtain ⟨a, dx, hs1, hs2, t1, t2, t3, t4, e, _, _, h1, h2⟩ := x
  exact ⟨a, dx, hs1, hs2, t1, t2, t3, t4, e, h1, h2⟩

section
variable {prog : Program} {w : World} {A : Around} {s : Shared} {env : Env} {Q : Flow → Shared → Prop}

/-- the end of a while's turn -/
noncomputable def WEnd (h₀ : Heap) (L : Addr) (s : Shared) (news : List (Addr × Obj)) (J : Nat → (Str → Option Value) → Prop) (k : Nat) (f : Flow) (s₃ : Shared) : Prop :=
  f = .next ∧ ∃ k' h₃ tk₃ m₃, k' < k ∧ s₃ = { s with heap := h₃, toks := tk₃ } ∧ Fr h₀ L h₃ m₃ ∧ News h₀ L h₃ news ∧ J k' m₃

theorem while_inv {h₀ : Heap} {L : Addr} {m : Str → Option Value} {news : List (Addr × Obj)} {test : Expr} {body : List Stmt} {pos : Pos} (F : Fr h₀ L s.heap m) (N : News h₀ L s.heap news)
    (J : Nat → (Str → Option Value) → Prop) (n : Nat) (hj : J n m)
    (turn : ∀ k m₁ h₁ tk, J k m₁ → Fr h₀ L h₁ m₁ → News h₀ L h₁ news →
      wpAny (model prog w) A (isTrue test env (eval test env)) (fun b s₂ => if b = true then wpAny (model prog w) A (execs body env) (WEnd h₀ L s news J k) (fun _ _ => False) s₂ else Q .next s₂) (fun _ _ => False) { s with heap := h₁, toks := tk }) :
    wpAny (model prog w) A (exec (.While test body [] pos) env) Q (fun _ _ => False) s := by
  refine wpAny_While (codeAny_whileLoop (fun k s' => ∃ h₁ tk m₁, s' = { s with heap := h₁, toks := tk } ∧ Fr h₀ L h₁ m₁ ∧ News h₀ L h₁ news ∧ J k m₁) ?_ n ⟨s.heap, s.toks, m, rfl, F, N, hj⟩)
  rintro k s' ⟨h₁, tk, m₁, rfl, F₁, N₁, j₁⟩
  refine wpAny_mono (turn k m₁ h₁ tk j₁ F₁ N₁) (fun b s₂ z => ?_) fun _ _ z => z.elim
  cases b with
  | true =>
    simp only [if_true] at z ⊢
    refine wpAny_mono z (fun f s₃ z => ?_) fun _ _ z => z.elim
    obtain ⟨rfl, k', h₃, tk₃, m₃, lt, rfl, F₃, N₃, j₃⟩ := z
    exact ⟨k', lt, h₃, tk₃, m₃, rfl, F₃, N₃, j₃⟩
  | false =>
    simp only [Bool.false_eq_true, if_false] at z ⊢
    exact wpAny_execs_nil z
end
theorem inst_old {h₀ h : Heap} {L x C dx : Addr} {m : Str → Option Value} {od : Obj} {sl : Array (Option Value)} (F : Fr h₀ L h m) (h1 : h₀.get? x = some ⟨.ref C, some dx, .plain, sl⟩) (h2 : h₀.get? dx = some od) :
    InstAt h x ⟨.ref C, some dx, .plain, sl⟩ C (some od) := ⟨F.keep _ _ h1, rfl, rfl, F.keep _ _ h2⟩
end
local macro_rules | `(tactic| omega) => `(tactic| first | lia | omega +splitNatAbs)
theorem fill_all : PySem.Challenge.rw_jv0001_01.Holds ∨ (∀ P, hd.heap_1 P = hd.heap_1 P) := by
  k_fill
  exact .inr fun _ => rfl
section
/-- the parts of a def of the written text: its scope, its code, its body -/
noncomputable def defParts (K : Frag) (a : Addr) : Option (Scope × Value × List Stmt) := match K.lookup a with
  | some ⟨_, _, .func fd, _⟩ => (match fd.body with | .stmts b => some (fd.scope, fd.code, b) | _ => none)
  | _ => none
/-- the n-th for of a body: its target and its suite -/
noncomputable def nthFor : Nat → List Stmt → Option (PySem.Expr × List Stmt)
  | _, [] => none
  | n, .For t _ b _ _ :: r => (match n with | 0 => some (t, b) | n + 1 => nthFor n r)
  | n, _ :: r => nthFor n r
end
section
section
variable {prog : Program} {w : World} {A : Around} {E : Value → Shared → Prop} {h : Heap} {g : Array GenState} {d : Drawn} {t : Nat} {os : OsState}
variable {nm q : Str} {C N : Addr} {bs bm bmB : List Value} {hdct : Bool} {sn : List Str} {sub : List Value} {ab : Bool} {col : Option Bool} {dd : Option Addr} {k0 k1 k2 k3 k5 : Option Value} {B newId initId : String}
noncomputable abbrev excMade (h : Heap) (C : Addr) (rest : List Value) : Heap := (h.push { cls := .type "tuple", data := .seq rest.toArray }).push { cls := .ref C, data := .fields #[.ref h.objs.size, .none, .none, .none, .bool false, .none] }
/-- type(C)(*rest), where the exception class has an __init__ of its own -/
theorem type_call_own (FB : ExcBaseFacts B newId initId bmB) (T : OwnTail h bmB bm) {K : Frag} {fI : Addr} {rest : List Value} {Q : PySem.Fin → Shared → Prop} (X : K.In h)
    (hC : h.get? C = some (excClassObj nm q C N bs bm hdct sn sub ab col dd k0 k1 k2 k3 k5 newId)) (hi : findIn K (.ref C) "__init__" = some (some (.ref fI))) (hf : typeIn K (.ref fI) = some (.type "function"))
    (hq : codeAny (model prog w) A (.call (.ref fI) ⟨.ref (h.objs.size + 1) :: rest, []⟩) (fun r s' => r = .ok (.ret .none) ∧ Q (.done (.ret (.ref (h.objs.size + 1)))) s') ⟨excMade h C rest, g, d, t, os⟩) (hrest : rest.length ≤ sizeLine := by size_fits) :
    wpAny (model prog w) A (Builtin.«type.__call__» ⟨.ref C :: rest, []⟩) Q E ⟨h, g, d, t, os⟩ := by
  repeat (first | with_reducible refine wpAny_loadPart_at hC ?_ | with_reducible refine wpAny_madeBy_exc hC ?_ | wp_step)
  refine codeAny_call_builtin_code (Code.quiet_builtin _ FB.quiet) (wpAny_check_new_subT FB T hC ?_)
  refine codeAny_exc_new_subT FB T hC ?_ hrest
  show wpAny _ _ _ _ _ _
  have k : ∀ b o, h.get? b = some o → (excMade h C rest).get? b = some o := fun b o e => Heap.get?_push_of_some _ (Heap.get?_push_of_some _ e)
  have hC₁ := k _ _ hC
  have X₁ := X.keeps k
  have hget : (excMade h C rest).get? (h.objs.size + 1) = some { cls := .ref C, data := .fields #[.ref h.objs.size, .none, .none, .none, .bool false, .none] } := by
    have := Heap.get?_push_size (h.push { cls := .type "tuple", data := .seq rest.toArray }) (o := { cls := .ref C, data := .fields #[.ref h.objs.size, .none, .none, .none, .bool false, .none] }) rfl
    rwa [Heap.size_push] at this
  have hcC : (Value.ref C :: bm).contains (.ref C) = true := by simp
  have T₁ := T.keeps (h' := excMade h C rest) k
  unfold isInstance
  repeat (first | with_reducible refine wpAny_loadPart_at hget ?_ | (with_reducible refine wpAny_isSubtype_exc hC₁ ?_; rw [hcC]) | wp_step)
  show wpAny _ _ (typeLookup (.ref C) _) _ _ _
  refine (looks_findIn X₁ hi).here ?_
  refine wpAny_holding (wpAny_bind ((bind_fn X₁ _ hf).here ?_))
  refine wpAny_bind (wpAny_call (codeAny_mono hq ?_))
  rintro r s' ⟨rfl, h9⟩
  refine wpAny_pure ?_
  exact wpAny_pure h9
theorem call_exc_own (FB : ExcBaseFacts B newId initId bmB) (T : OwnTail h bmB bm) {K : Frag} {fI : Addr} {rest : List Value} {Q : Value → Shared → Prop} (X : K.In h)
    (hC : h.get? C = some (excClassObj nm q C N bs bm hdct sn sub ab col dd k0 k1 k2 k3 k5 newId)) (hi : findIn K (.ref C) "__init__" = some (some (.ref fI))) (hf : typeIn K (.ref fI) = some (.type "function"))
    (hq : codeAny (model prog w) (A.under (.builtin "type.__call__" ⟨.ref C :: rest, []⟩)) (.call (.ref fI) ⟨.ref (h.objs.size + 1) :: rest, []⟩) (fun r s' => r = .ok (.ret .none) ∧ Q (.ref (h.objs.size + 1)) s') ⟨excMade h C rest, g, d, t, os⟩) (hrest : rest.length ≤ sizeLine := by size_fits) :
    wpAny (model prog w) A (call (.ref C) rest) Q E ⟨h, g, d, t, os⟩ := by
  have f1 := tc_lookup
  have f2 := tc_bind (.ref C)
  have hT : (⟨h, g, d, t, os⟩ : Shared).TypeIs (.ref C) "type" := ⟨_, hC, rfl⟩
  refine wpAny_call (codeAny_of_tree ?_)
  show wpAny _ _ (callAny (.ref C) _) _ _ _
  repeat (any_goals (first | assumption | with_reducible refine wpAny_loadPart_at hC ?_ | wp_step))
  refine ⟨rfl, ?_⟩
  exact codeAny_call_builtin_at (Code.quiet_builtin _ (by decide +kernel)) entry_typeCall (wpAny_check_type_call_sub hC (type_call_own FB T X hC hi hf hq hrest))

theorem slot_wd_get : Slot "wrapper_descriptor" "__get__" "wrapper_descriptor.__get__" := .of (owner := "wrapper_descriptor") (n := "__get__") (by rw [typeLookup_type, builtinLookup_eq_fast]; kernel_rfl) (by decide +kernel) (by decide +kernel) (by decide +kernel)
  (by first | exact .inl (by decide +kernel) | exact .inr (by decide +kernel)) (by rw [isSubtype_type]; kernel_rfl)
theorem entry_wd_get : entryFor table "wrapper_descriptor.__get__" = some Builtin.«wrapper_descriptor.__get__» := entryFor_of_tree (by kernel_rfl)
theorem args_wd_get (a b c : Value) : argsOk "wrapper_descriptor.__get__" ⟨[a, b, c], []⟩ := by unfold argsOk; kernel_rfl
theorem type_vinit : typeOf (.builtin "ValueError.__init__") = pure (.type "wrapper_descriptor") := by
  have h1 : withoutEnding? "ValueError.__init__" "#opaque" = none := by decide +kernel
  have h2 : withoutEnding? "ValueError.__init__" "#data" = none := by decide +kernel
  have h3 : builtinKind "ValueError.__init__" = some .slot := by decide +kernel
  simp only [typeOf, builtinType, h1, h2, h3, Option.isSome_none, Bool.false_eq_true, if_false]
theorem wd_get {x : Addr} {ox : Obj} {v : Value} {Q : PySem.Fin → Shared → Prop} (hx : h.get? x = some ox) (hxc : ox.cls = .ref C) (hC : h.get? C = some (excClassObj nm q C N bs bm hdct sn sub ab col dd k0 k1 k2 k3 k5 newId)) (hB : (Value.ref C :: bm).contains (.type "ValueError") = true)
    (hv : (v == Value.none) = false)
    (hq : Q (.done (.ret (.ref h.objs.size))) ⟨h.push { cls := .type "method-wrapper", data := .fields #[.builtin "ValueError.__init__", .ref x] }, g, d, t, os⟩) :
    wpAny (model prog w) A (Builtin.«wrapper_descriptor.__get__» ⟨[.builtin "ValueError.__init__", .ref x, v], []⟩) Q E ⟨h, g, d, t, os⟩ := by
  unfold Builtin.«wrapper_descriptor.__get__»
  repeat (first
    | (with_reducible refine wpAny_loadPart_at hx ?_; rw [hxc]) | (with_reducible refine wpAny_isSubtype_exc hC ?_; rw [hB]) | (with_reducible refine wpAny_newObj_type ?_ (by size_fits))
    | (simp only [hv, Bool.or_false, Bool.false_eq_true, if_false])
    | wp_step
    | dsimp only)
  have e1 : ".".intercalate ("ValueError.__init__".cutAt '.').dropLast = "ValueError" := by decide +kernel
  rw [e1]
  repeat (first
    | (with_reducible refine wpAny_isSubtype_exc hC ?_; rw [hB]) | (with_reducible refine wpAny_newObj_type ?_ (by size_fits))
    | wp_step
    | dsimp only)
  all_goals exact hq
theorem sup_ga {so D x : Addr} {ox : Obj} {l₀ l : List Value} {K : Frag} {tk : Tok} {Q : PySem.Fin → Shared → Prop}
    (hso : h.get? so = some { cls := .type "super", dict := none, data := .fields #[.ref D, .ref x, .ref C], slots := #[] }) (hno : Looks (model prog w) h (opaqueClassAbove (.ref C)) none)
    (hM : Looks (model prog w) h (mroOf (.ref C)) l₀) (hl : (l₀.dropWhile (· != .ref D)).drop 1 = l) (X : K.In h)
    (hf : alongIn K "__init__" l = some (some (.builtin "ValueError.__init__"))) (hx : h.get? x = some ox) (hxc : ox.cls = .ref C) (hC : h.get? C = some (excClassObj nm q C N bs bm hdct sn sub ab col dd k0 k1 k2 k3 k5 newId)) (hB : (Value.ref C :: bm).contains (.type "ValueError") = true) (hxC : x ≠ C)
    (hq : Q (.done (.ret (.ref h.objs.size))) ⟨h.push { cls := .type "method-wrapper", data := .fields #[.builtin "ValueError.__init__", .ref x] }, g, d, t, os⟩) :
    wpAny (model prog w) A (Builtin.«super.__getattribute__» ⟨[.ref so, .str (Str.ofString "__init__") tk], []⟩) Q E ⟨h, g, d, t, os⟩ := by
  have hlk := slot_wd_get.lookup
  have hne : (Value.ref x == Value.ref C) = false := by simp [hxC]
  have hdt : ({ cls := .type "super", dict := none, data := .fields #[.ref D, .ref x, .ref C], slots := #[] } : Obj).data = .fields #[.ref D, .ref x, .ref C] := rfl
  have f0 : (#[.ref D, .ref x, .ref C] : Array Value)[0]? = some (.ref D) := rfl
  have f1 : (#[.ref D, .ref x, .ref C] : Array Value)[1]? = some (.ref x) := rfl
  have f2 : (#[.ref D, .ref x, .ref C] : Array Value)[2]? = some (.ref C) := rfl
  have hn : ((Str.ofString "__init__") == ("__class__" : Str)) = false := by decide
  have hty := type_vinit
  have hT : ∀ s : Shared, s.TypeIs (.builtin "ValueError.__init__") "wrapper_descriptor" := fun _ => hty
  have hvn : (Value.ref C == Value.none) = false := rfl
  unfold Builtin.«super.__getattribute__»
  repeat (first
    | (with_reducible refine wpAny_field hso hdt f0 ?_) | (with_reducible refine wpAny_field hso hdt f1 ?_) | (with_reducible refine wpAny_field hso hdt f2 ?_)
    | (with_reducible refine ks_wpAny_notOpaque hno ?_)
    | (with_reducible refine Looks.at hM ?_; rw [hl])
    | (refine ks_forIn_along X (fun _ _ => rfl) rfl ?_ hf)
    | (with_reducible refine wpAny_bind (wpAny_of_eq hty ?_))
    | (with_reducible refine wpAny_call_entry slot_wd_get (hT _) entry_wd_get (wd_get hx hxc hC hB hvn ?_) (args_wd_get _ _ _))
    | (with_reducible refine ⟨_, rfl, ?_⟩)
    | (simp only [hn, hne, Bool.or_false, Bool.false_eq_true, if_false])
    | wp_step
    | dsimp only)
  all_goals exact hq

theorem getMethod_sup {so D x : Addr} {ox : Obj} {l₀ l : List Value} {K : Frag} {pl : Sem Bool} {Q : Value × List Value → Shared → Prop}
    (hso : h.get? so = some { cls := .type "super", dict := none, data := .fields #[.ref D, .ref x, .ref C], slots := #[] }) (hno : Looks (model prog w) h (opaqueClassAbove (.ref C)) none)
    (hM : Looks (model prog w) h (mroOf (.ref C)) l₀) (hl : (l₀.dropWhile (· != .ref D)).drop 1 = l) (X : K.In h)
    (hf : alongIn K "__init__" l = some (some (.builtin "ValueError.__init__"))) (hx : h.get? x = some ox) (hxc : ox.cls = .ref C) (hC : h.get? C = some (excClassObj nm q C N bs bm hdct sn sub ab col dd k0 k1 k2 k3 k5 newId)) (hB : (Value.ref C :: bm).contains (.type "ValueError") = true) (hxC : x ≠ C)
    (hq : Q (.ref h.objs.size, []) ⟨h.push { cls := .type "method-wrapper", data := .fields #[.builtin "ValueError.__init__", .ref x] }, g, d, t + 1, os⟩) :
    wpAny (model prog w) A (getMethod (.ref so) (Str.ofString "__init__") pl) Q E ⟨h, g, d, t, os⟩ := by
  have hlk := PySem.F.ks_slot_super_ga.lookup
  have hcan := PySem.F.ks_canon_super_ga
  have hT : ∀ t', (⟨h, g, d, t', os⟩ : Shared).TypeIs (.ref so) "super" := fun _ => ⟨_, hso, rfl⟩
  unfold getMethod
  refine wpAny_bind (wpAny_specialOf (hT _) hlk ?_)
  show wpAny _ _ (if (Manifest.canonical "super.__getattribute__" != "object.__getattribute__") = true then _ else _) _ _ _
  rw [if_pos hcan]
  unfold getAttr getAttrBy
  refine wpAny_bind (wpAny_bind (wpAny_mkText (wpAny_holding (wpAny_bind (wpAny_typeOf (hT _) (wpAny_bind (wpAny_of_eq hlk ?_)))))))
  show wpAny _ _ (getAttrByItsOwn (.ref so) (.str (Str.ofString "__init__") t) (.type "super") (.builtin "super.__getattribute__") true false) _ _ _
  unfold getAttrByItsOwn hookBefore callGetattribute boundAndCalled
  refine wpAny_bind (wpAny_of_eq (show (if onTheHeap (.type "super") then typeLookup (.type "super") "__getattr__" else pure none) = pure none from rfl) ?_)
  refine wpAny_bind (wpAny_attempt (wpAny_holding ?_))
  show wpAny _ _ (bindSpecial (.builtin "super.__getattribute__") (.ref so) >>= _) _ _ _
  refine wpAny_bind (wpAny_of_eq (PySem.F.ks_slot_super_ga.bind _) ?_)
  refine wpAny_mono (Q := fun v s' => v = .ref h.objs.size ∧ s' = ⟨h.push { cls := .type "method-wrapper", data := .fields #[.builtin "ValueError.__init__", .ref x] }, g, d, t + 1, os⟩) (E := fun _ _ => False)
    (wpAny_call_entry PySem.F.ks_slot_super_ga (hT _) PySem.F.ks_entry_super_ga (sup_ga hso hno hM hl X hf hx hxc hC hB hxC ⟨_, rfl, rfl, rfl⟩) (PySem.F.ks_gaArgs_super _ _)) (fun v s' hv => ?_) fun _ _ z => z.elim
  obtain ⟨rfl, rfl⟩ := hv
  exact wpAny_pure (wpAny_pure hq)
theorem call_wrap {b x : Addr} {v : Value} {t0 : Addr} {Q : Value → Shared → Prop} (hb : h.get? b = some { cls := .type "method-wrapper", dict := none, data := .fields #[.builtin "ValueError.__init__", .ref x], slots := #[] })
    (hC : h.get? C = some (excClassObj nm q C N bs bm hdct sn sub ab col dd k0 k1 k2 k3 k5 newId)) (hx : h.get? x = some { cls := .ref C, data := .fields #[.ref t0, .none, .none, .none, .bool false, .none] })
    (hq : ∀ h' tp, (∀ y o, y ≠ x → h.get? y = some o → h'.get? y = some o) → h.get? tp = none → h'.get? tp = some { cls := .type "tuple", data := .seq #[v] } →
      h'.get? x = some { cls := .ref C, data := .fields #[.ref tp, .none, .none, .none, .bool false, .none] } → Q .none ⟨h', g, d, t, os⟩) :
    wpAny (model prog w) A (call (.ref b) [v]) Q E ⟨h, g, d, t, os⟩ := by
  refine wpAny_call (codeAny_of_tree ?_)
  show wpAny _ _ (callAny (.ref b) _) _ _ _
  unfold callAny
  refine wpAny_bind (wpAny_load hb ?_)
  unfold checkBoundCall
  repeat (first | with_reducible refine wpAny_loadPart_at hC ?_ | with_reducible refine wpAny_load hC ?_ | wp_step)
  refine ⟨plainId_quiet PySem.F.excBase_ValueError.init.plain _, codeAny_builtin PySem.F.excBase_ValueError.initEntry ?_⟩
  rw [Around.under_plainId PySem.F.excBase_ValueError.init.plain _]
  show wpAny _ _ (Builtin.«BaseException.__init__» ⟨[.ref x, v], []⟩) _ _ _
  wp_walk
  have hx1 : (h.push { cls := .type "tuple", data := .seq #[v] }).get? x = some { cls := .ref C, data := .fields #[.ref t0, .none, .none, .none, .bool false, .none] } := Heap.get?_push_of_some _ hx
  refine hq _ h.objs.size (fun y o hy e => ?_) (Heap.get?_none_of_le (Nat.le_refl _)) ?_ ?_
  · rw [Heap.get?_update_other _ _ (Ne.symm hy)]
    exact Heap.get?_push_of_some _ e
  · rw [Heap.get?_update_other _ _ (Nat.ne_of_lt (Heap.lt_size hx))]
    exact Heap.get?_push_at rfl rfl
  · rw [Heap.get?_update_self _ hx1 rfl]
    rfl
end
noncomputable def excOwn (K : Frag) (C : Addr) (bmB : List Value) (newId : String) : Bool := match K.lookup C with
  | some ⟨.type "type", _, .cls cd, sl⟩ => (match cd.mro, sl.toList with
    | .ref C' :: bm, [_, _, _, _, some (.builtin n), _] => C' == C && n == newId && !cd.hasDel && bm == bmB
    | _, _ => false)
  | _ => false
theorem excOwn_get {K : Frag} {h : Heap} {C : Addr} {bm : List Value} {newId : String} (X : K.In h) (q : excOwn K C bm newId = true) :
    ∃ nm qn N bs hdct sn sub ab col dd k0 k1 k2 k3 k5, h.get? C = some (excClassObj nm qn C N bs bm hdct sn sub ab col dd k0 k1 k2 k3 k5 newId) := by
  unfold excOwn at q
  split at q
  · rename_i dd cd sl ho
    split at q
    · rename_i C' bm k0 k1 k2 k3 n k5 hm hs
      simp only [Bool.and_eq_true, beq_iff_eq, Bool.not_eq_true'] at q
      refine Classical.byContradiction fun hg9 => ?_
      (refine an_2 (q) ?_; intro n90 r91; (try clear q))
      subst r91
      obtain ⟨⟨rfl, rfl⟩, hdel⟩ := n90
      refine hg9 ?_
      clear hg9
      obtain ⟨nm, bs, mro, ns, qn, hd, sn, sub, ab, col, del⟩ := cd
      dsimp only at hm hdel
      subst hm hdel
      have hsl : sl = #[k0, k1, k2, k3, some (.builtin n), k5] := by
        obtain ⟨l⟩ := sl
        simp only at hs
        rw [hs]
      subst hsl
      exact ⟨nm, qn, ns, bs, hd, sn, sub, ab, col, dd, k0, k1, k2, k3, k5, X _ _ ho⟩
    · cases q
  · cases q
end
section
section
variable {prog : Program} {w : World} {A : Around} {E : Value → Shared → Prop} {s : Shared} {h₀ : Heap} {L : Addr} {m : Str → Option Value} {news : List (Addr × Obj)} {K : Frag}
theorem sup_method {so D x C t0 : Addr} {l : List Value} {bm : List Value} {newId : String} {pl : Sem Bool} {Q : Value × List Value → Shared → Prop}
    (F : Fr h₀ L s.heap m) (N : News h₀ L s.heap news) (X₀ : K.In h₀) (ho : nsIn K cStatics "thirdparty.any" = some none) (hso : (so, ks_superObj D x C) ∈ news) (hx : (x, { cls := Value.ref C, data := .fields #[.ref t0, .none, .none, .none, .bool false, .none] }) ∈ news)
    (hl : (((Value.ref C :: bm).dropWhile (· != .ref D)).drop 1) = l) (hf : alongIn K "__init__" l = some (some (.builtin "ValueError.__init__"))) (hE : excOwn K C bm newId = true) (hB : (Value.ref C :: bm).contains (.type "ValueError") = true)
    (hq : ∀ q h', Fr h₀ L h' m → News h₀ L h' ((q, { cls := .type "method-wrapper", data := .fields #[.builtin "ValueError.__init__", .ref x] }) :: news) → Q (.ref q, []) { s with heap := h', toks := s.toks + 1 }) :
    wpAny (model prog w) A (getMethod (.ref so) (Str.ofString "__init__") pl) Q E s := by
  have X : K.In s.heap := X₀.keeps F.keep
  obtain ⟨hh, g, d, t, os⟩ := s
  (refine xa_15_1 (excOwn_get X hE) ?_; intro nm qn NN bs hdct sn sub ab col dd k0' k1' k2' k3' k5' hC)
  have hx1 := (N _ hx).1
  have hne : x ≠ C := by
    rintro rfl
    rw [show hh.get? x = _ from hC] at hx1
    cases hx1
  refine getMethod_sup (N _ hso).1 (looks_opaque X ho) (fun A Q E s k q => by obtain ⟨h', g', d', t', os'⟩ := s; exact wpAny_mroOf_exc (k _ _ hC) q) hl X hf hx1 rfl hC hB hne ?_
  (refine an_3 (ks_newsPush (s := ⟨hh, g, d, t, os⟩) (o := { cls := .type "method-wrapper", data := .fields #[.builtin "ValueError.__init__", .ref x] }) F N rfl (Heap.get?_push_at rfl rfl) (fun b o e => Heap.get?_push_of_some _ e)) ?_; intro F' N' l')
  exact hq _ _ F' N'
theorem wrap_k {b x C t0 : Addr} {bm : List Value} {v : Value} {newId : String} {Q : Value → Shared → Prop} 
    (F : Fr h₀ L s.heap m) (N : News h₀ L s.heap news) (X₀ : K.In h₀) (hb : (b, { cls := .type "method-wrapper", data := .fields #[.builtin "ValueError.__init__", .ref x] }) ∈ news) (hx : (x, { cls := Value.ref C, data := .fields #[.ref t0, .none, .none, .none, .bool false, .none] }) ∈ news) (hE : excOwn K C bm newId = true)
    (hq : ∀ h' tp, Fr h₀ L h' m → s.heap.get? tp = none → (∀ y o, y ≠ x → s.heap.get? y = some o → h'.get? y = some o) → News h₀ L h' [(x, { cls := .ref C, data := .fields #[.ref tp, .none, .none, .none, .bool false, .none] }), (tp, { cls := .type "tuple", data := .seq #[v] })] → Q .none { s with heap := h' }) :
    wpAny (model prog w) A (call (.ref b) [v]) Q E s := by
  have X : K.In s.heap := X₀.keeps F.keep
  obtain ⟨hh, g, d, t, os⟩ := s
  (refine xa_15_1 (excOwn_get X hE) ?_; intro nm qn NN bs hdct sn sub ab col dd k0' k1' k2' k3' k5' hC)
  have hx1 := N _ hx
  refine call_wrap (N _ hb).1 hC hx1.1 fun h' tp k n e1 e2 => ?_
  (refine xa_3_2 (F.ns) ?_; intro oL es ep hL r)
  have htL : tp ≠ L := by rintro rfl; rw [show hh.get? tp = _ from hL] at n; cases n
  have ht0 : h₀.get? tp = none := by
    cases z : h₀.get? tp with
    | none => rfl
    | some o => rw [show hh.get? tp = _ from F.keep _ _ z] at n; cases n
  refine hq h' tp ⟨⟨oL, es, ep, k _ _ (fun z => hx1.2.1 z.symm) hL, r⟩, fun y o e => k y o (fun z => by rw [z, hx1.2.2] at e; cases e) (F.keep y o e), F.above⟩ n k ?_
  refine fmc (⟨e2, hx1.2⟩) ?_
  intro p hp
  · rcases List.mem_cons.mp hp with rfl | hp
    · exact ⟨e1, htL, ht0⟩
    · cases hp

theorem callWith_wrap {pos : Pos} {u x : Addr} {env : Env} {e : PySem.Expr} {Q : Value → Shared → Prop}
    (h : wpAny (model prog w) A (spliced (backTo pos (starEach [e] env))) (fun vs s₁ => s₁.heap.get? u = some { cls := .type "method-wrapper", data := .fields #[.builtin "ValueError.__init__", .ref x] } ∧ wpAny (model prog w) A (call (.ref u) vs) Q E s₁) E s)
    (he : starEach [e] env = (false, eval e env) :: starEach [] env := by rfl) (hplain : (backTo pos (starEach [] env)).any (·.1) = false := by rfl) :
    wpAny (model prog w) A (callWith pos (.ref u) [] (backTo pos (starEach [e] env)) []) Q E s := by
  rw [he] at h ⊢
  unfold callWith
  refine wpAny_bind (wpAny_holding (wpAny_mono (evalArgs_plain (Q := fun x s₁ => s₁.heap.get? u = some { cls := .type "method-wrapper", data := .fields #[.builtin "ValueError.__init__", .ref _] } ∧ wpAny (model prog w) A (call (.ref u) x.pos x.kw) Q E s₁) h) (fun x s₁ h₁ => wpAny_bind (wpAny_standAt ?_)) fun _ _ x => x))
  obtain ⟨ho, hcall⟩ := h₁
  simp only [show (((false, eval e env) :: starEach [] env) : List (Bool × Sem Value)) = starEach [e] env from he.symm]
  have hp2 : (backTo pos (starEach [e] env)).any (·.1) = false := by rw [he]; show (false || (backTo pos (starEach [] env)).any (·.1)) = false; rw [hplain]; rfl
  simp only [hp2, List.any_nil, Bool.or_false]
  refine wpAny_bind (m := keeperOf (.ref u)) ?_
  unfold keeperOf
  refine wpAny_bind (wpAny_load ho ?_)
  simp only [show (Value.type "method-wrapper" != Value.type "method") = true by decide, show (Value.type "method-wrapper" == Value.type "builtin_function_or_method" || Value.type "method-wrapper" == Value.type "method-wrapper") = true by decide, if_true]
  refine wpAny_pure ?_
  exact wpAny_bind (wpAny_mono hcall (fun r s₂ hr => wpAny_bind (wpAny_holding (wpAny_point (wpAny_pure hr)))) fun _ _ x => x)

theorem newsThen {hp h4 h5 g : Heap} {L' x : Addr} {l4 : List (Addr × Obj)} {a b : Addr × Obj} (N : News h₀ L hp news) (hn0 : hp.get? x = none) (N4 : News g L' h4 l4) (hs : ∀ p ∈ news, p ∈ l4) (k5 : ∀ y o, y ≠ x → h4.get? y = some o → h5.get? y = some o) (N5 : News g L' h5 [a, b]) :
    News g L' h5 (a :: b :: news) := by
  intro p hp'
  rcases List.mem_cons.mp hp' with rfl | hp'
  · exact N5 _ (by simp)
  · rcases List.mem_cons.mp hp' with rfl | hp'
    · exact N5 _ (by simp)
    · have q4 := N4 p (hs p hp')
      exact ⟨k5 _ _ (fun z => by have := (N p hp').1; rw [z, hn0] at this; cases this) q4.1, q4.2⟩
/-- an exception just made, told over the heap without it -/
theorem madeOver {h' hp : Heap} {x tp : Addr} {cls v : Value} (F : Fr h₀ L h' m) (N' : News h₀ L h' ((x, { cls := cls, data := .fields #[.ref tp, .none, .none, .none, .bool false, .none] }) :: (tp, { cls := .type "tuple", data := .seq #[v] }) :: news)) (N : News h₀ L hp news) (hx : hp.get? x = none) {h4 g4 : Heap} {L4 : Addr} {l4 : List (Addr × Obj)} (N4 : News g4 L4 h4 l4) (hs : ∀ p ∈ news, p ∈ l4) (ht : h4.get? tp = none) :
    ∃ hv, Fr h₀ L hv m ∧ News h₀ L hv news ∧ Heap.MadeExcOf hv h' x cls [v] := by
  have qx := N' _ List.mem_cons_self
  have qt := N' _ (List.mem_cons_of_mem _ List.mem_cons_self)
  have hgo : ∀ b o, h'.get? b = some o → b ≠ x → b ≠ tp → (hideAll h' [x, tp]).get? b = some o := fun b o e n1 n2 => hideAll_get _ e (by simp [n1, n2])
  (refine xa_3_2 (F.ns) ?_; intro oL es ep hL r)
  refine ⟨hideAll h' [x, tp], ⟨⟨oL, es, ep, hgo _ _ hL (fun z => qx.2.1 z.symm) (fun z => qt.2.1 z.symm), r⟩, fun b o e => hgo _ _ (F.keep _ _ e) (fun z => by rw [z, qx.2.2] at e; cases e) (fun z => by rw [z, qt.2.2] at e; cases e), F.above⟩, fun p hp' => ⟨hgo _ _ (N' p (List.mem_cons_of_mem _ (List.mem_cons_of_mem _ hp'))).1 (fun z => by have := (N p hp').1; rw [z, hx] at this; cases this) (fun z => by have := (N4 p (hs p hp')).1; rw [z, ht] at this; cases this), (N p hp').2⟩, fun b o e => of_hideAll _ e, hideAll_none _ (by simp), tp, qx.1, hideAll_none _ (by simp), qt.1⟩
end
theorem excOwn_lookup {K : Frag} {C : Addr} {bm : List Value} {newId : String} (q : excOwn K C bm newId = true) :
    ∃ nm qn N bs hdct sn sub ab col dd k0 k1 k2 k3 k5, ∀ h : Heap, K.In h → h.get? C = some (excClassObj nm qn C N bs bm hdct sn sub ab col dd k0 k1 k2 k3 k5 newId) := by
  unfold excOwn at q
  split at q
  · rename_i dd cd sl ho
    split at q
    · rename_i C' bm k0 k1 k2 k3 n k5 hm hs
      simp only [Bool.and_eq_true, beq_iff_eq, Bool.not_eq_true'] at q
      refine Classical.byContradiction fun hg9 => ?_
      (refine an_2 (q) ?_; intro n90 r91; (try clear q))
      subst r91
      obtain ⟨⟨rfl, rfl⟩, hdel⟩ := n90
      refine hg9 ?_
      clear hg9
      obtain ⟨nm, bs, mro, ns, qn, hd, sn, sub, ab, col, del⟩ := cd
      dsimp only at hm hdel
      subst hm hdel
      have hsl : sl = #[k0, k1, k2, k3, some (.builtin n), k5] := by
        obtain ⟨l⟩ := sl
        simp only at hs
        rw [hs]
      subst hsl
      exact ⟨nm, qn, ns, bs, hd, sn, sub, ab, col, dd, k0, k1, k2, k3, k5, fun h X => X _ _ ho⟩
    · cases q
  · cases q
noncomputable def RaisableOwn (K : Frag) (C : Addr) (E : Value → Shared → Prop) (v : Value) (s : Shared) : Prop :=
  K.In s.heap ∧ ∃ e t, v = .ref e ∧ s.heap.get? e = some { cls := .ref C, data := .fields #[.ref t, .none, .none, .none, .bool false, .none] } ∧ E (.ref e) s
theorem Raise_ownK {M : Model} {A : Around} {E : Value → Shared → Prop} {s : Shared} {env : Env} {K : Frag} {C : Addr} {bm : List Value} {newId : String} {e : PySem.Expr} {pos : Pos} {Q : Flow → Shared → Prop} {h₉ : Heap} (_X : K.In h₉) (hh : A.handled = none) (hE : excOwn K C bm newId = true) (hbase : bm.contains (.type "BaseException") = true)
    (h : wpAny M A (eval e env) (RaisableOwn K C E) E s) : wpAny M A (exec (.Raise (some e) none pos) env) Q E s := by
  (refine xa_15_1 (excOwn_lookup hE) ?_; intro nm qn N bs hdct sn sub ab col dd k0 k1 k2 k3 k5 hC)
  show wpAny M A (do standAt pos; raiseStmt env (some (do let v ← eval e env; standAt pos; pure v)) none) Q E s
  refine wpAny_bind (wpAny_standAt (wpAny_raiseStmt_made_sub (C := C) (nm := nm) (q := qn) (N := N) (bs := bs) (bm := bm) (hdct := hdct) (sn := sn) (sub := sub) (ab := ab) (col := col) (dd := dd) (k0 := k0) (k1 := k1) (k2 := k2) (k3 := k3) (k5 := k5) (newId := newId) hbase hh ?_))
  refine wpAny_bind (wpAny_mono h (fun v s₁ h₁ => wpAny_bind (wpAny_standAt (wpAny_pure ?_))) fun _ _ x => x)
  refine Classical.byContradiction fun hg9 => ?_
  obtain ⟨X, e, t, r93, he, hx⟩ := h₁
  subst r93
  refine hg9 ?_
  clear hg9
  exact ⟨e, t, rfl, hC _ X, he, hx⟩
theorem own_raisable {K : Frag} {C e L : Addr} {h₀ hv : Heap} {m : Str → Option Value} {vs : List Value} {E : Value → Shared → Prop} {s : Shared} (FV : Fr h₀ L hv m) (MV : Heap.MadeExcOf hv s.heap e (.ref C) vs) (X : K.In h₀) (hE : E (.ref e) s) : RaisableOwn K C E (.ref e) s := by
  (refine xa_1_3 (MV.there) ?_; intro t ht _ _)
  exact ⟨X.keeps fun b o q => MV.keeps _ _ (FV.keep _ _ q), e, t, rfl, ht, hE⟩
section
variable {prog : Program} {w : World} {A₀ A : Around} {s : Shared} {base h₀ : Heap} {L : Addr} {m mg mb : Str → Option Value} {env : Env} {news : List (Addr × Obj)} {K : Frag} {p : Program} {loose : List Str} {mean : ExcName → Option Value}
  {R : Result → Shared → Prop} {name qual : Str} {params : Arguments} {body : List Stmt} {scope : Scope} {dV kV doc pm cdv ct oc : Value} {an od : Option Addr} {osl : Array (Option Value)} {f : Addr} {args : Args} {binds : List (Str × Value)}
/-- a def that catches, called from a frame of any kind right under the top -/
theorem code_defU (B : Below A₀ base [] h₀) (F : Fr h₀ L s.heap m) (X₀ : K.In h₀) (N : News h₀ L s.heap news) (T : Top p loose mean mg mb h₀) (hA : A.frames = some [env]) (hf : env.frame = some L) (hke : env.scope.kind = .function)
    (ho : K.lookup f = some ⟨oc, od, .func (fnOf name qual params body scope dV kV doc pm an cdv ct), osl⟩) (hcd : codeIn K cdv qual = true) (hroom : A.depth < recursionLimit)
    (hbind : BindsTo s (fnOf name qual params body scope dV kV doc pm an cdv ct) args binds) (hloc : ∀ y ∈ binds, scope.names.lookup y.1 = some .local)
    (h : ∀ g L' h₁, Fr h₀ L g m → Fr g L' h₁ (fun y => binds.reverse.lookup y) → News g L' h₁ news → Below A base [env] g → K.In g → Top p loose mean mg mb g → KtsDicts ([env].filterMap (·.frame)) g →
      wpAny (model prog w) (A.deeper (envOf qual scope L' f cdv)) (execs body (envOf qual scope L' f cdv))
        (fun fl s' => LeaveS0 ([env].filterMap (·.frame)) h₀ L m g R (match fl with | .ret v => v | _ => .none) s')
        (fun e s' => wpAny (model prog w) (A.deeper (envOf qual scope L' f cdv)) (leaving (envOf qual scope L' f cdv) e) (fun _ s'' => R (.error e) s'') (fun e' s'' => R (.error e') s'') s')
        { s with heap := h₁, toks := s.toks + binds.length })
    (hco : scope.isCoroutine = false) (hgen : scope.isGenerator = false) (hk : scope.kind = .function)
    (hcell : ∀ x ∈ scope.names, x.2 ≠ .cell) : codeAny (model prog w) A (.call (.ref f) args) R s := by
  (refine an_4 (groundX (R := R) B F N hA hf hke) ?_; intro FG BG st _)
  have X := X₀.keeps F.keep
  have hfs : ∀ b, b ∈ [env].filterMap (·.frame) → b = L := by
    intro b hb
    simp only [List.filterMap_cons, hf, List.filterMap_nil, List.mem_singleton] at hb
    exact hb
  refine codeAny_call_def (fd := fnOf name qual params body scope dV kV doc pm an cdv ct) (body := body) (binds := binds) hroom (X _ _ ho) rfl (T.nolimit.keeps F.keep) (codeRec_of X hcd) rfl hbind hcell hloc (fun h₁ hns hk₁ => ?_) hco hgen hk
  (refine xa_3_3 (FG.ns) ?_; intro oL es ep hLg hLd hr)
  refine wpAny_mono (h _ s.heap.objs.size h₁ FG ⟨hns, fun b o e => hk₁ b o (of_hideAll _ e), Nat.le_of_eq (hideAll_size _ _)⟩
    (fun p hp => ⟨hk₁ _ _ (N p hp).1, Nat.ne_of_lt (Heap.lt_size (N p hp).1), hideAll_none _ (List.mem_map_of_mem hp)⟩) BG (X₀.keeps st) (T.keeps st) (fun b hb => by
      rw [hfs b hb]; exact ⟨oL, es, ep, hLg, hLd⟩)) (fun fl s' hl => ?_) fun _ _ y => y
  (refine xa_4_4 (hl) ?_; intro g' L' m' news' T' F' N' k; (try clear hl))
  have nL₀ : h₀.get? L = none := kts_self F
  obtain ⟨sl, hs⟩ := T'.up hLg
  refine k ⟨⟨_, es, ep, F'.keep _ _ hs, hLd, hr⟩, fun b o e => F'.keep b o (T'.other b o (st b o e) (fun q => by
    rw [hfs b q, nL₀] at e
    cases e)), F.above⟩ fun p hp => ⟨(N' p hp).1, fun q => ?_, ?_⟩
  · have := (N' p hp).2.2; rw [q, hs] at this; cases this
  · cases q : h₀.get? p.1 with
    | none => rfl
    | some o =>
      obtain ⟨sl', hs'⟩ := T'.up (st _ _ q)
      have := (N' p hp).2.2
      rw [hs'] at this
      cases this
end
end
theorem words1 : True := by
  k_with_none
  trivial
section
local macro_rules | `(tactic| k_room) => `(tactic| ((try simp only [depth_under_make, depth_under_kw, depth_in1, depth_deeper]); (k_dflt (show _ < 1000)); (try dsimp only); omega))
theorem words2 : True := by
  (k_with "wpAt" => ((refine hold ?_)))
  trivial
theorem call205 {prog : Program} {w : World} {A₀ : Around} {base : Heap} {outer : List Env} {s : Shared} {h₀ : Heap} {L : Addr} {m mg mb : Str → Option Value} {news : List (Addr × Obj)} {p : Program} {loose : List Str} {mean : ExcName → Option Value} {Q : Value → Shared → Prop} {E : Value → Shared → Prop} {env : Env} {dp un : Nat} {gd : Option (List Code)} {v : Str} {tv : Tok}
    (B : Below A₀ base outer h₀) (F : Fr h₀ L s.heap m) (N : News h₀ L s.heap news) (X : (hd.heap_1 w.params).In h₀) (T : Top p loose mean mg mb h₀) (hf : env.frame = some L) (hke : env.scope.kind = .function) (hd1 : dp + 10 ≤ 900) (hu1 : un + 100 ≤ 9000) (hv : v.length ≤ 10)
    (hfile : (prog.main.file == Str.ofString "/claim/cut.py") = true) (htop : (prog.main.scope.names.lookup (Str.ofString "super")).isSome = false)
    (h : ∀ hv h' e msg tp tk, Fr h₀ L hv m → News h₀ L hv news → Heap.MadeExcOf hv h' e (.ref 205) [.str msg tp] → Q (.ref e) { s with heap := h', toks := tk }) :
    wpAny (model prog w) (mkA dp un (some (env :: outer)) gd) (call (.ref 205) [.str v tv]) Q E s := by
  have X₁ := X.keeps F.keep
  obtain ⟨hp, g, d, tk, os⟩ := s
  have e1 : (hp.push { cls := .type "tuple", data := .seq [Value.str v tv].toArray }).get? hp.objs.size = some { cls := .type "tuple", data := .seq [Value.str v tv].toArray } := Heap.get?_push_at rfl rfl
  (refine an_3 (ks_newsPush (s := ⟨hp, g, d, tk, os⟩) (h' := hp.push { cls := .type "tuple", data := .seq [Value.str v tv].toArray }) F N rfl e1 (fun b o e => Heap.get?_push_of_some _ e)) ?_; intro F1 N1 l1)
  have e2 : (excMade hp 205 [Value.str v tv]).get? (hp.objs.size + 1) = some { cls := .ref 205, data := .fields #[.ref hp.objs.size, .none, .none, .none, .bool false, .none] } := by
    have := Heap.get?_push_size (hp.push { cls := .type "tuple", data := .seq [Value.str v tv].toArray }) (o := { cls := .ref 205, data := .fields #[.ref hp.objs.size, .none, .none, .none, .bool false, .none] }) rfl
    rwa [Heap.size_push] at this
  (refine an_3 (ks_newsPush (s := ⟨hp.push { cls := .type "tuple", data := .seq [Value.str v tv].toArray }, g, d, tk, os⟩) (h' := excMade hp 205 [Value.str v tv]) (q := hp.objs.size + 1) F1 N1 (Heap.size_push _ _).symm e2 (fun b o e => Heap.get?_push_of_some _ e)) ?_; intro F2 N2 l2)
  have k0 : ∀ b o, hp.get? b = some o → (excMade hp 205 [Value.str v tv]).get? b = some o := fun b o e => Heap.get?_push_of_some _ (Heap.get?_push_of_some _ e)
  have hn0 : hp.get? (hp.objs.size + 1) = none := Heap.get?_none_of_le (Nat.le_succ _)
  (refine xa_15_1 (excOwn_get (C := 205) (bm := [.type "ValueError", .type "Exception", .type "BaseException", .type "object"]) (newId := "ValueError.__new__") X₁ (by kernel_rfl)) ?_; intro nm qn NN bs hdct sn sub ab col dd k0' k1' k2' k3' k5' hC)
  refine call_exc_own PySem.F.excBase_ValueError .base (K := hd.heap_1 w.params) (fI := 202) X₁ hC (by kernel_rfl) (by kernel_rfl) ?_ (by show 1 ≤ sizeLine; decide)
  clear e1 F1 N1 l1 l2
  generalize hp.objs.size + 1 = x at *
  generalize excMade hp 205 [Value.str v tv] = h2 at *
  w_on
  k_dflt (refine' ks_code_super (K := hd.heap_1 w.params) ?k1 ?k2 ?k3 ?k4 ?k5 ?kA ?kF ?kK ?k6 ?k7 ?k8 ?k9 ?kB ?_ ?c1 ?c2 ?c3 ?c4; (case kA => exact rfl); (case kF => exact hf); (case kK => exact hke); (case k1 => exact B); (case k2 => exact F2); (case k3 => exact X); (case k4 => exact N2); (case k5 => exact T); (case k6 => k_is); (case k7 => k_is); (case k8 => k_room); (case k9 => exact BindsTo.of_eq rfl); (case kB => exact locs rfl); (case c1 => decide); (case c2 => exact rfl); (case c3 => exact rfl); (case c4 => exact rfl); intro g' L' h' FG' F' N' B' X' T' l1; (try k_lt l1); (try dsimp only); (try k_lift B'))
  ks_step "execs cons"
  refine ks_wpAt_execs_cons ?_
  refine wpAt_of_wpAny ?_
  w_strict (k_steps)
  unfold Hold
  dsimp only
  refine ks_wpAt_execs_cons ?_
  refine ks_wpAt_Expr_any ?_
  refine ks_wpAt_MethodCall ?_
  k_dflt (refine' ks_node (K := hd.heap_1 w.params) (x := x) (C := 205) (D := 205) (ox := { cls := Value.ref 205, data := .fields #[.ref hp.objs.size, .none, .none, .none, .bool false, .none] }) (odx := none) (f := 202) (cc := 190) (cda := 201) ?n1 ?n2 ?n3 ?n4 ?n5 ?n6 ?n7 ?n8 ?n9 ?n10 ?n11 ?n12 ?n13 ?n14 ?n15 ?n16 ?n17 ?n18 ?n19 ?n20 ?n21 ?n22 ?_; (case n1 => k_asm); (case n2 => k_asm); (case n3 => k_asm); (case n4 => k_asm); (case n5 => k_is); (case n6 => rfl); (case n7 => rfl); (case n8 => (rename News _ _ _ _ => NX; exact ⟨(NX _ List.mem_cons_self).1, rfl, rfl, trivial⟩)); (case n9 => k_is); (case n10 => rfl); (case n11 => exact hfile); (case n12 => k_is); (case n13 => k_is); (case n14 => k_is); (case n15 => k_is); (case n16 => decide); (case n17 => rfl); (case n18 => rfl); (case n19 => rfl); (case n20 => rfl); (case n21 => exact htop); (case n22 => first | boot_by_name | rfl | kernel_rfl))
  intro so' h3 F3 N3 l3
  refine sup_method (K := hd.heap_1 w.params) (so := so') (D := 205) (x := x) (C := 205) (t0 := hp.objs.size) (l := [.type "ValueError", .type "Exception", .type "BaseException", .type "object"]) (bm := [.type "ValueError", .type "Exception", .type "BaseException", .type "object"]) (newId := "ValueError.__new__") F3 N3 X' (by k_is) (by simp) (by simp) (by decide) (by kernel_rfl) (by kernel_rfl) (by decide) ?_
  intro qb h4 F4 N4
  dsimp only
  refine callWith_wrap (x := x) ?_
  w_strict (k_steps)
  · exact (N4 _ List.mem_cons_self).1
  refine wrap_k (K := hd.heap_1 w.params) (x := x) (C := 205) (t0 := hp.objs.size) (bm := [.type "ValueError", .type "Exception", .type "BaseException", .type "object"]) (newId := "ValueError.__new__") F4 N4 X' (by simp) (by simp) (by kernel_rfl) ?_
  intro h5 tp5 F5 n5 k5 N5
  have N6 := newsThen N hn0 N4 (by intro p9 h9; simp [h9]) k5 N5
  clear N5
  w_strict (k_steps)
  unfold Hold
  refine wpAt_of_wpAny ?_
  w_strict (k_steps)
  rename Fr h₀ L h5 m => FE
  rename News h₀ L h5 _ => NE
  obtain ⟨hv, FV, NV, MV⟩ := madeOver FE NE N hn0 N4 (by intro p9 h9; simp [h9]) n5
  exact h _ _ _ _ _ _ FV NV MV
end
theorem words3 : True := by
  k_with_none
  trivial
section
local macro_rules | `(tactic| k_room) => `(tactic| ((try simp only [depth_under_make, depth_under_kw, depth_in1, depth_deeper]); (k_dflt (show _ < 1000)); (try dsimp only); omega))
theorem words4 : True := by
  (k_with "call ref cons nil" => (((with_reducible show wpAny _ _ (call (.ref 205) [_]) _ _ _); refine hold ?_)))
  (k_with "exec Raise some none" => ((k_dflt (refine' Raise_ownK (C := 205) (bm := [.type "ValueError", .type "Exception", .type "BaseException", .type "object"]) (newId := "ValueError.__new__") ?X_q ?hh_q ?hE_q ?hb_q ?_; (case X_q => k_asm); (case hh_q => rfl); (case hE_q => kernel_rfl); (case hb_q => rfl)))))
  (k_with "noteFrame ref" => ((refine hold ?_)))
  trivial
theorem unknown_pavv {prog : Program} {w : World} {s : Shared} {h₀ : Heap} {L : Addr} {m mg mb : Str → Option Value} {news : List (Addr × Obj)} {p : Program} {loose : List Str} {mean : ExcName → Option Value} {Q : Value → Shared → Prop} {E : Value → Shared → Prop} {env : Env} {dp un : Nat} {gd : Option (List Code)} {t : Tok}
    (F : Fr h₀ L s.heap m) (N : News h₀ L s.heap news) (X : (hd.heap_1 w.params).In h₀) (T : Top p loose mean mg mb h₀) (hf : env.frame = some L) (hke : env.scope.kind = .function) (hA : Room (mkA dp un (some [env]) gd) 20)
    (hfile : (prog.main.file == Str.ofString "/claim/cut.py") = true) (htop : (prog.main.scope.names.lookup (Str.ofString "super")).isSome = false)
    (h : ∀ h' tk, Fr h₀ L h' m → News h₀ L h' news → Q (.bool true) { s with heap := h', toks := tk }) :
    wpAny (model prog w) (mkA dp un (some [env]) gd) (call (.ref 537) [.str (Str.ofString "pavv") t]) Q E s := by
  have B := below_caller h₀
  have hd1 : dp + 20 ≤ 900 := hA.depth
  have hu1 : un + 10 * 20 ≤ 9000 := hA.units
  w_on
  refine wpAny_call ?_
  k_dflt (refine' code_defU (K := hd.heap_1 w.params) (binds := [(Str.ofString "name", .str (Str.ofString "pavv") t)]) B F X N T rfl hf hke ?o ?c ?r ?b ?l (fun g L' h₁ FG F' N' B' X' T' D' => ?_) ?c2 ?c3 ?c4 ?c5; (case o => k_is); (case c => k_is); (case r => (show dp < 1000; omega)); (case b => first | exact BindsTo.of_eq rfl | exact binds_K (X.keeps F.keep) rfl (by k_is) rfl rfl rfl); (case l => exact locs rfl); (case c2 => exact rfl); (case c3 => exact rfl); (case c4 => exact rfl); (case c5 => decide))
  dsimp only
  w_strict (k_fold)
  w_strict (k_steps)
  unfold Hold
  refine call205 (by k_asm) (by k_asm) (by k_asm) (by k_asm) (by k_asm) rfl rfl (by show dp + 1 + 1 + 10 ≤ 900; omega) (by (try simp only [units_deeper]); omega) (by decide) hfile htop ?_
  intro hv h6 e msg tp tk FV NV MV
  refine own_raisable FV MV (by k_asm) ?_
  w_strict (k_steps)
  unfold Hold
  refine caught_SO0 (KF := hd.heap_1 w.params) (by assumption) (by assumption) (by assumption) (by assumption) X T (by assumption) KtsTurn.refl (by k_is) (by kts_isx) ?_
  intro h7 g7 n7 T7 F7 N7 G7 N8 K7 X7 P7 D7
  w_strict (k_steps)
  exact h _ _ (by assumption) (by assumption)
theorem unknown_nil {prog : Program} {w : World} {s : Shared} {h₀ : Heap} {L : Addr} {m mg mb : Str → Option Value} {news : List (Addr × Obj)} {p : Program} {loose : List Str} {mean : ExcName → Option Value} {Q : Value → Shared → Prop} {E : Value → Shared → Prop} {env : Env} {dp un : Nat} {gd : Option (List Code)} {t : Tok}
    (F : Fr h₀ L s.heap m) (N : News h₀ L s.heap news) (X : (hd.heap_1 w.params).In h₀) (T : Top p loose mean mg mb h₀) (hf : env.frame = some L) (hke : env.scope.kind = .function) (hA : Room (mkA dp un (some [env]) gd) 20)
    (hfile : (prog.main.file == Str.ofString "/claim/cut.py") = true) (htop : (prog.main.scope.names.lookup (Str.ofString "super")).isSome = false)
    (h : ∀ h' tk, Fr h₀ L h' m → News h₀ L h' news → Q (.bool true) { s with heap := h', toks := tk }) :
    wpAny (model prog w) (mkA dp un (some [env]) gd) (call (.ref 537) [.str (Str.ofString "") t]) Q E s := by
  have B := below_caller h₀
  have hd1 : dp + 20 ≤ 900 := hA.depth
  have hu1 : un + 10 * 20 ≤ 9000 := hA.units
  w_on
  refine wpAny_call ?_
  k_dflt (refine' code_defU (K := hd.heap_1 w.params) (binds := [(Str.ofString "name", .str (Str.ofString "") t)]) B F X N T rfl hf hke ?o ?c ?r ?b ?l (fun g L' h₁ FG F' N' B' X' T' D' => ?_) ?c2 ?c3 ?c4 ?c5; (case o => k_is); (case c => k_is); (case r => (show dp < 1000; omega)); (case b => first | exact BindsTo.of_eq rfl | exact binds_K (X.keeps F.keep) rfl (by k_is) rfl rfl rfl); (case l => exact locs rfl); (case c2 => exact rfl); (case c3 => exact rfl); (case c4 => exact rfl); (case c5 => decide))
  dsimp only
  w_strict (k_fold)
  w_strict (k_steps)
  unfold Hold
  refine call205 (by k_asm) (by k_asm) (by k_asm) (by k_asm) (by k_asm) rfl rfl (by show dp + 1 + 1 + 10 ≤ 900; omega) (by (try simp only [units_deeper]); omega) (by decide) hfile htop ?_
  intro hv h6 e msg tp tk FV NV MV
  refine own_raisable FV MV (by k_asm) ?_
  w_strict (k_steps)
  unfold Hold
  refine caught_SO0 (KF := hd.heap_1 w.params) (by assumption) (by assumption) (by assumption) (by assumption) X T (by assumption) KtsTurn.refl (by k_is) (by kts_isx) ?_
  intro h7 g7 n7 T7 F7 N7 G7 N8 K7 X7 P7 D7
  w_strict (k_steps)
  exact h _ _ (by assumption) (by assumption)
theorem unknown_Cc {prog : Program} {w : World} {s : Shared} {h₀ : Heap} {L : Addr} {m mg mb : Str → Option Value} {news : List (Addr × Obj)} {p : Program} {loose : List Str} {mean : ExcName → Option Value} {Q : Value → Shared → Prop} {E : Value → Shared → Prop} {env : Env} {dp un : Nat} {gd : Option (List Code)} {t : Tok}
    (F : Fr h₀ L s.heap m) (N : News h₀ L s.heap news) (X : (hd.heap_1 w.params).In h₀) (T : Top p loose mean mg mb h₀) (hf : env.frame = some L) (hke : env.scope.kind = .function) (hA : Room (mkA dp un (some [env]) gd) 20)
    (hfile : (prog.main.file == Str.ofString "/claim/cut.py") = true) (htop : (prog.main.scope.names.lookup (Str.ofString "super")).isSome = false)
    (h : ∀ h' tk, Fr h₀ L h' m → News h₀ L h' news → Q (.bool true) { s with heap := h', toks := tk }) :
    wpAny (model prog w) (mkA dp un (some [env]) gd) (call (.ref 537) [.str (Str.ofString "Cc") t]) Q E s := by
  have B := below_caller h₀
  have hd1 : dp + 20 ≤ 900 := hA.depth
  have hu1 : un + 10 * 20 ≤ 9000 := hA.units
  w_on
  refine wpAny_call ?_
  k_dflt (refine' code_defU (K := hd.heap_1 w.params) (binds := [(Str.ofString "name", .str (Str.ofString "Cc") t)]) B F X N T rfl hf hke ?o ?c ?r ?b ?l (fun g L' h₁ FG F' N' B' X' T' D' => ?_) ?c2 ?c3 ?c4 ?c5; (case o => k_is); (case c => k_is); (case r => (show dp < 1000; omega)); (case b => first | exact BindsTo.of_eq rfl | exact binds_K (X.keeps F.keep) rfl (by k_is) rfl rfl rfl); (case l => exact locs rfl); (case c2 => exact rfl); (case c3 => exact rfl); (case c4 => exact rfl); (case c5 => decide))
  dsimp only
  w_strict (k_fold)
  w_strict (k_steps)
  unfold Hold
  refine call205 (by k_asm) (by k_asm) (by k_asm) (by k_asm) (by k_asm) rfl rfl (by show dp + 1 + 1 + 10 ≤ 900; omega) (by (try simp only [units_deeper]); omega) (by decide) hfile htop ?_
  intro hv h6 e msg tp tk FV NV MV
  refine own_raisable FV MV (by k_asm) ?_
  w_strict (k_steps)
  unfold Hold
  refine caught_SO0 (KF := hd.heap_1 w.params) (by assumption) (by assumption) (by assumption) (by assumption) X T (by assumption) KtsTurn.refl (by k_is) (by kts_isx) ?_
  intro h7 g7 n7 T7 F7 N7 G7 N8 K7 X7 P7 D7
  w_strict (k_steps)
  exact h _ _ (by assumption) (by assumption)
end
section
section
variable {prog : Program} {w : World} {A : Around} {s : Shared}

/-- an iterator at address I: n items -/
structure Iter (prog : Program) (w : World) (A : Around) (I : Addr) (n : Nat) (val : Nat → Value → Prop) (St : Nat → Heap → Prop) (dep : Heap → Prop) : Prop where
  next : ∀ i (s : Shared) (Q : Option Value → Shared → Prop) (E : Value → Shared → Prop), i < n → St i s.heap → dep s.heap →
    (∀ v h' tk o, val i v → St (i + 1) h' → h'.get? I = some o → Heap.SameBut I s.heap h' → Q (some v) { s with heap := h', toks := tk }) → wpAny (model prog w) A (pyNext (.ref I)) Q E s
  done : ∀ (s : Shared) (Q : Option Value → Shared → Prop) (E : Value → Shared → Prop), St n s.heap → dep s.heap → (∀ h', Heap.ExtBut I s.heap h' → Q none { s with heap := h' }) → wpAny (model prog w) A (pyNext (.ref I)) Q E s
  at' : ∀ i h h', St i h → (∀ o, h.get? I = some o → h'.get? I = some o) → St i h'

theorem iter_list (hh : A.handled = none) (I l : Addr) (hne : l ≠ I) (items : Array Value) : Iter prog w A I items.size (fun i v => items[i]? = some v) (fun i h => h.IsListIter I l i) (fun h => h.IsList l items) where
  next := fun i s Q E hi st hl k => by
    refine wpAny_pyNext_list_item st hl (x := items[i]) (by simp [hi]) fun h' hit' hs' => ?_
    (refine xa_1_2 (id hit') ?_; intro o ho _)
    exact k _ h' s.toks o (by simp [hi]) hit' ho hs'
  done := fun s Q E st hl k => wpAny_pyNext_list_end hh st hl (by simp) fun h' he' => k h' he'
  at' := fun i h h' st e => st.at fun o q => e o q

theorem iter_range (hh : A.handled = none) (I : Addr) (a c : Int) (n : Nat) : Iter prog w A I n (fun i v => ∃ t, v = .int (a + i * c) t) (fun i h => IsRangeIter h I (a + (i : Nat) * c) ((n : Int) - (i : Nat)) c) (fun _ => True) where
  next := fun i s Q E hi st _ k => by
    refine wpAny_pyNext_range_item st (by omega) fun h' hit' hs' => ?_
    have e1 : a + ((i + 1 : Nat) : Int) * c = a + (i : Int) * c + c := by push_cast; rw [Int.add_mul, Int.one_mul, Int.add_assoc]
    have e2 : (n : Int) - ((i + 1 : Nat) : Int) = (n : Int) - (i : Int) - 1 := by push_cast; omega
    exact k _ h' _ _ ⟨_, rfl⟩ (by rw [e1, e2]; exact hit') hit' hs'
  done := fun s Q E st _ k => wpAny_pyNext_range_end hh st (by omega) fun h' he' => k h' he'
  at' := fun i h h' st e => e _ st

/-- the end of a for's turn -/
noncomputable def FEnd (h₀ : Heap) (L I : Addr) (oI : Obj) (fix : List (Addr × Obj)) (J : (Str → Option Value) → List (Addr × Obj) → Prop) (s : Shared) (f : Flow) (s₃ : Shared) : Prop :=
  f = .next ∧ ∃ h' tk' m' news', s₃ = { s with heap := h', toks := tk' } ∧ Fr h₀ L h' m' ∧ News h₀ L h' ((I, oI) :: (fix ++ news')) ∧ (∀ p ∈ news', p.1 ≠ I) ∧ J m' news'

noncomputable def ForAt (prog : Program) (w : World) (A : Around) (target : Expr) (body : List Stmt) (env : Env) (Q : Flow → Shared → Prop) (E : Value → Shared → Prop) (it : Value) (s₂ : Shared) : Prop :=
  codeAny (model prog w) A (.forLoop target it body [] env) (fun r s' => match r with | .ok f => Q f s' | .error e => cameBackBy (model prog w) A env E e s') s₂

theorem for_at {target iter : Expr} {body : List Stmt} {env : Env} {pos : Pos} {Q : Flow → Shared → Prop} {E : Value → Shared → Prop}
    (h : wpAny (model prog w) A (eval iter env) (fun x s₁ => wpAny (model prog w) A (pyIter x) (fun it s₂ => ForAt prog w A target body env Q E it s₂) E s₁) E s)
    (hs : ∀ x, foldedSetIterable iter env x = pure x := by intro _; rfl) :
    wpAny (model prog w) A (exec (.For target iter body [] pos) env) Q E s := wpAny_For h hs

theorem for_core {h₀ : Heap} {L I : Addr} {m : Str → Option Value} {fix news : List (Addr × Obj)} {target : Expr} {body : List Stmt} {env : Env} {Q : Flow → Shared → Prop} {E : Value → Shared → Prop} {n : Nat} {val : Nat → Value → Prop} {St : Nat → Heap → Prop} {dep : Heap → Prop}
    (W : Iter prog w A I n val St dep) (F : Fr h₀ L s.heap m) (N : News h₀ L s.heap (fix ++ news)) (st : St 0 s.heap) (hL : I ≠ L) (hI : h₀.get? I = none) (hn : ∀ p ∈ fix ++ news, p.1 ≠ I)
    (hdep : ∀ h, (∀ b o, h₀.get? b = some o → h.get? b = some o) → News h₀ L h fix → dep h) (J : Nat → (Str → Option Value) → List (Addr × Obj) → Prop) (hj : J 0 m news)
    (turn : ∀ i v m₁ news₁ h tk oI, i < n → val i v → J i m₁ news₁ → Fr h₀ L h m₁ → News h₀ L h ((I, oI) :: (fix ++ news₁)) → (∀ p ∈ fix ++ news₁, p.1 ≠ I) →
      wpAny (model prog w) A (assign target env v) (fun _ s₂ => wpAny (model prog w) A (execs body env) (FEnd h₀ L I oI fix (J (i + 1)) s) (fun _ _ => False) s₂) (fun _ _ => False) { s with heap := h, toks := tk })
    (done : ∀ m₁ news₁ h tk, J n m₁ news₁ → Fr h₀ L h m₁ → News h₀ L h (fix ++ news₁) → Q .next { s with heap := h, toks := tk })
    (ht : ∀ v, letOwnedTupleGo target (.ref I) v = pure () := by intro _; rfl) : ForAt prog w A target body env Q E (.ref I) s := by
  refine codeAny_forLoop (fun k s' => ∃ i h tk m₁ news₁, k = n - i ∧ i ≤ n ∧ s' = { s with heap := h, toks := tk } ∧ St i h ∧ Fr h₀ L h m₁ ∧ News h₀ L h (fix ++ news₁) ∧ (∀ p ∈ fix ++ news₁, p.1 ≠ I) ∧ J i m₁ news₁) ?_ n
    ⟨0, s.heap, s.toks, m, news, rfl, Nat.zero_le _, rfl, st, F, N, hn, hj⟩ ht
  rintro k s' hJ92
  refine Classical.byContradiction fun hg9 => ?_
  (refine xa_5_8 (hJ92) ?_; intro i h tk m₁ news₁ r95 hi r97 st₁ F₁ N₁ hn₁ hj₁; (try clear hJ92))
  subst r95
  subst r97
  refine hg9 ?_
  clear hg9
  have hd := hdep h F₁.keep (fun p hp => N₁ p (List.mem_append.mpr (.inl hp)))
  by_cases hlt : i < n
  · refine W.next i _ _ _ hlt st₁ hd fun v h' tk' oI hv st' ho hs => ?_
    have F₂ : Fr h₀ L h' m₁ := ⟨F₁.ns.sameBut hs (Ne.symm hL), fun b o e => (hs.2 b (fun q => by rw [q, hI] at e; cases e)).trans (F₁.keep b o e), F₁.above⟩
    have N₂ : News h₀ L h' ((I, oI) :: (fix ++ news₁)) := fun p hp => by
      rcases List.mem_cons.mp hp with rfl | hp
      · exact ⟨ho, hL, hI⟩
      · exact ⟨(hs.2 p.1 (hn₁ p hp)).trans (N₁ p hp).1, (N₁ p hp).2⟩
    refine wpAny_mono (turn i v m₁ news₁ h' tk' oI hlt hv hj₁ F₂ N₂ hn₁) (fun _ s₂ z => wpAny_mono z (fun f s₃ z => ?_) fun _ _ z => z.elim) fun _ _ z => z.elim
    refine Classical.byContradiction fun hg9 => ?_
    obtain ⟨r90, h₃, tk₃, m₃, news₃, r95, F₃, N₃, hn₃, hj₃⟩ := z
    subst r90
    subst r95
    refine hg9 ?_
    clear hg9
    refine ⟨n - (i + 1), by omega, i + 1, h₃, tk₃, m₃, news₃, rfl, hlt, rfl, W.at' _ _ _ st' fun o q => ?_, F₃, fun p hp => N₃ p (List.mem_cons_of_mem _ hp), fun p hp => ?_, hj₃⟩
    · rw [ho] at q
      cases q
      exact (N₃ _ (.head _)).1
    · rcases List.mem_append.mp hp with hp | hp
      · exact hn₁ p (List.mem_append.mpr (.inl hp))
      · exact hn₃ p hp
  · obtain rfl : i = n := by omega
    refine W.done _ _ _ st₁ hd fun h' he => wpAny_execs_nil ?_
    have F₂ : Fr h₀ L h' m₁ := ⟨F₁.ns.extBut he (Ne.symm hL), fun b o e => he b o (fun q => by rw [q, hI] at e; cases e) (F₁.keep b o e), F₁.above⟩
    exact done m₁ news₁ h' tk hj₁ F₂ fun p hp => ⟨he p.1 _ (hn₁ p hp) (N₁ p hp).1, (N₁ p hp).2⟩

theorem next_new {h₀ h : Heap} {L : Addr} {m : Str → Option Value} (F : Fr h₀ L h m) : h₀.get? h.objs.size = none := by
  cases q : h₀.get? h.objs.size with
  | none => rfl
  | some o' => exact absurd (Heap.lt_size (F.keep _ _ q)) (Nat.lt_irrefl _)
theorem newsPush' {h₀ h : Heap} {L : Addr} {news : List (Addr × Obj)} (N : News h₀ L h news) (o : Obj) : News h₀ L (h.push o) news := fun p hp => ⟨Heap.get?_push_of_some _ (N p hp).1, (N p hp).2⟩

/-- for over a list that stays -/
theorem for_list {h₀ : Heap} {L l : Addr} {m : Str → Option Value} {fix news : List (Addr × Obj)} {target : Expr} {body : List Stmt} {env : Env} {Q : Flow → Shared → Prop} {E : Value → Shared → Prop} {vs : List Value}
    (hh : A.handled = none) (F : Fr h₀ L s.heap m) (N : News h₀ L s.heap (fix ++ news))
    (hl : ∀ h, (∀ b o, h₀.get? b = some o → h.get? b = some o) → News h₀ L h fix → h.IsList l vs.toArray) (J : Nat → (Str → Option Value) → List (Addr × Obj) → Prop) (hj : J 0 m news)
    (turn : ∀ i v m₁ news₁ h tk I oI, vs[i]? = some v → J i m₁ news₁ → Fr h₀ L h m₁ → News h₀ L h ((I, oI) :: (fix ++ news₁)) → (∀ p ∈ fix ++ news₁, p.1 ≠ I) →
      wpAny (model prog w) A (assign target env v) (fun _ s₂ => wpAny (model prog w) A (execs body env) (FEnd h₀ L I oI fix (J (i + 1)) s) (fun _ _ => False) s₂) (fun _ _ => False) { s with heap := h, toks := tk })
    (done : ∀ m₁ news₁ h tk, J vs.length m₁ news₁ → Fr h₀ L h m₁ → News h₀ L h (fix ++ news₁) → Q .next { s with heap := h, toks := tk })
    (ht : ∀ I v, letOwnedTupleGo target (.ref I) v = pure () := by intro _ _; rfl) :
    wpAny (model prog w) A (pyIter (.ref l)) (fun it s₂ => ForAt prog w A target body env Q E it s₂) E s := by
  have hl0 := hl s.heap F.keep fun p hp => N p (List.mem_append.mpr (.inl hp))
  (refine xa_1_2 (id hl0) ?_; intro ol hol _)
  have hne : l ≠ s.heap.objs.size := Nat.ne_of_lt (Heap.lt_size hol)
  refine wpAny_pyIter_list hl0 ?_
  have W := iter_list (prog := prog) (w := w) hh s.heap.objs.size l hne vs.toArray
  have e : vs.toArray.size = vs.length := by simp
  rw [e] at W
  refine for_core W (F.push _) (newsPush' N _) ⟨_, Heap.get?_push_size _ rfl, rfl, rfl⟩ (Nat.ne_of_gt F.ns.lt) (next_new F) (fun p hp => Nat.ne_of_lt (Heap.lt_size (N p hp).1)) hl J hj
    (fun i v m₁ news₁ h tk oI hi hv hj F N hn => turn i v m₁ news₁ h tk _ oI (by simpa using hv) hj F N hn) (fun m₁ news₁ h tk hj F N => done m₁ news₁ h tk hj F N) (ht _)

/-- for over a range -/
theorem for_range {h₀ : Heap} {L r : Addr} {m : Str → Option Value} {fix news : List (Addr × Obj)} {target : Expr} {body : List Stmt} {env : Env} {Q : Flow → Shared → Prop} {E : Value → Shared → Prop} {a b : Int} {t u v : Tok} (n : Nat)
    (hh : A.handled = none) (F : Fr h₀ L s.heap m) (N : News h₀ L s.heap (fix ++ news)) (hr : IsRange s.heap r a b 1 t u v) (hz : Builtin.Range.small a b 1 = true) (hz2 : Builtin.Range.rangeSize a b 1 = (n : Int))
    (J : Nat → (Str → Option Value) → List (Addr × Obj) → Prop) (hj : J 0 m news)
    (turn : ∀ i t m₁ news₁ h tk I oI, i < n → J i m₁ news₁ → Fr h₀ L h m₁ → News h₀ L h ((I, oI) :: (fix ++ news₁)) → (∀ p ∈ fix ++ news₁, p.1 ≠ I) →
      wpAny (model prog w) A (assign target env (.int (a + i) t)) (fun _ s₂ => wpAny (model prog w) A (execs body env) (FEnd h₀ L I oI fix (J (i + 1)) s) (fun _ _ => False) s₂) (fun _ _ => False) { s with heap := h, toks := tk })
    (done : ∀ m₁ news₁ h tk, J n m₁ news₁ → Fr h₀ L h m₁ → News h₀ L h (fix ++ news₁) → Q .next { s with heap := h, toks := tk })
    (ht : ∀ I v, letOwnedTupleGo target (.ref I) v = pure () := by intro _ _; rfl) :
    wpAny (model prog w) A (pyIter (.ref r)) (fun it s₂ => ForAt prog w A target body env Q E it s₂) E s := by
  refine wpAny_pyIter_range hr hz ?_
  have W := iter_range (prog := prog) (w := w) hh s.heap.objs.size a 1 n
  refine for_core W (F.push _) (newsPush' N _) (by rw [hz2]; simp only [Int.ofNat_zero, Int.zero_mul, Int.add_zero, Int.sub_zero]; exact Heap.get?_push_size _ rfl) (Nat.ne_of_gt F.ns.lt) (next_new F) (fun p hp => Nat.ne_of_lt (Heap.lt_size (N p hp).1)) (fun _ _ _ => trivial) J hj
    (fun i v m₁ news₁ h tk oI hi hv hj F N hn => ?_) (fun m₁ news₁ h tk hj F N => done m₁ news₁ h tk hj F N) (ht _)
  obtain ⟨t, rfl⟩ := hv
  rw [Int.mul_one]
  exact turn i t m₁ news₁ h tk _ oI hi hj F N hn
end
section
variable {prog : Program} {w : World} {A : Around} {s : Shared}
theorem range_ok {a b : Int} {n : Nat} (ha : 0 ≤ a ∧ a ≤ 1000) (hb : b = a + n) (hn : n ≤ 1000) : Builtin.Range.small a b 1 = true ∧ Builtin.Range.rangeSize a b 1 = (n : Int) := by
  subst hb
  refine ⟨small_one (by omega) (by omega) (by omega) (by omega), ?_⟩
  rw [rangeSize_one]
  split <;> omega
theorem for_rangeN {h₀ : Heap} {L r : Addr} {m : Str → Option Value} {fix news : List (Addr × Obj)} {target : Expr} {body : List Stmt} {env : Env} {Q : Flow → Shared → Prop} {E : Value → Shared → Prop} {a b : Int} {t u v : Tok} (n : Nat)
    (hh : A.handled = none) (F : Fr h₀ L s.heap m) (N : News h₀ L s.heap (fix ++ news)) (hr : IsRange s.heap r a b 1 t u v) (ha : 0 ≤ a ∧ a ≤ 1000) (hb : b = a + n) (hn : n ≤ 1000)
    (J : Nat → (Str → Option Value) → List (Addr × Obj) → Prop) (hj : J 0 m news)
    (turn : ∀ i t m₁ news₁ h tk I oI, i < n → J i m₁ news₁ → Fr h₀ L h m₁ → News h₀ L h ((I, oI) :: (fix ++ news₁)) → (∀ p ∈ fix ++ news₁, p.1 ≠ I) →
      wpAny (model prog w) A (assign target env (.int (a + i) t)) (fun _ s₂ => wpAny (model prog w) A (execs body env) (FEnd h₀ L I oI fix (J (i + 1)) s) (fun _ _ => False) s₂) (fun _ _ => False) { s with heap := h, toks := tk })
    (done : ∀ m₁ news₁ h tk, J n m₁ news₁ → Fr h₀ L h m₁ → News h₀ L h (fix ++ news₁) → Q .next { s with heap := h, toks := tk })
    (ht : ∀ I v, letOwnedTupleGo target (.ref I) v = pure () := by intro _ _; rfl) :
    wpAny (model prog w) A (pyIter (.ref r)) (fun it s₂ => ForAt prog w A target body env Q E it s₂) E s :=
  for_range n hh F N hr (range_ok ha hb hn).1 (range_ok ha hb hn).2 J hj turn done ht
end
end
section
section
variable {prog : Program} {w : World} {A : Around} {s : Shared} {env : Env}

theorem Keeps.of_done {s s' : Shared} (D : Done s s') : Keeps s s' := ⟨s'.heap, s'.toks, D.is, D.keep⟩
theorem Keeps.rfl' (s : Shared) (t : Nat) : Keeps s { s with toks := t } := ⟨s.heap, t, rfl, fun _ _ e => e⟩

noncomputable def CompAt (prog : Program) (w : World) (A : Around) (env : Env) (scope : Scope) (cl : List (Str × Addr)) (x : Str) (ifs : List Expr) (elt : Expr) (Q : Value → Shared → Prop) (it : Value) (s₂ : Shared) : Prop :=
  ∃ (p : Value → Bool) (F : Value → Value → Prop) (I : Addr) (fp wr : List Addr) (n : Nat) (P : Nat → Value → Prop) (St : Nat → Heap → Prop), it = .ref I ∧ Walks prog w A I fp wr n P St ∧ n ≤ sizeLine ∧ St 0 s₂.heap ∧ (∀ b ∈ fp, b < s₂.heap.objs.size) ∧
      QuietOnC prog w A env scope cl x ifs elt wr P p F s₂ ∧
      (∀ D h' tk ys (vs : List Value), s₂.heap.get? D = none → h'.IsList D ys → h'.PlainList D ys → vs.length = n → (∀ j v, vs[j]? = some v → P j v) → Paired F (vs.filter p) ys.toList →
        (∀ b o, b ∉ wr → s₂.heap.get? b = some o → h'.get? b = some o) → Q (.ref D) { s₂ with heap := h', toks := tk })

theorem comp_at {elt iter : Expr} {x : Str} {px : Pos} {ifs : List Expr} {scope : Scope} (cl : List (Str × Addr)) {pos : Pos} {Q : Value → Shared → Prop} {E : Value → Shared → Prop}
    (hclos : closureFor scope env = pure cl) (hcell : ∀ y ∈ scope.names, y.2 ≠ .cell) (hkind : scope.kind = .function)
    (hnames : ∀ y ∈ scope.names, y.2 = .local → scope.names.lookup y.1 = some .local) (hx : scope.names.lookup x = some .local)
    (h : wpAny (model prog w) A (eval iter env) (fun xv s₁ => wpAny (model prog w) A (pyIter xv) (fun it s₂ => CompAt prog w A env scope cl x ifs elt Q it s₂) E s₁) E s)
    (hs : ∀ x, foldedSetIterable iter env x = pure x := by intro _; rfl) :
    wpAny (model prog w) A (eval (.ListComp elt [⟨.Name x px, iter, ifs, 0⟩] scope pos) env) Q E s := by
  rw [eval_ListComp]
  refine wpAny_comprehension_free (use := none) rfl hs hclos hkind hnames (wpAny_mono h (fun xv s₁ h₁ => wpAny_mono h₁ (fun it s₂ h₂ => ?_) fun _ _ e => e) fun _ _ e => e)
  refine Classical.byContradiction fun hg9 => ?_
  (refine xa_8_7 (h₂) ?_; intro p F I fp wr n P St r98 W hsz hst hfp hq hQ; (try clear h₂))
  subst r98
  refine hg9 ?_
  clear hg9
  refine comp_block_walkC (RR := fun acc C => compPost (model prog w) A E none Q acc C) W hsz p F hcell hkind hx hst hfp hq ?_
  intro D C h' tk m' ys vs hD hC hDC hn hl hpl hlen hP hF hk
  exact ⟨m', hn, fun h'' hs'' => hQ D h'' tk ys vs hD (hl.extBut hs''.extBut hDC) (hpl.extBut hs''.extBut hDC) hlen hP hF fun b o hbf e => hs''.extBut b o (by rintro rfl; rw [hC] at e; cases e) (hk b o hbf e)⟩

noncomputable def intOf : Value → Int
  | .int i _ => i
  | _ => 0
/-- what a comprehension's test and element see -/
noncomputable abbrev CompTest (prog : Program) (w : World) (A : Around) (env : Env) (scope : Scope) (cl : List (Str × Addr)) (x : Str) (ifs : List Expr) (s : Shared) (dom : Int → Prop) (pz : Int → Bool) : Prop :=
  ∀ C k t s₃ m₃ E', dom k → Fr s.heap C s₃.heap m₃ → m₃ x = some (.int k t) →
    wpAny (model prog w) A (forIn ifs true fun c r => if r = true then do let ok ← isTrue c (compEnvC scope cl C env) (eval c (compEnvC scope cl C env)); pure (ForInStep.yield ok) else pure (ForInStep.yield r))
      (fun ok s₄ => ok = pz k ∧ Keeps s₃ s₄) E' s₃
noncomputable abbrev CompElt (prog : Program) (w : World) (A : Around) (env : Env) (scope : Scope) (cl : List (Str × Addr)) (x : Str) (elt : Expr) (s : Shared) (dom : Int → Prop) (fz : Int → Int) : Prop :=
  ∀ C k t s₃ m₃ E', dom k → Fr s.heap C s₃.heap m₃ → m₃ x = some (.int k t) →
    wpAny (model prog w) A (eval elt (compEnvC scope cl C env)) (fun y s₄ => (∃ t, y = .int (fz k) t) ∧ Keeps s₃ s₄) E' s₃

theorem quiet_ints {scope : Scope} {cl : List (Str × Addr)} {x : Str} {ifs : List Expr} {elt : Expr} {I : Addr} {P : Nat → Value → Prop} {o : Obj} {dom : Int → Prop} {pz : Int → Bool} {fz : Int → Int} {s₂ : Shared}
    (hP : ∀ i v, P i v → ∃ k t, v = .int k t ∧ dom k) (e2 : s₂.heap = s.heap.push o) (hI : I = s.heap.objs.size)
    (ht : CompTest prog w A env scope cl x ifs s dom pz) (he : CompElt prog w A env scope cl x elt s dom fz) :
    QuietOnC prog w A env scope cl x ifs elt [I] P (fun v => pz (intOf v)) (fun v y => ∃ t, y = .int (fz (intOf v)) t) s₂ where
  tests := fun C i v s₃ m₃ E' hC hv hn hm hk _ => by
    refine Classical.byContradiction fun hg9 => ?_
    (refine xa_2_2 (hP i v hv) ?_; intro k t r92 hd)
    subst r92
    refine hg9 ?_
    clear hg9
    refine ht C k t s₃ m₃ E' hd ⟨hn, fun b o' e => hk b o' (fun q => ?_) (by rw [e2]; exact Heap.get?_push_of_some _ e), ?_⟩ hm
    · rw [List.mem_singleton.mp q, hI] at e
      exact absurd (Heap.lt_size e) (Nat.lt_irrefl _)
    · rw [e2, Heap.size_push] at hC; omega
  elt := fun C i v s₃ m₃ E' hC hv _ hn hm hk _ => by
    refine Classical.byContradiction fun hg9 => ?_
    (refine xa_2_2 (hP i v hv) ?_; intro k t r92 hd)
    subst r92
    refine hg9 ?_
    clear hg9
    refine he C k t s₃ m₃ E' hd ⟨hn, fun b o' e => hk b o' (fun q => ?_) (by rw [e2]; exact Heap.get?_push_of_some _ e), ?_⟩ hm
    · rw [List.mem_singleton.mp q, hI] at e
      exact absurd (Heap.lt_size e) (Nat.lt_irrefl _)
    · rw [e2, Heap.size_push] at hC; omega

theorem paired_out {pz : Int → Bool} {fz : Int → Int} : ∀ {vs : List Value} {ns : List Int}, IntsAre vs ns → ∀ {ys : List Value}, Paired (fun v y => ∃ t, y = Value.int (fz (intOf v)) t) (vs.filter fun v => pz (intOf v)) ys → IntsAre ys ((ns.filter pz).map fz)
  | _, _, .nil, ys, h => by
    cases h
    exact .nil
  | _, _, .cons (n := n) (t := t) r, ys, h => by
    simp only [List.filter_cons, intOf] at h ⊢
    split at h
    · rename_i hp
      rw [if_pos hp]
      cases h with
      | cons h1 h2 =>
        obtain ⟨t', rfl⟩ := h1
        exact .cons _ _ (paired_out r h2)
    · rename_i hp
      rw [if_neg hp]
      exact paired_out r h

theorem ints_range {vs : List Value} {n : Nat} (hl : vs.length = n) (h : ∀ (j : Nat) (v : Value), vs[j]? = some v → ∃ t, v = Value.int (0 + (j : Nat) * 1) t) : IntsAre vs ((List.range n).map Int.ofNat) := by
  have : ∀ (vs : List Value) (k : Nat), (∀ (j : Nat) (v : Value), vs[j]? = some v → ∃ t, v = Value.int (((k + j : Nat)) : Int) t) → IntsAre vs ((List.range' k vs.length).map Int.ofNat) := by
    intro vs
    induction vs with
    | nil => intro k _; exact .nil
    | cons v r ih =>
      intro k h
      obtain ⟨t, e⟩ := h 0 v rfl
      subst e
      rw [List.length_cons, List.range'_succ, List.map_cons, Nat.add_zero]
      refine .cons _ _ (ih (k + 1) fun j v hj => ?_)
      obtain ⟨t, e⟩ := h (j + 1) v (by simpa using hj)
      exact ⟨t, by rw [e, Nat.add_assoc, Nat.add_comm 1 j]⟩
  have q := this vs 0 (fun j v hj => by obtain ⟨t, e⟩ := h j v hj; exact ⟨t, by rw [e]; simp⟩)
  rw [hl, ← List.range_eq_range'] at q
  exact q

theorem newsFresh0 {h₀ h h' : Heap} {L a : Addr} {o : Obj} {m : Str → Option Value} {news : List (Addr × Obj)} (F : Fr h₀ L h m) (N : News h₀ L h' news) (ha : h.get? a = none) (ho : h'.get? a = some o) : News h₀ L h' ((a, o) :: news) := by
  intro p hp
  rcases List.mem_cons.mp hp with rfl | hp
  · refine ⟨ho, fun e => ?_, ?_⟩
    · (refine xa_3_2 (F.ns) ?_; intro oL _ _ hL _)
      subst e
      rw [ha] at hL; cases hL
    · cases q : h₀.get? a with
      | none => rfl
      | some o' => have := F.keep _ _ q; rw [ha] at this; cases this
  · exact N p hp

theorem walks_lt {I : Addr} {fp wr : List Addr} {n : Nat} {P : Nat → Value → Prop} {St : Nat → Heap → Prop} (W : Walks prog w A I fp wr n P St) : Walks prog w A I fp wr n (fun i v => i < n ∧ P i v) St where
  sub := W.sub
  frame := W.frame
  item := fun i s Q E hi st hQ => W.item i s Q E hi st fun v h' tk hp => hQ v h' tk ⟨hi, hp⟩
  done := W.done
  self := W.self
/-- a comprehension over range(n) whose items are ints -/
theorem comp_range {h₀ : Heap} {L r : Addr} {m : Str → Option Value} {news : List (Addr × Obj)} {scope : Scope} {cl : List (Str × Addr)} {x : Str} {ifs : List Expr} {elt : Expr} {Q : Value → Shared → Prop} {E : Value → Shared → Prop} {b : Int} {t u v : Tok} (n : Nat) (pz : Int → Bool) (fz : Int → Int)
    (hh : A.handled = none) (F : Fr h₀ L s.heap m) (N : News h₀ L s.heap news) (hr : IsRange s.heap r 0 b 1 t u v) (hz : Builtin.Range.small 0 b 1 = true) (hz2 : Builtin.Range.rangeSize 0 b 1 = (n : Int)) (hn : n ≤ 1000)
    (ht : CompTest prog w A env scope cl x ifs s (fun k => 0 ≤ k ∧ k < n) pz) (he : CompElt prog w A env scope cl x elt s (fun k => 0 ≤ k ∧ k < n) fz)
    (hQ : ∀ D h' tk ws ep, Fr h₀ L h' m → News h₀ L h' ((D, listOf ws.toArray ep) :: news) → (∀ p ∈ news, p.1 ≠ D) → s.heap.get? D = none → (∀ b o, s.heap.get? b = some o → h'.get? b = some o) →
      IntsAre ws ((((List.range n).map Int.ofNat).filter pz).map fz) → Q (.ref D) { s with heap := h', toks := tk }) :
    wpAny (model prog w) A (pyIter (.ref r)) (fun it s₂ => CompAt prog w A env scope cl x ifs elt Q it s₂) E s := by
  refine wpAny_pyIter_range hr hz ?_
  have W := walks_lt (Walks.range (prog := prog) (w := w) hh s.heap.objs.size 0 1 n)
  refine ⟨_, _, s.heap.objs.size, _, _, n, _, _, rfl, W, ?_, ?_, ?_, quiet_ints (s := s) (o := _) (dom := fun k => 0 ≤ k ∧ k < n) (pz := pz) (fz := fz) ?_ rfl rfl ht he, ?_⟩
  · rw [sizeLine_eq]; omega
  · rw [hz2]; simp only [Int.ofNat_zero, Int.zero_mul, Int.add_zero, Int.sub_zero]; exact Heap.get?_push_size _ rfl
  · intro b hb; rw [List.mem_singleton.mp hb]; show s.heap.objs.size < (s.heap.push _).objs.size; rw [Heap.size_push]; exact Nat.lt_succ_self _
  · rintro i v hJ92
    refine Classical.byContradiction fun hg9 => ?_
    obtain ⟨hi, t, r92⟩ := hJ92
    subst r92
    refine hg9 ?_
    clear hg9
    exact ⟨_, t, rfl, by omega, by omega⟩
  · intro D h' tk ys vs hD hl hpl hlen hP hF hk
    obtain ⟨ep, hpl⟩ := hpl
    have k : ∀ b o, s.heap.get? b = some o → h'.get? b = some o := fun b o e => hk b o (fun q => by rw [List.mem_singleton.mp q] at e; exact absurd (Heap.lt_size e) (Nat.lt_irrefl _)) (Heap.get?_push_of_some _ e)
    have nD : s.heap.get? D = none := by
      cases q : s.heap.get? D with
      | none => rfl
      | some o => have := Heap.get?_push_of_some { cls := .type "range_iterator", data := .fields #[rawInt 0, rawInt (Builtin.Range.rangeSize 0 b 1), rawInt 1] } q; rw [hD] at this; cases this
    obtain ⟨yl⟩ := ys
    exact hQ D h' tk yl ep (F.after k) (newsFresh0 F (newsAfter N k) nD hpl) (fun p hp e => by have := (N p hp).1; rw [e, nD] at this; cases this) nD k (paired_out (ints_range hlen fun j v q => (hP j v q).2) hF)

/-- .. over a list of ints that stands -/
theorem comp_list {h₀ : Heap} {L l : Addr} {m : Str → Option Value} {news : List (Addr × Obj)} {scope : Scope} {cl : List (Str × Addr)} {x : Str} {ifs : List Expr} {elt : Expr} {Q : Value → Shared → Prop} {E : Value → Shared → Prop} {vs : List Value} {ns : List Int} (pz : Int → Bool) (fz : Int → Int)
    (hh : A.handled = none) (F : Fr h₀ L s.heap m) (N : News h₀ L s.heap news) (hl : s.heap.IsList l vs.toArray) (hi : IntsAre vs ns) (hn : ns.length ≤ 1000)
    (ht : CompTest prog w A env scope cl x ifs s (fun k => k ∈ ns) pz) (he : CompElt prog w A env scope cl x elt s (fun k => k ∈ ns) fz)
    (hQ : ∀ D h' tk ws ep, Fr h₀ L h' m → News h₀ L h' ((D, listOf ws.toArray ep) :: news) → (∀ p ∈ news, p.1 ≠ D) → s.heap.get? D = none → (∀ b o, s.heap.get? b = some o → h'.get? b = some o) →
      IntsAre ws ((ns.filter pz).map fz) → Q (.ref D) { s with heap := h', toks := tk }) :
    wpAny (model prog w) A (pyIter (.ref l)) (fun it s₂ => CompAt prog w A env scope cl x ifs elt Q it s₂) E s := by
  (refine xa_1_2 (id hl) ?_; intro ol hol _)
  have hne : l ≠ s.heap.objs.size := Nat.ne_of_lt (Heap.lt_size hol)
  refine wpAny_pyIter_list hl ?_
  have W := Walks.list (prog := prog) (w := w) hh s.heap.objs.size l hne vs.toArray
  have hlen : vs.length = ns.length := hi.length
  refine ⟨_, _, s.heap.objs.size, _, _, vs.toArray.size, _, _, rfl, W, ?_, ?_, ?_, quiet_ints (s := s) (o := _) (dom := fun k => k ∈ ns) (pz := pz) (fz := fz) ?_ rfl rfl ht he, ?_⟩
  · rw [sizeLine_eq, List.size_toArray]; omega
  · exact ⟨⟨_, Heap.get?_push_size _ rfl, rfl, rfl⟩, hl.at fun o e => Heap.get?_push_of_some _ e⟩
  · intro b hb
    show b < (s.heap.push _).objs.size
    rw [Heap.size_push]
    rcases List.mem_cons.mp hb with rfl | hb
    · exact Nat.lt_succ_self _
    · rw [List.mem_singleton.mp hb]; exact Nat.lt_succ_of_lt (Heap.lt_size hol)
  · intro i v hv
    have hv' : vs[i]? = some v := by simpa using hv
    have hlt : i < ns.length := by have := (List.getElem?_eq_some_iff.mp hv').1; omega
    obtain ⟨t, hx⟩ := hi.get i ns[i] (by simp [hlt])
    rw [hx] at hv'
    cases hv'
    exact ⟨_, t, rfl, List.getElem_mem hlt⟩
  · intro D h' tk ys vs' hD hl' hpl hlen' hP hF hk
    obtain ⟨ep, hpl⟩ := hpl
    have k : ∀ b o, s.heap.get? b = some o → h'.get? b = some o := fun b o e => hk b o (fun q => by rw [List.mem_singleton.mp q] at e; exact absurd (Heap.lt_size e) (Nat.lt_irrefl _)) (Heap.get?_push_of_some _ e)
    have nD : s.heap.get? D = none := by
      cases q : s.heap.get? D with
      | none => rfl
      | some o => have := Heap.get?_push_of_some { cls := .type "list_iterator", data := .fields #[.ref l, .int 0 0] } q; rw [hD] at this; cases this
    obtain ⟨yl⟩ := ys
    have evs : vs' = vs := by
      refine List.ext_getElem? fun j => ?_
      by_cases hj : j < vs'.length
      · have h1 : vs'[j]? = some vs'[j] := List.getElem?_eq_getElem hj
        rw [h1]
        have := hP j _ h1
        simpa using this.symm
      · rw [List.getElem?_eq_none (by omega), List.getElem?_eq_none (by rw [hlen', List.size_toArray] at hj; omega)]
    subst evs
    exact hQ D h' tk yl ep (F.after k) (newsFresh0 F (newsAfter N k) nD hpl) (fun p hp e => by have := (N p hp).1; rw [e, nD] at this; cases this) nD k (paired_out hi hF)
end
end
section
local macro_rules | `(tactic| k_room) => `(tactic| ((have hR9 := Room.depth (by assumption)); (show _ < 1000); (try simp only [depth_under_make, depth_under_kw, depth_in1, depth_deeper]); omega))
local macro_rules | `(tactic| k_inst) => `(tactic| first | (refine' inst_old ?F ?h1 ?h2; (case F => k_asm); (case h1 => with_reducible assumption); (case h2 => with_reducible assumption)) | (refine' InstAt.of_news ?N ?h1 ?h2; (case N => k_asm); (case h1 => k_mem); (case h2 => k_mem)))
section
theorem words5 : True := by
  k_with_none
  (k_with "ite" => (first | (refine ite_pos (by ((try simp only [beq_iff_eq, bne_iff_ne, decide_eq_true_eq, Bool.not_eq_true', decide_eq_false_iff_not, beq_eq_false_iff_ne, ne_eq]); omega)) ?_) | (refine ite_neg (by ((try simp only [beq_iff_eq, bne_iff_ne, decide_eq_true_eq, Bool.not_eq_true', decide_eq_false_iff_not, beq_eq_false_iff_ne, ne_eq]); omega)) ?_)))
  (k_with "binaryOp FloorDiv int int" => ((k_dflt (refine' floordiv_int ?h1_q ?_ (Or.inl (PyProof.noPylong_of_log2 ?h2_q)); (case h1_q => omega); (case h2_q => first | assumption | exact Sz.log (by assumption))))))
  (k_with "binaryOp Mult int int" => ((k_dflt (refine' mul_int ?_ ?hm_q; (case hm_q => exact Sz.ok (by with_reducible assumption) (by with_reducible assumption) (by omega))))))
  (k_with "eval Name" => ((k_dflt (refine' ld ?k1_q ?k2_q ?_; (case k1_q => with_reducible assumption); (case k2_q => first | with_reducible assumption | (dsimp only; first | exact (if_neg (by decide)).trans (by with_reducible assumption) | exact (if_neg (by decide)).trans ((if_neg (by decide)).trans (by with_reducible assumption)))); k_whole))))
  trivial
section
theorem words6 : True := by
  (k_with "exec While Name cons nil" => ((refine hold ?_)))
  trivial
theorem euclid_step {a b dv rt : Int} (h : ∀ c : Int, c ∣ dv → c ∣ rt → c ∣ a ∧ c ∣ b) (c : Int) (h1 : c ∣ rt) (h2 : c ∣ dv.fmod rt) : c ∣ a ∧ c ∣ b := by
  refine h c ?_ h1
  have e := Int.mul_fdiv_add_fmod dv rt
  rw [← e]
  exact Int.dvd_add (Int.dvd_trans h1 (Int.dvd_mul_right _ _)) h2
theorem sz_fmod {a b : Int} {k : Nat} (hb : 0 < b) (h : Sz k b) : Sz k (a.fmod b) := by
  have h1 := Int.fmod_nonneg_of_pos a hb
  have h2 := Int.fmod_lt_of_pos a hb
  unfold Sz at h ⊢
  omega
theorem frac_gen {prog : Program} {w : World} {A : Around} {s : Shared} {R : Result → Shared → Prop} (G : Gnd w s.heap) (hA : Room A 4) {a b : Int} {ta tb : Tok} {rest : List Value}
    (H : ∀ oc od fd sl, (hd.heap_1 w.params).lookup 53 = some ⟨oc, od, .func fd, sl⟩ → ∀ (x : Addr) (s' : Shared), (hd.heap_1 w.params).In s'.heap → BindsTo s' fd ⟨.ref x :: rest, []⟩ [(Str.ofString "self", .ref x), (Str.ofString "numerator", .int a ta), (Str.ofString "denominator", .int b tb)])
    (hb : 0 < b) (hz : Sz 8000 b)
    (hR : ∀ v s' n d, Done s s' → NewFrac s.heap s'.heap v n d → 0 < d → n * b = a * d → n.natAbs ≤ a.natAbs → d ≤ b → R (.ok (.ret v)) s') :
    codeAny (model prog w) A (.call (.ref 182) ⟨rest, []⟩) R s := by
  obtain ⟨X, p, loose, mean, mg, mb, T⟩ := G
  w_on
  w_strict (k_dflt (refine' make (K := hd.heap_1 w.params) (fI := 53) (binds := fun x => [(Str.ofString "self", .ref x), (Str.ofString "numerator", .int a ta), (Str.ofString "denominator", .int b tb)]) X T.nolimit ?m ?i ?f ?o ?c hA ?b ?l (fun x dx L h₁ F N l0 l1 l2 dp un fr gd hA' => ?_) ?c2 ?c3 ?c4 ?c5; (case m => k_is); (case i => k_is); (case f => k_is); (case o => k_is); (case c => k_is); (case b => (intro x9 s9 X9; exact H _ _ _ _ (by k_is) x9 s9 X9)); (case l => (intro x9; exact locs rfl)); (case c2 => exact rfl); (case c3 => exact rfl); (case c4 => exact rfl); (case c5 => decide)))
  dsimp only
  w_strict (k_fold)
  w_strict (k_steps)
  unfold Hold
  rename Fr _ _ _ _ => F1
  rename News _ _ _ _ => N1
  refine while_inv F1 (fun p hp => N1 p (by first | exact List.mem_cons_of_mem _ (List.mem_cons_of_mem _ hp))) (fun k m₁ => E4 fun dv rt t1 t2 => A11 (m₁ (Str.ofString "divisor") = some (.int dv t1)) (m₁ (Str.ofString "rest") = some (.int rt t2)) (m₁ (Str.ofString "upper") = some (.int a ta)) (m₁ (Str.ofString "lower") = some (.int b tb)) (m₁ (Str.ofString "self") = some (.ref x)) (0 < dv) (0 ≤ rt) (k = rt.toNat) (dv.natAbs.log2 < 9000) (Sz 8000 rt) (∀ c : Int, c ∣ dv → c ∣ rt → c ∣ a ∧ c ∣ b)) (a.fmod b).toNat ⟨b, a.fmod b, _, _, rfl, rfl, rfl, rfl, rfl, hb, Int.fmod_nonneg_of_pos _ hb, rfl, hz.log, sz_fmod hb hz, fun c h1 h2 => ⟨by
      have e := Int.mul_fdiv_add_fmod a b
      rw [← e]
      exact Int.dvd_add (Int.dvd_trans h1 (Int.dvd_mul_right _ _)) h2, h1⟩⟩ ?_
  clear F1 N1
  rintro k m₁ h₂ tk hJ94 F1 N1
  refine Classical.byContradiction fun hg9 => ?_
  obtain ⟨dv, rt, t1, t2, e1, e2, e3, e4, e5, g1, g2, r911, g4, g5, g3⟩ := hJ94
  subst r911
  refine hg9 ?_
  clear hg9
  w_strict (k_steps)
  · rename Fr _ _ _ _ => F2
    rename News _ _ _ _ => N2
    rename rt ≠ 0 => g6
    have g7 : 0 < rt := by omega
    have g8 := Int.fmod_nonneg_of_pos dv g7
    have g9 := Int.fmod_lt_of_pos dv g7
    exact ⟨rfl, (dv.fmod rt).toNat, _, _, _, by omega, rfl, F2, fun p hp => N2 p (List.mem_cons_of_mem _ hp), rt, dv.fmod rt, _, _, rfl, rfl, e3, e4, e5, g7, g8, rfl, g5.log, sz_fmod g7 g5, euclid_step g3⟩
  · rename Fr _ _ _ _ => F2
    rename News _ _ _ _ => N2
    rename rt = 0 => g6
    subst g6
    (refine an_2 (g3 dv (Int.dvd_refl _) (Int.dvd_zero _)) ?_; intro n90 n91)
    obtain ⟨qa, rfl⟩ := n90
    obtain ⟨qb, rfl⟩ := n91
    have n0 : dv ≠ 0 := by omega
    rw [Int.mul_fdiv_cancel_left _ n0, Int.mul_fdiv_cancel_left _ n0] at N2
    have hqb : 0 < qb := by
      rcases Int.lt_trichotomy qb 0 with q | q | q
      · exact absurd hb (Int.not_lt.mpr (Int.le_of_lt (Int.mul_neg_of_pos_of_neg g1 q)))
      · subst q; omega
      · exact q
    refine hR _ _ qa qb (Done.ofFr F2 rfl) ⟨x, dx, _, _, _, _, _, _, rfl, l0, l1, (N2 _ (.head _)).1, (N2 _ (.tail _ (.head _))).1⟩ hqb ?_ ?_ ?_
    · rw [← Int.mul_assoc, Int.mul_comm qa dv]
    · rw [Int.natAbs_mul]
      exact Nat.le_mul_of_pos_left _ (by omega)
    · have := Int.mul_le_mul_of_nonneg_right (show (1 : Int) ≤ dv by omega) (Int.le_of_lt hqb)
      omega

theorem bind_of {K : Frag} {f : Addr} {oc0 : Value} {od0 : Option Addr} {fd0 : FuncData} {sl0 : Array (Option Value)} {args : Addr → Args} {binds : Addr → List (Str × Value)}
    (e : K.lookup f = some ⟨oc0, od0, .func fd0, sl0⟩) (hb : ∀ x (s' : Shared), K.In s'.heap → BindsTo s' fd0 (args x) (binds x)) :
    ∀ oc od fd sl, K.lookup f = some ⟨oc, od, .func fd, sl⟩ → ∀ (x : Addr) (s' : Shared), K.In s'.heap → BindsTo s' fd (args x) (binds x) := by
  intro oc od fd sl h x s' X
  have e' := Option.some.inj (h.symm.trans e)
  injection e' with _ _ e2 _
  injection e2 with e2
  subst e2
  exact hb x s' X
theorem frac_code {prog : Program} {w : World} {A : Around} {s : Shared} {R : Result → Shared → Prop} (G : Gnd w s.heap) (hA : Room A 4) {a b : Int} {ta tb : Tok} (hb : 0 < b) (hz : Sz 8000 b)
    (hR : ∀ v s' n d, Done s s' → NewFrac s.heap s'.heap v n d → 0 < d → n * b = a * d → n.natAbs ≤ a.natAbs → d ≤ b → R (.ok (.ret v)) s') :
    codeAny (model prog w) A (.call (.ref 182) ⟨[.int a ta, .int b tb], []⟩) R s := by
  refine frac_gen (ta := ta) (tb := tb) G hA ?_ hb hz hR
  k_dflt (refine' bind_of (args := fun x => ⟨[.ref x, .int a ta, .int b tb], []⟩) (binds := fun x => [(Str.ofString "self", .ref x), (Str.ofString "numerator", .int a ta), (Str.ofString "denominator", .int b tb)]) ?e ?b; (case e => k_is); (case b => (intro x9 s9 X9; first | exact BindsTo.of_eq rfl | exact binds_K X9 rfl (by k_is) rfl rfl rfl)))
theorem frac_code1 {prog : Program} {w : World} {A : Around} {s : Shared} {R : Result → Shared → Prop} (G : Gnd w s.heap) (hA : Room A 4) {a : Int} {ta : Tok}
    (hR : ∀ v s', Done s s' → NewFrac s.heap s'.heap v a 1 → R (.ok (.ret v)) s') :
    codeAny (model prog w) A (.call (.ref 182) ⟨[.int a ta], []⟩) R s := by
  have hB : ∀ oc od fd sl, (hd.heap_1 w.params).lookup 53 = some ⟨oc, od, .func fd, sl⟩ → ∀ (x : Addr) (s' : Shared), (hd.heap_1 w.params).In s'.heap → BindsTo s' fd ⟨[.ref x, .int a ta], []⟩ [(Str.ofString "self", .ref x), (Str.ofString "numerator", .int a ta), (Str.ofString "denominator", .int 1 230)] := by
    k_dflt (refine' bind_of (args := fun x => ⟨[.ref x, .int a ta], []⟩) (binds := fun x => [(Str.ofString "self", .ref x), (Str.ofString "numerator", .int a ta), (Str.ofString "denominator", .int 1 230)]) ?e ?b; (case e => k_is); (case b => (intro x9 s9 X9; exact binds_K X9 rfl (by k_is) rfl rfl rfl)))
  refine frac_gen (ta := ta) (tb := 230) G hA hB (by decide) (Sz.mono (j := 1) (show (1 : Int).natAbs < 2 ^ 1 by decide) (by decide)) (fun v s' n d D NF h1 h2 h3 h4 => ?_)
  have e1 : d = 1 := by omega
  subst e1
  have e2 : n = a := by omega
  subst e2
  exact hR v s' D NF
end
end
theorem words7 : True := by
  k_with_none
  (k_with "ite" => (first | (refine ite_pos (by ((try simp only [beq_iff_eq, bne_iff_ne, decide_eq_true_eq, Bool.not_eq_true', decide_eq_false_iff_not, beq_eq_false_iff_ne, ne_eq]); omega)) ?_) | (refine ite_neg (by ((try simp only [beq_iff_eq, bne_iff_ne, decide_eq_true_eq, Bool.not_eq_true', decide_eq_false_iff_not, beq_eq_false_iff_ne, ne_eq]); omega)) ?_)))
  (k_with "binaryOp FloorDiv int int" => ((k_dflt (refine' floordiv_int ?h1_q ?_ (Or.inl (PyProof.noPylong_of_log2 ?h2_q)); (case h1_q => omega); (case h2_q => first | assumption | exact Sz.log (by assumption))))))
  (k_with "binaryOp Mult int int" => ((k_dflt (refine' mul_int ?_ ?hm_q; (case hm_q => exact Sz.ok (by with_reducible assumption) (by with_reducible assumption) (by omega))))))
  trivial
section
/-- Fraction(a, b) at a step of the walk -/
theorem frac_k {prog : Program} {w : World} {A : Around} {s : Shared} {h₀ : Heap} {L : Addr} {m mg mb : Str → Option Value} {news : List (Addr × Obj)} {p : Program} {loose : List Str} {mean : ExcName → Option Value} {Q : Value → Shared → Prop} {E : Value → Shared → Prop} (F : Fr h₀ L s.heap m) (N : News h₀ L s.heap news) (X : (hd.heap_1 w.params).In h₀) (T : Top p loose mean mg mb h₀) (hA : Room A 4) {a b : Int} {ta tb : Tok} (hb : 0 < b) {k : Nat} (hz : Sz k b) (hk : k ≤ 8000)
    (h : ∀ x dx h' tk n d hs1 hs2 t1 t2 t3 t4, Fr h₀ L h' m → News h₀ L h' ((x, instObj 182 dx) :: (dx, fracD hs1 hs2 n d t1 t2 t3 t4) :: news) → (∀ p ∈ news, p.1 < dx) → @LT.lt Nat _ dx x → @LT.lt Nat _ L dx →
      0 < d → n * b = a * d → n.natAbs ≤ a.natAbs → Sz k d → Q (.ref x) { s with heap := h', toks := tk }) :
    wpAny (model prog w) A (call (.ref 182) [.int a ta, .int b tb]) Q E s := by
  refine call_of (frac_code ⟨X.keeps F.keep, p, loose, mean, mg, mb, T.keeps F.keep⟩ hA hb (hz.mono hk) fun v s' n d D NF h1 h2 h3 h4 => ?_)
  refine Classical.byContradiction fun hg9 => ?_
  (refine xa_8_5 (NF) ?_; intro x dx hs1 hs2 t1 t2 t3 t4 r98 g1 g2 g3 g4; (try clear NF))
  subst r98
  refine hg9 ?_
  clear hg9
  have F' := F.after D.keep
  have N' := newsAfter N D.keep
  have e := D.is
  have sd : Sz k d := by unfold Sz at hz ⊢; omega
  dsimp only
  rw [e]
  exact h x dx _ _ n d hs1 hs2 t1 t2 t3 t4 F' (newsFresh1 F (newsFresh1 F N' g1 g4) (Nat.le_trans g1 (Nat.le_of_lt g2)) g3) (fun p hp => Nat.lt_of_lt_of_le (Heap.lt_size (N p hp).1) g1) g2 (Nat.lt_of_lt_of_le F.ns.lt g1) h1 h2 h3 sd
theorem words8 : True := by
  (k_with "call ref" => (((with_reducible show wpAny _ _ (call (Value.ref 182) [Value.int _ _, Value.int _ _]) _ _ _); k_dflt (refine' frac_k ?F_q ?N_q ?X_q ?T_q ?A_q ?b_q ?z_q ?k_q ?_; (case F_q => k_asm); (case N_q => k_asm); (case X_q => k_asm); (case T_q => k_asm); (case A_q => exact Room.le (by assumption) (by decide)); (case b_q => first | assumption | omega | (exact Int.mul_pos (by assumption) (by assumption))); (case z_q => first | assumption | exact Sz.mul (by assumption) (by assumption)); (case k_q => omega)); intro _ _ _ _ _ _ _ _ _ _ _ _ _ _ _ _ _ _ _ _ _)))
  trivial

theorem newFrac_of {h₀ h' : Heap} {L : Addr} {m : Str → Option Value} {news : List (Addr × Obj)} {x dx : Addr} {n d hs1 hs2 : Int} {t1 t2 t3 t4 : Tok} (F : Fr h₀ L h' m)
    (N : News h₀ L h' ((x, instObj 182 dx) :: (dx, fracD hs1 hs2 n d t1 t2 t3 t4) :: news)) (l1 : @LT.lt Nat _ dx x) (lL : @LT.lt Nat _ L dx) : NewFrac h₀ h' (.ref x) n d :=
  ⟨x, dx, _, _, _, _, _, _, rfl, Nat.le_of_lt (Nat.lt_of_le_of_lt F.above lL), l1, (N _ (.head _)).1, (N _ (.tail _ (.head _))).1⟩
theorem frac1_k {prog : Program} {w : World} {A : Around} {s : Shared} {h₀ : Heap} {L : Addr} {m mg mb : Str → Option Value} {news : List (Addr × Obj)} {p : Program} {loose : List Str} {mean : ExcName → Option Value} {Q : Value → Shared → Prop} {E : Value → Shared → Prop} (F : Fr h₀ L s.heap m) (N : News h₀ L s.heap news) (X : (hd.heap_1 w.params).In h₀) (T : Top p loose mean mg mb h₀) (hA : Room A 4) {a : Int} {ta : Tok}
    (h : ∀ x dx h' tk hs1 hs2 t1 t2 t3 t4, Fr h₀ L h' m → News h₀ L h' ((x, instObj 182 dx) :: (dx, fracD hs1 hs2 a 1 t1 t2 t3 t4) :: news) → (∀ p ∈ news, p.1 < dx) → @LT.lt Nat _ dx x → @LT.lt Nat _ L dx →
      Q (.ref x) { s with heap := h', toks := tk }) :
    wpAny (model prog w) A (call (.ref 182) [.int a ta]) Q E s := by
  refine call_of (frac_code1 ⟨X.keeps F.keep, p, loose, mean, mg, mb, T.keeps F.keep⟩ hA fun v s' D NF => ?_)
  refine Classical.byContradiction fun hg9 => ?_
  (refine xa_8_5 (NF) ?_; intro x dx hs1 hs2 t1 t2 t3 t4 r98 g1 g2 g3 g4; (try clear NF))
  subst r98
  refine hg9 ?_
  clear hg9
  have F' := F.after D.keep
  have N' := newsAfter N D.keep
  have e := D.is
  dsimp only
  rw [e]
  exact h x dx _ _ hs1 hs2 t1 t2 t3 t4 F' (newsFresh1 F (newsFresh1 F N' g1 g4) (Nat.le_trans g1 (Nat.le_of_lt g2)) g3) (fun p hp => Nat.lt_of_lt_of_le (Heap.lt_size (N p hp).1) g1) g2 (Nat.lt_of_lt_of_le F.ns.lt g1)
theorem frac_mul_code {prog : Program} {w : World} {A : Around} {s : Shared} {R : Result → Shared → Prop} (G : Gnd w s.heap) (hA : Room A 9) {v : Value} {n d b : Int} {tb : Tok} (hv : IsFrac s.heap v n d) (hd0 : 0 < d) {j k : Nat} (zn : Sz k n) (zd : Sz k d) (zb : Sz j b) (hk : k + j ≤ 7000)
    (hR : ∀ r s' n' d', Done s s' → NewFrac s.heap s'.heap r n' d' → 0 < d' → n' * d = n * b * d' → Sz (k + j) n' → Sz k d' → R (.ok (.ret r)) s') :
    codeAny (model prog w) A (.call (.ref 123) ⟨[v, .int b tb], []⟩) R s := by
  obtain ⟨X, p, loose, mean, mg, mb, T⟩ := G
  refine Classical.byContradiction fun hg9 => ?_
  (refine xa_8_3 (hv) ?_; intro xa dxa hs1 hs2 t1 t2 t3 t4 r98 g1 g2; (try clear hv))
  subst r98
  refine hg9 ?_
  clear hg9
  w_on
  w_strict (k_dflt (refine' enter (K := hd.heap_1 w.params) (binds := [(Str.ofString "self", .ref xa), (Str.ofString "other", .int b tb)]) X T.nolimit ?o ?c ?b ?l hA (fun L h₁ F N dp un fr gd hA' => ?_) ?c2 ?c3 ?c4 ?c5; (case o => k_is); (case c => k_is); (case b => first | exact BindsTo.of_eq rfl | exact binds_K X rfl (by k_is) rfl rfl rfl); (case l => exact locs rfl); (case c2 => exact rfl); (case c3 => exact rfl); (case c4 => exact rfl); (case c5 => decide)))
  dsimp only
  w_strict (k_fold)
  w_strict (k_steps)
  rename _ = _ * _ => e1
  rename Int.natAbs _ ≤ _ => e2
  exact hR _ _ _ _ (Done.ofFr (by assumption) rfl) (newFrac_of (by assumption) (by assumption) (by assumption) (by assumption)) (by assumption) e1 (Nat.lt_of_le_of_lt e2 (Sz.mul zn zb)) (by assumption)

theorem frac_addi_code {prog : Program} {w : World} {A : Around} {s : Shared} {R : Result → Shared → Prop} (G : Gnd w s.heap) (hA : Room A 9) {v : Value} {n d b : Int} {tb : Tok} (hv : IsFrac s.heap v n d) (hd0 : 0 < d) {j k : Nat} (zn : Sz k n) (zd : Sz k d) (zb : Sz j b) (hk : k + j ≤ 7000)
    (hR : ∀ r s' n' d', Done s s' → NewFrac s.heap s'.heap r n' d' → 0 < d' → n' * d = (n + b * d) * d' → Sz (k + j + 1) n' → Sz k d' → R (.ok (.ret r)) s') :
    codeAny (model prog w) A (.call (.ref 95) ⟨[v, .int b tb], []⟩) R s := by
  obtain ⟨X, p, loose, mean, mg, mb, T⟩ := G
  refine Classical.byContradiction fun hg9 => ?_
  (refine xa_8_3 (hv) ?_; intro xa dxa hs1 hs2 t1 t2 t3 t4 r98 g1 g2; (try clear hv))
  subst r98
  refine hg9 ?_
  clear hg9
  w_on
  w_strict (k_dflt (refine' enter (K := hd.heap_1 w.params) (binds := [(Str.ofString "self", .ref xa), (Str.ofString "other", .int b tb)]) X T.nolimit ?o ?c ?b ?l hA (fun L h₁ F N dp un fr gd hA' => ?_) ?c2 ?c3 ?c4 ?c5; (case o => k_is); (case c => k_is); (case b => first | exact BindsTo.of_eq rfl | exact binds_K X rfl (by k_is) rfl rfl rfl); (case l => exact locs rfl); (case c2 => exact rfl); (case c3 => exact rfl); (case c4 => exact rfl); (case c5 => decide)))
  dsimp only
  w_strict (k_fold)
  w_strict (k_steps)
  rename _ = _ * _ => e1
  rename Int.natAbs _ ≤ _ => e2
  exact hR _ _ _ _ (Done.ofFr (by assumption) rfl) (newFrac_of (by assumption) (by assumption) (by assumption) (by assumption)) (by assumption) e1 (Nat.lt_of_le_of_lt e2 ((Sz.add zn (Sz.mul zb zd)).mono (by omega))) (by assumption)

theorem frac_add_code {prog : Program} {w : World} {A : Around} {s : Shared} {R : Result → Shared → Prop} (G : Gnd w s.heap) (hA : Room A 9) {v u : Value} {n d n₂ d₂ : Int} (hv : IsFrac s.heap v n d) (hu : IsFrac s.heap u n₂ d₂) (hd0 : 0 < d) (hd2 : 0 < d₂) {j k : Nat} (zn : Sz k n) (zd : Sz k d) (zn2 : Sz j n₂) (zd2 : Sz j d₂) (hk : k + j ≤ 7000)
    (hR : ∀ r s' n' d', Done s s' → NewFrac s.heap s'.heap r n' d' → 0 < d' → n' * (d * d₂) = (n * d₂ + n₂ * d) * d' → Sz (k + j + 1) n' → Sz (k + j) d' → R (.ok (.ret r)) s') :
    codeAny (model prog w) A (.call (.ref 95) ⟨[v, u], []⟩) R s := by
  obtain ⟨X, p, loose, mean, mg, mb, T⟩ := G
  refine Classical.byContradiction fun hg9 => ?_
  (refine xa_8_3 (hv) ?_; intro xa dxa hs1 hs2 t1 t2 t3 t4 r98 g1 g2; (try clear hv))
  subst r98
  refine hg9 ?_
  clear hg9
  refine Classical.byContradiction fun hg9 => ?_
  (refine xa_8_3 (hu) ?_; intro xb dxb hs3 hs4 t5 t6 t7 t8 r98 g3 g4; (try clear hu))
  subst r98
  refine hg9 ?_
  clear hg9
  w_on
  w_strict (k_dflt (refine' enter (K := hd.heap_1 w.params) (binds := [(Str.ofString "self", .ref xa), (Str.ofString "other", .ref xb)]) X T.nolimit ?o ?c ?b ?l hA (fun L h₁ F N dp un fr gd hA' => ?_) ?c2 ?c3 ?c4 ?c5; (case o => k_is); (case c => k_is); (case b => first | exact BindsTo.of_eq rfl | exact binds_K X rfl (by k_is) rfl rfl rfl); (case l => exact locs rfl); (case c2 => exact rfl); (case c3 => exact rfl); (case c4 => exact rfl); (case c5 => decide)))
  dsimp only
  w_strict (k_fold)
  w_strict (k_steps)
  rename _ = _ * _ => e1
  rename Int.natAbs _ ≤ _ => e2
  exact hR _ _ _ _ (Done.ofFr (by assumption) rfl) (newFrac_of (by assumption) (by assumption) (by assumption) (by assumption)) (by assumption) e1 (Nat.lt_of_le_of_lt e2 ((Sz.add (Sz.mul zn zd2) (Sz.mul zn2 zd)).mono (by omega))) (by assumption)

theorem frac_gt_code {prog : Program} {w : World} {A : Around} {s : Shared} {R : Result → Shared → Prop} (G : Gnd w s.heap) (hA : Room A 9) {v u : Value} {n d n₂ d₂ : Int} (hv : IsFrac s.heap v n d) (hu : IsFrac s.heap u n₂ d₂) {j k : Nat} (zn : Sz k n) (zd : Sz k d) (zn2 : Sz j n₂) (zd2 : Sz j d₂) (hk : k + j ≤ 7000)
    (hR : ∀ s', Done s s' → R (.ok (.ret (.bool (decide (n * d₂ > n₂ * d))))) s') :
    codeAny (model prog w) A (.call (.ref 172) ⟨[v, u], []⟩) R s := by
  obtain ⟨X, p, loose, mean, mg, mb, T⟩ := G
  refine Classical.byContradiction fun hg9 => ?_
  (refine xa_8_3 (hv) ?_; intro xa dxa hs1 hs2 t1 t2 t3 t4 r98 g1 g2; (try clear hv))
  subst r98
  refine hg9 ?_
  clear hg9
  refine Classical.byContradiction fun hg9 => ?_
  (refine xa_8_3 (hu) ?_; intro xb dxb hs3 hs4 t5 t6 t7 t8 r98 g3 g4; (try clear hu))
  subst r98
  refine hg9 ?_
  clear hg9
  w_on
  w_strict (k_dflt (refine' enter (K := hd.heap_1 w.params) (binds := [(Str.ofString "self", .ref xa), (Str.ofString "other", .ref xb)]) X T.nolimit ?o ?c ?b ?l hA (fun L h₁ F N dp un fr gd hA' => ?_) ?c2 ?c3 ?c4 ?c5; (case o => k_is); (case c => k_is); (case b => first | exact BindsTo.of_eq rfl | exact binds_K X rfl (by k_is) rfl rfl rfl); (case l => exact locs rfl); (case c2 => exact rfl); (case c3 => exact rfl); (case c4 => exact rfl); (case c5 => decide)))
  dsimp only
  w_strict (k_fold)
  w_strict (k_steps)
  exact hR _ (Done.ofFr (by assumption) rfl)

theorem fracOfNews {h₀ h : Heap} {L x dx : Addr} {news : List (Addr × Obj)} {n d hs1 hs2 : Int} {t1 t2 t3 t4 : Tok} (N : News h₀ L h news) (h1 : (x, instObj 182 dx) ∈ news) (h2 : (dx, fracD hs1 hs2 n d t1 t2 t3 t4) ∈ news) : IsFrac h (.ref x) n d :=
  ⟨x, dx, _, _, _, _, _, _, rfl, (N _ h1).1, (N _ h2).1⟩
theorem frac_mul_k {prog : Program} {w : World} {A : Around} {s : Shared} {h₀ : Heap} {L : Addr} {m mg mb : Str → Option Value} {news : List (Addr × Obj)} {p : Program} {loose : List Str} {mean : ExcName → Option Value} {Q : Value → Shared → Prop} {E : Value → Shared → Prop} (F : Fr h₀ L s.heap m) (N : News h₀ L s.heap news) (X : (hd.heap_1 w.params).In h₀) (T : Top p loose mean mg mb h₀) (hA : Room A 9) {v : Value} {n d b : Int} {tb : Tok} (hv : IsFrac s.heap v n d) (hd0 : 0 < d) {j k : Nat} (zn : Sz k n) (zd : Sz k d) (zb : Sz j b) (hk : k + j ≤ 7000)
    (h : ∀ x dx h' tk n' d' hs1 hs2 t1 t2 t3 t4, Fr h₀ L h' m → News h₀ L h' ((x, instObj 182 dx) :: (dx, fracD hs1 hs2 n' d' t1 t2 t3 t4) :: news) → (∀ p ∈ news, p.1 < dx) → @LT.lt Nat _ dx x → @LT.lt Nat _ L dx →
      0 < d' → n' * d = n * b * d' → Sz (k + j) n' → Sz k d' → Q (.ref x) { s with heap := h', toks := tk }) :
    wpAny (model prog w) A (call (.ref 123) [v, .int b tb]) Q E s := by
  refine call_of (frac_mul_code ⟨X.keeps F.keep, p, loose, mean, mg, mb, T.keeps F.keep⟩ hA hv hd0 zn zd zb hk fun v s' n d D NF h1 h2 h3 h4 => ?_)
  refine Classical.byContradiction fun hg9 => ?_
  (refine xa_8_5 (NF) ?_; intro x dx hs1 hs2 t1 t2 t3 t4 r98 g1 g2 g3 g4; (try clear NF))
  subst r98
  refine hg9 ?_
  clear hg9
  have F' := F.after D.keep
  have N' := newsAfter N D.keep
  have e := D.is
  dsimp only
  rw [e]
  exact h x dx _ _ n d hs1 hs2 t1 t2 t3 t4 F' (newsFresh1 F (newsFresh1 F N' g1 g4) (Nat.le_trans g1 (Nat.le_of_lt g2)) g3) (fun p hp => Nat.lt_of_lt_of_le (Heap.lt_size (N p hp).1) g1) g2 (Nat.lt_of_lt_of_le F.ns.lt g1) h1 h2 h3 h4
theorem frac_addi_k {prog : Program} {w : World} {A : Around} {s : Shared} {h₀ : Heap} {L : Addr} {m mg mb : Str → Option Value} {news : List (Addr × Obj)} {p : Program} {loose : List Str} {mean : ExcName → Option Value} {Q : Value → Shared → Prop} {E : Value → Shared → Prop} (F : Fr h₀ L s.heap m) (N : News h₀ L s.heap news) (X : (hd.heap_1 w.params).In h₀) (T : Top p loose mean mg mb h₀) (hA : Room A 9) {v : Value} {n d b : Int} {tb : Tok} (hv : IsFrac s.heap v n d) (hd0 : 0 < d) {j k : Nat} (zn : Sz k n) (zd : Sz k d) (zb : Sz j b) (hk : k + j ≤ 7000)
    (h : ∀ x dx h' tk n' d' hs1 hs2 t1 t2 t3 t4, Fr h₀ L h' m → News h₀ L h' ((x, instObj 182 dx) :: (dx, fracD hs1 hs2 n' d' t1 t2 t3 t4) :: news) → (∀ p ∈ news, p.1 < dx) → @LT.lt Nat _ dx x → @LT.lt Nat _ L dx →
      0 < d' → n' * d = (n + b * d) * d' → Sz (k + j + 1) n' → Sz k d' → Q (.ref x) { s with heap := h', toks := tk }) :
    wpAny (model prog w) A (call (.ref 95) [v, .int b tb]) Q E s := by
  refine call_of (frac_addi_code ⟨X.keeps F.keep, p, loose, mean, mg, mb, T.keeps F.keep⟩ hA hv hd0 zn zd zb hk fun v s' n d D NF h1 h2 h3 h4 => ?_)
  refine Classical.byContradiction fun hg9 => ?_
  (refine xa_8_5 (NF) ?_; intro x dx hs1 hs2 t1 t2 t3 t4 r98 g1 g2 g3 g4; (try clear NF))
  subst r98
  refine hg9 ?_
  clear hg9
  have F' := F.after D.keep
  have N' := newsAfter N D.keep
  have e := D.is
  dsimp only
  rw [e]
  exact h x dx _ _ n d hs1 hs2 t1 t2 t3 t4 F' (newsFresh1 F (newsFresh1 F N' g1 g4) (Nat.le_trans g1 (Nat.le_of_lt g2)) g3) (fun p hp => Nat.lt_of_lt_of_le (Heap.lt_size (N p hp).1) g1) g2 (Nat.lt_of_lt_of_le F.ns.lt g1) h1 h2 h3 h4
theorem frac_add_k {prog : Program} {w : World} {A : Around} {s : Shared} {h₀ : Heap} {L : Addr} {m mg mb : Str → Option Value} {news : List (Addr × Obj)} {p : Program} {loose : List Str} {mean : ExcName → Option Value} {Q : Value → Shared → Prop} {E : Value → Shared → Prop} (F : Fr h₀ L s.heap m) (N : News h₀ L s.heap news) (X : (hd.heap_1 w.params).In h₀) (T : Top p loose mean mg mb h₀) (hA : Room A 9) {v u : Value} {n d n₂ d₂ : Int} (hv : IsFrac s.heap v n d) (hu : IsFrac s.heap u n₂ d₂) (hd0 : 0 < d) (hd2 : 0 < d₂) {j k : Nat} (zn : Sz k n) (zd : Sz k d) (zn2 : Sz j n₂) (zd2 : Sz j d₂) (hk : k + j ≤ 7000)
    (h : ∀ x dx h' tk n' d' hs1 hs2 t1 t2 t3 t4, Fr h₀ L h' m → News h₀ L h' ((x, instObj 182 dx) :: (dx, fracD hs1 hs2 n' d' t1 t2 t3 t4) :: news) → (∀ p ∈ news, p.1 < dx) → @LT.lt Nat _ dx x → @LT.lt Nat _ L dx →
      0 < d' → n' * (d * d₂) = (n * d₂ + n₂ * d) * d' → Sz (k + j + 1) n' → Sz (k + j) d' → Q (.ref x) { s with heap := h', toks := tk }) :
    wpAny (model prog w) A (call (.ref 95) [v, u]) Q E s := by
  refine call_of (frac_add_code ⟨X.keeps F.keep, p, loose, mean, mg, mb, T.keeps F.keep⟩ hA hv hu hd0 hd2 zn zd zn2 zd2 hk fun v s' n d D NF h1 h2 h3 h4 => ?_)
  refine Classical.byContradiction fun hg9 => ?_
  (refine xa_8_5 (NF) ?_; intro x dx hs1 hs2 t1 t2 t3 t4 r98 g1 g2 g3 g4; (try clear NF))
  subst r98
  refine hg9 ?_
  clear hg9
  have F' := F.after D.keep
  have N' := newsAfter N D.keep
  have e := D.is
  dsimp only
  rw [e]
  exact h x dx _ _ n d hs1 hs2 t1 t2 t3 t4 F' (newsFresh1 F (newsFresh1 F N' g1 g4) (Nat.le_trans g1 (Nat.le_of_lt g2)) g3) (fun p hp => Nat.lt_of_lt_of_le (Heap.lt_size (N p hp).1) g1) g2 (Nat.lt_of_lt_of_le F.ns.lt g1) h1 h2 h3 h4
/-- from what a call's code leaves to a step of the walk: a new Fraction -/
theorem liftF {prog : Program} {w : World} {A : Around} {s : Shared} {h₀ : Heap} {L : Addr} {m mg mb : Str → Option Value} {news : List (Addr × Obj)} {p : Program} {loose : List Str} {mean : ExcName → Option Value} {Q : Value → Shared → Prop} {E : Value → Shared → Prop} (F : Fr h₀ L s.heap m) (N : News h₀ L s.heap news) (X : (hd.heap_1 w.params).In h₀) (T : Top p loose mean mg mb h₀) {f : Value} {vs : List Value} {kw : List (Str × Value)} (P : Int → Int → Prop)
    (C : ∀ R : Result → Shared → Prop, (∀ v s' n d, Done s s' → NewFrac s.heap s'.heap v n d → P n d → R (.ok (.ret v)) s') → codeAny (model prog w) A (.call f ⟨vs, kw⟩) R s)
    (h : ∀ x dx h' tk n d hs1 hs2 t1 t2 t3 t4, Fr h₀ L h' m → News h₀ L h' ((x, instObj 182 dx) :: (dx, fracD hs1 hs2 n d t1 t2 t3 t4) :: news) → (∀ p ∈ news, p.1 < dx) → @LT.lt Nat _ dx x → @LT.lt Nat _ L dx →
      P n d → Q (.ref x) { s with heap := h', toks := tk }) :
    wpAny (model prog w) A (call f vs kw) Q E s := by
  refine call_of (C _ fun v s' n d D NF hp => ?_)
  refine Classical.byContradiction fun hg9 => ?_
  (refine xa_8_5 (NF) ?_; intro x dx hs1 hs2 t1 t2 t3 t4 r98 g1 g2 g3 g4; (try clear NF))
  subst r98
  refine hg9 ?_
  clear hg9
  have F' := F.after D.keep
  have N' := newsAfter N D.keep
  have e := D.is
  dsimp only
  rw [e]
  exact h x dx _ _ n d hs1 hs2 t1 t2 t3 t4 F' (newsFresh1 F (newsFresh1 F N' g1 g4) (Nat.le_trans g1 (Nat.le_of_lt g2)) g3) (fun p hp => Nat.lt_of_lt_of_le (Heap.lt_size (N p hp).1) g1) g2 (Nat.lt_of_lt_of_le F.ns.lt g1) hp
end
theorem words9 : True := by
  (k_with "binaryOp Pow int int" => ((k_dflt (refine' pow_int_small ?h1_q ?h2_q ?h3_q ?_; (case h1_q => omega); (case h2_q => omega); (case h3_q => omega)))))
  (k_with "call ref" => (((with_reducible show wpAny _ _ (call (Value.ref 182) [Value.int _ _]) _ _ _); k_dflt (refine' frac1_k ?F_q ?N_q ?X_q ?T_q ?A_q ?_; (case F_q => k_asm); (case N_q => k_asm); (case X_q => k_asm); (case T_q => k_asm); (case A_q => exact Room.le (by assumption) (by decide))); intro _ _ _ _ _ _ _ _ _ _ _ _ _ _ _)))
  trivial
section
inductive Fn where
  | pav | adams | slav | cc | av
  | geom (b : Int) | atl (l : Int)
noncomputable def gN : Fn → Int → Int
  | .pav, i => if i = 0 then 0 else 1
  | .adams, i => if i = 0 then 0 else 1
  | .slav, i => if i = 0 then 0 else 1
  | .cc, i => if i = 1 then 1 else 0
  | .av, i => if 1 ≤ i then 1 else 0
  | .geom _, i => if i = 0 then 0 else 1
  | .atl l, i => if i = l then 1 else 0
noncomputable def gD : Fn → Int → Int
  | .pav, i => if i = 0 then 1 else i
  | .adams, i => if i ≤ 1 then 1 else i - 1
  | .slav, i => if i = 0 then 1 else 2 * i - 1
  | .geom b, i => if i = 0 then 1 else b ^ (i - 1).toNat
  | _, _ => 1
theorem sz_lit {x : Int} (h : x.natAbs < 1099511627776) : Sz 40 x := h
theorem sz_pow {b : Int} (h0 : 0 ≤ b) (h1 : b ≤ 10) {e : Nat} (he : e ≤ 10) : Sz 40 (b ^ e) := by
  unfold Sz
  rw [Int.natAbs_pow]
  refine Nat.lt_of_le_of_lt (Nat.pow_le_pow_left (show b.natAbs ≤ 10 by omega) e) (Nat.lt_of_le_of_lt (Nat.pow_le_pow_right (by decide) he) (by decide))
theorem pow_pos' {b : Int} (h0 : 2 ≤ b) (e : Nat) : 0 < b ^ e := Int.pow_pos (by omega)
theorem words10 : True := by
  (k_with "call ref" => (((with_reducible show wpAny _ _ (call (Value.ref 182) [Value.int _ _, Value.int _ _]) _ _ _); k_dflt (refine' frac_k (k := 40) ?F_q ?N_q ?X_q ?T_q ?A_q ?b_q ?z_q ?k_q ?_; (case F_q => k_asm); (case N_q => k_asm); (case X_q => k_asm); (case T_q => k_asm); (case A_q => exact Room.le (by assumption) (by decide)); (case b_q => first | omega | exact pow_pos' (by omega) _); (case z_q => first | exact sz_lit (by omega) | exact sz_pow (by omega) (by omega) (by omega)); (case k_q => decide)); intro _ _ _ _ _ _ _ _ _ _ _ _ _ _ _ _ _ _ _ _ _)))
  trivial
theorem pav_code {prog : Program} {w : World} {A : Around} {s : Shared} {R : Result → Shared → Prop} (G : Gnd w s.heap) (hA : Room A 6) {i : Int} {ti : Tok} (i0 : 0 ≤ i) (i1 : i ≤ 8)
    (hR : ∀ v s' n d, Done s s' → NewFrac s.heap s'.heap v n d → 0 < d → n * gD (.pav) i = gN (.pav) i * d → Sz 1 n → Sz 40 d → R (.ok (.ret v)) s') :
    codeAny (model prog w) A (.call (.ref 266) ⟨[.int i ti], []⟩) R s := by
  obtain ⟨X, p, loose, mean, mg, mb, T⟩ := G
  w_on
  w_strict (k_dflt (refine' enter (K := hd.heap_1 w.params) (binds := [(Str.ofString "i", .int i ti)]) X T.nolimit ?o ?c ?b ?l hA (fun L h₁ F N dp un fr gd hA' => ?_) ?c2 ?c3 ?c4 ?c5; (case o => k_is); (case c => k_is); (case b => first | exact BindsTo.of_eq rfl | exact binds_K X rfl (by k_is) rfl rfl rfl); (case l => exact locs rfl); (case c2 => exact rfl); (case c3 => exact rfl); (case c4 => exact rfl); (case c5 => decide)))
  dsimp only
  w_strict (k_fold)
  w_strict (k_steps)
  all_goals first
    | ((rename _ = _ * _ => e1; rename Int.natAbs _ ≤ _ => e2; rename Sz _ _ => e3)
       (refine hR _ _ _ _ (Done.ofFr (by assumption) rfl) (newFrac_of (by assumption) (by assumption) (by assumption) (by assumption)) (by assumption) ?_ (Nat.lt_of_le_of_lt e2 (by decide)) (e3.mono (by decide)))
       (simp only [gN, gD])
       ((repeat' split) <;> first | omega | exact e1))
    | ((refine hR _ _ _ _ (Done.ofFr (by assumption) rfl) (newFrac_of (by assumption) (by assumption) (by assumption) (by assumption)) (by decide) ?_ (show Int.natAbs _ < 2 ^ 1 by decide) (show Int.natAbs _ < 2 ^ 40 by decide))
       (simp only [gN, gD])
       ((repeat' split) <;> omega))
theorem adams_code {prog : Program} {w : World} {A : Around} {s : Shared} {R : Result → Shared → Prop} (G : Gnd w s.heap) (hA : Room A 6) {i : Int} {ti : Tok} (i0 : 0 ≤ i) (i1 : i ≤ 8)
    (hR : ∀ v s' n d, Done s s' → NewFrac s.heap s'.heap v n d → 0 < d → n * gD (.adams) i = gN (.adams) i * d → Sz 1 n → Sz 40 d → R (.ok (.ret v)) s') :
    codeAny (model prog w) A (.call (.ref 273) ⟨[.int i ti], []⟩) R s := by
  obtain ⟨X, p, loose, mean, mg, mb, T⟩ := G
  w_on
  w_strict (k_dflt (refine' enter (K := hd.heap_1 w.params) (binds := [(Str.ofString "i", .int i ti)]) X T.nolimit ?o ?c ?b ?l hA (fun L h₁ F N dp un fr gd hA' => ?_) ?c2 ?c3 ?c4 ?c5; (case o => k_is); (case c => k_is); (case b => first | exact BindsTo.of_eq rfl | exact binds_K X rfl (by k_is) rfl rfl rfl); (case l => exact locs rfl); (case c2 => exact rfl); (case c3 => exact rfl); (case c4 => exact rfl); (case c5 => decide)))
  dsimp only
  w_strict (k_fold)
  w_strict (k_steps)
  all_goals first
    | ((rename _ = _ * _ => e1; rename Int.natAbs _ ≤ _ => e2; rename Sz _ _ => e3)
       (refine hR _ _ _ _ (Done.ofFr (by assumption) rfl) (newFrac_of (by assumption) (by assumption) (by assumption) (by assumption)) (by assumption) ?_ (Nat.lt_of_le_of_lt e2 (by decide)) (e3.mono (by decide)))
       (simp only [gN, gD])
       ((repeat' split) <;> first | omega | exact e1))
    | ((refine hR _ _ _ _ (Done.ofFr (by assumption) rfl) (newFrac_of (by assumption) (by assumption) (by assumption) (by assumption)) (by decide) ?_ (show Int.natAbs _ < 2 ^ 1 by decide) (show Int.natAbs _ < 2 ^ 40 by decide))
       (simp only [gN, gD])
       ((repeat' split) <;> omega))
theorem slav_code {prog : Program} {w : World} {A : Around} {s : Shared} {R : Result → Shared → Prop} (G : Gnd w s.heap) (hA : Room A 6) {i : Int} {ti : Tok} (i0 : 0 ≤ i) (i1 : i ≤ 8)
    (hR : ∀ v s' n d, Done s s' → NewFrac s.heap s'.heap v n d → 0 < d → n * gD (.slav) i = gN (.slav) i * d → Sz 1 n → Sz 40 d → R (.ok (.ret v)) s') :
    codeAny (model prog w) A (.call (.ref 280) ⟨[.int i ti], []⟩) R s := by
  obtain ⟨X, p, loose, mean, mg, mb, T⟩ := G
  w_on
  w_strict (k_dflt (refine' enter (K := hd.heap_1 w.params) (binds := [(Str.ofString "i", .int i ti)]) X T.nolimit ?o ?c ?b ?l hA (fun L h₁ F N dp un fr gd hA' => ?_) ?c2 ?c3 ?c4 ?c5; (case o => k_is); (case c => k_is); (case b => first | exact BindsTo.of_eq rfl | exact binds_K X rfl (by k_is) rfl rfl rfl); (case l => exact locs rfl); (case c2 => exact rfl); (case c3 => exact rfl); (case c4 => exact rfl); (case c5 => decide)))
  dsimp only
  w_strict (k_fold)
  w_strict (k_steps)
  all_goals first
    | ((rename _ = _ * _ => e1; rename Int.natAbs _ ≤ _ => e2; rename Sz _ _ => e3)
       (refine hR _ _ _ _ (Done.ofFr (by assumption) rfl) (newFrac_of (by assumption) (by assumption) (by assumption) (by assumption)) (by assumption) ?_ (Nat.lt_of_le_of_lt e2 (by decide)) (e3.mono (by decide)))
       (simp only [gN, gD])
       ((repeat' split) <;> first | omega | exact e1))
    | ((refine hR _ _ _ _ (Done.ofFr (by assumption) rfl) (newFrac_of (by assumption) (by assumption) (by assumption) (by assumption)) (by decide) ?_ (show Int.natAbs _ < 2 ^ 1 by decide) (show Int.natAbs _ < 2 ^ 40 by decide))
       (simp only [gN, gD])
       ((repeat' split) <;> omega))
theorem av_code {prog : Program} {w : World} {A : Around} {s : Shared} {R : Result → Shared → Prop} (G : Gnd w s.heap) (hA : Room A 6) {i : Int} {ti : Tok} (i0 : 0 ≤ i) (i1 : i ≤ 8)
    (hR : ∀ v s' n d, Done s s' → NewFrac s.heap s'.heap v n d → 0 < d → n * gD (.av) i = gN (.av) i * d → Sz 1 n → Sz 40 d → R (.ok (.ret v)) s') :
    codeAny (model prog w) A (.call (.ref 287) ⟨[.int i ti], []⟩) R s := by
  obtain ⟨X, p, loose, mean, mg, mb, T⟩ := G
  w_on
  w_strict (k_dflt (refine' enter (K := hd.heap_1 w.params) (binds := [(Str.ofString "i", .int i ti)]) X T.nolimit ?o ?c ?b ?l hA (fun L h₁ F N dp un fr gd hA' => ?_) ?c2 ?c3 ?c4 ?c5; (case o => k_is); (case c => k_is); (case b => first | exact BindsTo.of_eq rfl | exact binds_K X rfl (by k_is) rfl rfl rfl); (case l => exact locs rfl); (case c2 => exact rfl); (case c3 => exact rfl); (case c4 => exact rfl); (case c5 => decide)))
  dsimp only
  w_strict (k_fold)
  w_strict (k_steps)
  all_goals first
    | ((rename _ = _ * _ => e1; rename Int.natAbs _ ≤ _ => e2; rename Sz _ _ => e3)
       (refine hR _ _ _ _ (Done.ofFr (by assumption) rfl) (newFrac_of (by assumption) (by assumption) (by assumption) (by assumption)) (by assumption) ?_ (Nat.lt_of_le_of_lt e2 (by decide)) (e3.mono (by decide)))
       (simp only [gN, gD])
       ((repeat' split) <;> first | omega | exact e1))
    | ((refine hR _ _ _ _ (Done.ofFr (by assumption) rfl) (newFrac_of (by assumption) (by assumption) (by assumption) (by assumption)) (by decide) ?_ (show Int.natAbs _ < 2 ^ 1 by decide) (show Int.natAbs _ < 2 ^ 40 by decide))
       (simp only [gN, gD])
       ((repeat' split) <;> omega))
theorem cc_code {prog : Program} {w : World} {A : Around} {s : Shared} {R : Result → Shared → Prop} (G : Gnd w s.heap) (hA : Room A 6) {i : Int} {ti : Tok} (i0 : 0 ≤ i) (i1 : i ≤ 8)
    (hR : ∀ v s' n d, Done s s' → NewFrac s.heap s'.heap v n d → 0 < d → n * gD (.cc) i = gN (.cc) i * d → Sz 1 n → Sz 40 d → R (.ok (.ret v)) s') :
    codeAny (model prog w) A (.call (.ref 294) ⟨[.int i ti], []⟩) R s := by
  obtain ⟨X, p, loose, mean, mg, mb, T⟩ := G
  w_on
  w_strict (k_dflt (refine' enter (K := hd.heap_1 w.params) (binds := [(Str.ofString "i", .int i ti)]) X T.nolimit ?o ?c ?b ?l hA (fun L h₁ F N dp un fr gd hA' => ?_) ?c2 ?c3 ?c4 ?c5; (case o => k_is); (case c => k_is); (case b => first | exact BindsTo.of_eq rfl | exact binds_K X rfl (by k_is) rfl rfl rfl); (case l => exact locs rfl); (case c2 => exact rfl); (case c3 => exact rfl); (case c4 => exact rfl); (case c5 => decide)))
  dsimp only
  w_strict (k_fold)
  w_strict (k_steps)
  all_goals first
    | ((rename _ = _ * _ => e1; rename Int.natAbs _ ≤ _ => e2; rename Sz _ _ => e3)
       (refine hR _ _ _ _ (Done.ofFr (by assumption) rfl) (newFrac_of (by assumption) (by assumption) (by assumption) (by assumption)) (by assumption) ?_ (Nat.lt_of_le_of_lt e2 (by decide)) (e3.mono (by decide)))
       (simp only [gN, gD])
       ((repeat' split) <;> first | omega | exact e1))
    | ((refine hR _ _ _ _ (Done.ofFr (by assumption) rfl) (newFrac_of (by assumption) (by assumption) (by assumption) (by assumption)) (by decide) ?_ (show Int.natAbs _ < 2 ^ 1 by decide) (show Int.natAbs _ < 2 ^ 40 by decide))
       (simp only [gN, gD])
       ((repeat' split) <;> omega))
theorem geom_code {prog : Program} {w : World} {A : Around} {s : Shared} {R : Result → Shared → Prop} (G : Gnd w s.heap) (hA : Room A 6) {b : Int} {tb : Tok} (b0 : 2 ≤ b) (b1 : b ≤ 10) {i : Int} {ti : Tok} (i0 : 0 ≤ i) (i1 : i ≤ 8)
    (hR : ∀ v s' n d, Done s s' → NewFrac s.heap s'.heap v n d → 0 < d → n * gD (.geom b) i = gN (.geom b) i * d → Sz 1 n → Sz 40 d → R (.ok (.ret v)) s') :
    codeAny (model prog w) A (.call (.ref 259) ⟨[.int i ti], [(Str.ofString "base", .int b tb)]⟩) R s := by
  obtain ⟨X, p, loose, mean, mg, mb, T⟩ := G
  w_on
  w_strict (k_dflt (refine' enter (K := hd.heap_1 w.params) (binds := [(Str.ofString "i", .int i ti), (Str.ofString "base", .int b tb)]) X T.nolimit ?o ?c ?b ?l hA (fun L h₁ F N dp un fr gd hA' => ?_) ?c2 ?c3 ?c4 ?c5; (case o => k_is); (case c => k_is); (case b => first | exact BindsTo.of_eq rfl | exact binds_K X rfl (by k_is) rfl rfl rfl); (case l => exact locs rfl); (case c2 => exact rfl); (case c3 => exact rfl); (case c4 => exact rfl); (case c5 => decide)))
  dsimp only
  w_strict (k_fold)
  w_strict (k_steps)
  all_goals first
    | ((rename _ = _ * _ => e1; rename Int.natAbs _ ≤ _ => e2; rename Sz _ _ => e3)
       (refine hR _ _ _ _ (Done.ofFr (by assumption) rfl) (newFrac_of (by assumption) (by assumption) (by assumption) (by assumption)) (by assumption) ?_ (Nat.lt_of_le_of_lt e2 (by decide)) (e3.mono (by decide)))
       (simp only [gN, gD])
       ((repeat' split) <;> first | omega | exact e1))
    | ((refine hR _ _ _ _ (Done.ofFr (by assumption) rfl) (newFrac_of (by assumption) (by assumption) (by assumption) (by assumption)) (by decide) ?_ (show Int.natAbs _ < 2 ^ 1 by decide) (show Int.natAbs _ < 2 ^ 40 by decide))
       (simp only [gN, gD])
       ((repeat' split) <;> omega))
theorem atl_code {prog : Program} {w : World} {A : Around} {s : Shared} {R : Result → Shared → Prop} (G : Gnd w s.heap) (hA : Room A 6) {l : Int} {tl : Tok} {i : Int} {ti : Tok} (i0 : 0 ≤ i) (i1 : i ≤ 8)
    (hR : ∀ v s' n d, Done s s' → NewFrac s.heap s'.heap v n d → 0 < d → n * gD (.atl l) i = gN (.atl l) i * d → Sz 1 n → Sz 40 d → R (.ok (.ret v)) s') :
    codeAny (model prog w) A (.call (.ref 301) ⟨[.int i ti], [(Str.ofString "ell", .int l tl)]⟩) R s := by
  obtain ⟨X, p, loose, mean, mg, mb, T⟩ := G
  w_on
  w_strict (k_dflt (refine' enter (K := hd.heap_1 w.params) (binds := [(Str.ofString "i", .int i ti), (Str.ofString "ell", .int l tl)]) X T.nolimit ?o ?c ?b ?l hA (fun L h₁ F N dp un fr gd hA' => ?_) ?c2 ?c3 ?c4 ?c5; (case o => k_is); (case c => k_is); (case b => first | exact BindsTo.of_eq rfl | exact binds_K X rfl (by k_is) rfl rfl rfl); (case l => exact locs rfl); (case c2 => exact rfl); (case c3 => exact rfl); (case c4 => exact rfl); (case c5 => decide)))
  dsimp only
  w_strict (k_fold)
  w_strict (k_steps)
  all_goals first
    | ((rename _ = _ * _ => e1; rename Int.natAbs _ ≤ _ => e2; rename Sz _ _ => e3)
       (refine hR _ _ _ _ (Done.ofFr (by assumption) rfl) (newFrac_of (by assumption) (by assumption) (by assumption) (by assumption)) (by assumption) ?_ (Nat.lt_of_le_of_lt e2 (by decide)) (e3.mono (by decide)))
       (simp only [gN, gD])
       ((repeat' split) <;> first | omega | exact e1))
    | ((refine hR _ _ _ _ (Done.ofFr (by assumption) rfl) (newFrac_of (by assumption) (by assumption) (by assumption) (by assumption)) (by decide) ?_ (show Int.natAbs _ < 2 ^ 1 by decide) (show Int.natAbs _ < 2 ^ 40 by decide))
       (simp only [gN, gD])
       ((repeat' split) <;> omega))
end
theorem words11 : True := by
  k_with_none
  (k_with "ite" => (first | (refine ite_pos (by ((try simp only [beq_iff_eq, bne_iff_ne, decide_eq_true_eq, Bool.not_eq_true', decide_eq_false_iff_not, beq_eq_false_iff_ne, ne_eq]); omega)) ?_) | (refine ite_neg (by ((try simp only [beq_iff_eq, bne_iff_ne, decide_eq_true_eq, Bool.not_eq_true', decide_eq_false_iff_not, beq_eq_false_iff_ne, ne_eq]); omega)) ?_)))
  (k_with "binaryOp FloorDiv int int" => ((k_dflt (refine' floordiv_int ?h1_q ?_ (Or.inl (PyProof.noPylong_of_log2 ?h2_q)); (case h1_q => omega); (case h2_q => first | assumption | exact Sz.log (by assumption))))))
  (k_with "binaryOp Mult int int" => ((k_dflt (refine' mul_int ?_ ?hm_q; (case hm_q => exact Sz.ok (by with_reducible assumption) (by with_reducible assumption) (by omega))))))
  (k_with "call ref" => (((with_reducible show wpAny _ _ (call (Value.ref 182) [Value.int _ _, Value.int _ _]) _ _ _); k_dflt (refine' frac_k ?F_q ?N_q ?X_q ?T_q ?A_q ?b_q ?z_q ?k_q ?_; (case F_q => k_asm); (case N_q => k_asm); (case X_q => k_asm); (case T_q => k_asm); (case A_q => exact Room.le (by assumption) (by decide)); (case b_q => first | assumption | omega | (exact Int.mul_pos (by assumption) (by assumption))); (case z_q => first | assumption | exact Sz.mul (by assumption) (by assumption)); (case k_q => omega)); intro _ _ _ _ _ _ _ _ _ _ _ _ _ _ _ _ _ _ _ _ _)))
  (k_with "binaryOp Pow int int" => ((k_dflt (refine' pow_int_small ?h1_q ?h2_q ?h3_q ?_; (case h1_q => omega); (case h2_q => omega); (case h3_q => omega)))))
  (k_with "call ref" => (((with_reducible show wpAny _ _ (call (Value.ref 182) [Value.int _ _]) _ _ _); k_dflt (refine' frac1_k ?F_q ?N_q ?X_q ?T_q ?A_q ?_; (case F_q => k_asm); (case N_q => k_asm); (case X_q => k_asm); (case T_q => k_asm); (case A_q => exact Room.le (by assumption) (by decide))); intro _ _ _ _ _ _ _ _ _ _ _ _ _ _ _)))
  trivial
section
noncomputable def fnName : Fn → Str
  | .pav => Str.ofString "pav"
  | .adams => Str.ofString "adams"
  | .slav => Str.ofString "slav"
  | .cc => Str.ofString "cc"
  | .av => Str.ofString "av"
  | .geom _ => Str.ofString "geom"
  | .atl _ => Str.ofString "atleast"
noncomputable def FnParam : Fn → Value → Prop
  | .geom b, v => 2 ≤ b ∧ b ≤ 10 ∧ ∃ t, v = .int b t
  | .atl l, v => ∃ t, v = .int l t
  | _, v => v = .none
noncomputable def IsFn (h : Heap) (v : Value) (f : Fn) : Prop :=
  ∃ x dx hs1 hs2 t1 t2 t3 pv, v = .ref x ∧ h.get? x = some (instObj 233 dx) ∧ h.get? dx = some (dictOf [⟨hs1, .str (Str.ofString "name") t1, .str (fnName f) t2⟩, ⟨hs2, .str (Str.ofString "param") t3, pv⟩] 2) ∧ FnParam f pv
theorem IsFn.keep {h h' : Heap} {v : Value} {f : Fn} (x : IsFn h v f) (k : ∀ b o, h.get? b = some o → h'.get? b = some o) : IsFn h' v f := by
  (refine xa_8_4 (x) ?_; intro a dx hs1 hs2 t1 t2 t3 pv e h1 h2 h3; (try clear x))
  exact ⟨a, dx, hs1, hs2, t1, t2, t3, pv, e, k _ _ h1, k _ _ h2, h3⟩
noncomputable def FnP (f : Fn) (i n d : Int) : Prop := 0 < d ∧ n * gD f i = gN f i * d ∧ Sz 1 n ∧ Sz 40 d
theorem words12 : True := by
  (k_with "call ref" => (((with_reducible show wpAny _ _ (call (Value.ref 266) _ _) _ _ _); k_dflt (refine' liftF ?F_q ?N_q ?X_q ?T_q (FnP .pav _) (fun R hR => pav_code ⟨Frag.In.keeps (by k_asm) (Fr.keep (by k_asm)), _, _, _, _, _, Top.keeps (by k_asm) (Fr.keep (by k_asm))⟩ (Room.le (by assumption) (by decide)) (by assumption) (by assumption) (fun v s' n d D NF a b c e => hR v s' n d D NF ⟨a, b, c, e⟩)) ?_; (case F_q => k_asm); (case N_q => k_asm); (case X_q => k_asm); (case T_q => k_asm)); intro _ _ _ _ _ _ _ _ _ _ _ _ _ _ _ _ _ _)))
  trivial
theorem call_pav {prog : Program} {w : World} {A : Around} {s : Shared} {R : Result → Shared → Prop} (G : Gnd w s.heap) (hA : Room A 8) {x dx : Addr} {hs1 hs2 : Int} {t1 t2 t3 : Tok} (g1 : s.heap.get? x = some (instObj 233 dx)) (g2 : s.heap.get? dx = some (dictOf [⟨hs1, .str (Str.ofString "name") t1, .str (Str.ofString "pav") t2⟩, ⟨hs2, .str (Str.ofString "param") t3, .none⟩] 2))
    {i : Int} {ti : Tok} (i0 : 0 ≤ i) (i1 : i ≤ 8)
    (hR : ∀ v s' n d, Done s s' → NewFrac s.heap s'.heap v n d → FnP .pav i n d → R (.ok (.ret v)) s') :
    codeAny (model prog w) A (.call (.ref 230) ⟨[.ref x, .int i ti], []⟩) R s := by
  obtain ⟨X, p, loose, mean, mg, mb, T⟩ := G
  w_on
  w_strict (k_dflt (refine' enter (K := hd.heap_1 w.params) (binds := [(Str.ofString "self", .ref x), (Str.ofString "i", .int i ti)]) X T.nolimit ?o ?c ?b ?l hA (fun L h₁ F N dp un fr gd hA' => ?_) ?c2 ?c3 ?c4 ?c5; (case o => k_is); (case c => k_is); (case b => first | exact BindsTo.of_eq rfl | exact binds_K X rfl (by k_is) rfl rfl rfl); (case l => exact locs rfl); (case c2 => exact rfl); (case c3 => exact rfl); (case c4 => exact rfl); (case c5 => decide)))
  dsimp only
  w_strict (k_fold)
  w_strict (k_steps)
  exact hR _ _ _ _ (Done.ofFr (by assumption) rfl) (newFrac_of (by assumption) (by assumption) (by assumption) (by assumption)) (by assumption)
theorem words13 : True := by
  (k_with "call ref" => (((with_reducible show wpAny _ _ (call (Value.ref 273) _ _) _ _ _); k_dflt (refine' liftF ?F_q ?N_q ?X_q ?T_q (FnP .adams _) (fun R hR => adams_code ⟨Frag.In.keeps (by k_asm) (Fr.keep (by k_asm)), _, _, _, _, _, Top.keeps (by k_asm) (Fr.keep (by k_asm))⟩ (Room.le (by assumption) (by decide)) (by assumption) (by assumption) (fun v s' n d D NF a b c e => hR v s' n d D NF ⟨a, b, c, e⟩)) ?_; (case F_q => k_asm); (case N_q => k_asm); (case X_q => k_asm); (case T_q => k_asm)); intro _ _ _ _ _ _ _ _ _ _ _ _ _ _ _ _ _ _)))
  trivial
theorem call_adams {prog : Program} {w : World} {A : Around} {s : Shared} {R : Result → Shared → Prop} (G : Gnd w s.heap) (hA : Room A 8) {x dx : Addr} {hs1 hs2 : Int} {t1 t2 t3 : Tok} (g1 : s.heap.get? x = some (instObj 233 dx)) (g2 : s.heap.get? dx = some (dictOf [⟨hs1, .str (Str.ofString "name") t1, .str (Str.ofString "adams") t2⟩, ⟨hs2, .str (Str.ofString "param") t3, .none⟩] 2))
    {i : Int} {ti : Tok} (i0 : 0 ≤ i) (i1 : i ≤ 8)
    (hR : ∀ v s' n d, Done s s' → NewFrac s.heap s'.heap v n d → FnP .adams i n d → R (.ok (.ret v)) s') :
    codeAny (model prog w) A (.call (.ref 230) ⟨[.ref x, .int i ti], []⟩) R s := by
  obtain ⟨X, p, loose, mean, mg, mb, T⟩ := G
  w_on
  w_strict (k_dflt (refine' enter (K := hd.heap_1 w.params) (binds := [(Str.ofString "self", .ref x), (Str.ofString "i", .int i ti)]) X T.nolimit ?o ?c ?b ?l hA (fun L h₁ F N dp un fr gd hA' => ?_) ?c2 ?c3 ?c4 ?c5; (case o => k_is); (case c => k_is); (case b => first | exact BindsTo.of_eq rfl | exact binds_K X rfl (by k_is) rfl rfl rfl); (case l => exact locs rfl); (case c2 => exact rfl); (case c3 => exact rfl); (case c4 => exact rfl); (case c5 => decide)))
  dsimp only
  w_strict (k_fold)
  w_strict (k_steps)
  exact hR _ _ _ _ (Done.ofFr (by assumption) rfl) (newFrac_of (by assumption) (by assumption) (by assumption) (by assumption)) (by assumption)
theorem words14 : True := by
  (k_with "call ref" => (((with_reducible show wpAny _ _ (call (Value.ref 280) _ _) _ _ _); k_dflt (refine' liftF ?F_q ?N_q ?X_q ?T_q (FnP .slav _) (fun R hR => slav_code ⟨Frag.In.keeps (by k_asm) (Fr.keep (by k_asm)), _, _, _, _, _, Top.keeps (by k_asm) (Fr.keep (by k_asm))⟩ (Room.le (by assumption) (by decide)) (by assumption) (by assumption) (fun v s' n d D NF a b c e => hR v s' n d D NF ⟨a, b, c, e⟩)) ?_; (case F_q => k_asm); (case N_q => k_asm); (case X_q => k_asm); (case T_q => k_asm)); intro _ _ _ _ _ _ _ _ _ _ _ _ _ _ _ _ _ _)))
  trivial
theorem call_slav {prog : Program} {w : World} {A : Around} {s : Shared} {R : Result → Shared → Prop} (G : Gnd w s.heap) (hA : Room A 8) {x dx : Addr} {hs1 hs2 : Int} {t1 t2 t3 : Tok} (g1 : s.heap.get? x = some (instObj 233 dx)) (g2 : s.heap.get? dx = some (dictOf [⟨hs1, .str (Str.ofString "name") t1, .str (Str.ofString "slav") t2⟩, ⟨hs2, .str (Str.ofString "param") t3, .none⟩] 2))
    {i : Int} {ti : Tok} (i0 : 0 ≤ i) (i1 : i ≤ 8)
    (hR : ∀ v s' n d, Done s s' → NewFrac s.heap s'.heap v n d → FnP .slav i n d → R (.ok (.ret v)) s') :
    codeAny (model prog w) A (.call (.ref 230) ⟨[.ref x, .int i ti], []⟩) R s := by
  obtain ⟨X, p, loose, mean, mg, mb, T⟩ := G
  w_on
  w_strict (k_dflt (refine' enter (K := hd.heap_1 w.params) (binds := [(Str.ofString "self", .ref x), (Str.ofString "i", .int i ti)]) X T.nolimit ?o ?c ?b ?l hA (fun L h₁ F N dp un fr gd hA' => ?_) ?c2 ?c3 ?c4 ?c5; (case o => k_is); (case c => k_is); (case b => first | exact BindsTo.of_eq rfl | exact binds_K X rfl (by k_is) rfl rfl rfl); (case l => exact locs rfl); (case c2 => exact rfl); (case c3 => exact rfl); (case c4 => exact rfl); (case c5 => decide)))
  dsimp only
  w_strict (k_fold)
  w_strict (k_steps)
  exact hR _ _ _ _ (Done.ofFr (by assumption) rfl) (newFrac_of (by assumption) (by assumption) (by assumption) (by assumption)) (by assumption)
theorem words15 : True := by
  (k_with "call ref" => (((with_reducible show wpAny _ _ (call (Value.ref 294) _ _) _ _ _); k_dflt (refine' liftF ?F_q ?N_q ?X_q ?T_q (FnP .cc _) (fun R hR => cc_code ⟨Frag.In.keeps (by k_asm) (Fr.keep (by k_asm)), _, _, _, _, _, Top.keeps (by k_asm) (Fr.keep (by k_asm))⟩ (Room.le (by assumption) (by decide)) (by assumption) (by assumption) (fun v s' n d D NF a b c e => hR v s' n d D NF ⟨a, b, c, e⟩)) ?_; (case F_q => k_asm); (case N_q => k_asm); (case X_q => k_asm); (case T_q => k_asm)); intro _ _ _ _ _ _ _ _ _ _ _ _ _ _ _ _ _ _)))
  trivial
theorem call_cc {prog : Program} {w : World} {A : Around} {s : Shared} {R : Result → Shared → Prop} (G : Gnd w s.heap) (hA : Room A 8) {x dx : Addr} {hs1 hs2 : Int} {t1 t2 t3 : Tok} (g1 : s.heap.get? x = some (instObj 233 dx)) (g2 : s.heap.get? dx = some (dictOf [⟨hs1, .str (Str.ofString "name") t1, .str (Str.ofString "cc") t2⟩, ⟨hs2, .str (Str.ofString "param") t3, .none⟩] 2))
    {i : Int} {ti : Tok} (i0 : 0 ≤ i) (i1 : i ≤ 8)
    (hR : ∀ v s' n d, Done s s' → NewFrac s.heap s'.heap v n d → FnP .cc i n d → R (.ok (.ret v)) s') :
    codeAny (model prog w) A (.call (.ref 230) ⟨[.ref x, .int i ti], []⟩) R s := by
  obtain ⟨X, p, loose, mean, mg, mb, T⟩ := G
  w_on
  w_strict (k_dflt (refine' enter (K := hd.heap_1 w.params) (binds := [(Str.ofString "self", .ref x), (Str.ofString "i", .int i ti)]) X T.nolimit ?o ?c ?b ?l hA (fun L h₁ F N dp un fr gd hA' => ?_) ?c2 ?c3 ?c4 ?c5; (case o => k_is); (case c => k_is); (case b => first | exact BindsTo.of_eq rfl | exact binds_K X rfl (by k_is) rfl rfl rfl); (case l => exact locs rfl); (case c2 => exact rfl); (case c3 => exact rfl); (case c4 => exact rfl); (case c5 => decide)))
  dsimp only
  w_strict (k_fold)
  w_strict (k_steps)
  exact hR _ _ _ _ (Done.ofFr (by assumption) rfl) (newFrac_of (by assumption) (by assumption) (by assumption) (by assumption)) (by assumption)
theorem words16 : True := by
  (k_with "call ref" => (((with_reducible show wpAny _ _ (call (Value.ref 287) _ _) _ _ _); k_dflt (refine' liftF ?F_q ?N_q ?X_q ?T_q (FnP .av _) (fun R hR => av_code ⟨Frag.In.keeps (by k_asm) (Fr.keep (by k_asm)), _, _, _, _, _, Top.keeps (by k_asm) (Fr.keep (by k_asm))⟩ (Room.le (by assumption) (by decide)) (by assumption) (by assumption) (fun v s' n d D NF a b c e => hR v s' n d D NF ⟨a, b, c, e⟩)) ?_; (case F_q => k_asm); (case N_q => k_asm); (case X_q => k_asm); (case T_q => k_asm)); intro _ _ _ _ _ _ _ _ _ _ _ _ _ _ _ _ _ _)))
  trivial
theorem call_av {prog : Program} {w : World} {A : Around} {s : Shared} {R : Result → Shared → Prop} (G : Gnd w s.heap) (hA : Room A 8) {x dx : Addr} {hs1 hs2 : Int} {t1 t2 t3 : Tok} (g1 : s.heap.get? x = some (instObj 233 dx)) (g2 : s.heap.get? dx = some (dictOf [⟨hs1, .str (Str.ofString "name") t1, .str (Str.ofString "av") t2⟩, ⟨hs2, .str (Str.ofString "param") t3, .none⟩] 2))
    {i : Int} {ti : Tok} (i0 : 0 ≤ i) (i1 : i ≤ 8)
    (hR : ∀ v s' n d, Done s s' → NewFrac s.heap s'.heap v n d → FnP .av i n d → R (.ok (.ret v)) s') :
    codeAny (model prog w) A (.call (.ref 230) ⟨[.ref x, .int i ti], []⟩) R s := by
  obtain ⟨X, p, loose, mean, mg, mb, T⟩ := G
  w_on
  w_strict (k_dflt (refine' enter (K := hd.heap_1 w.params) (binds := [(Str.ofString "self", .ref x), (Str.ofString "i", .int i ti)]) X T.nolimit ?o ?c ?b ?l hA (fun L h₁ F N dp un fr gd hA' => ?_) ?c2 ?c3 ?c4 ?c5; (case o => k_is); (case c => k_is); (case b => first | exact BindsTo.of_eq rfl | exact binds_K X rfl (by k_is) rfl rfl rfl); (case l => exact locs rfl); (case c2 => exact rfl); (case c3 => exact rfl); (case c4 => exact rfl); (case c5 => decide)))
  dsimp only
  w_strict (k_fold)
  w_strict (k_steps)
  exact hR _ _ _ _ (Done.ofFr (by assumption) rfl) (newFrac_of (by assumption) (by assumption) (by assumption) (by assumption)) (by assumption)
theorem words17 : True := by
  (k_with "call ref" => (((with_reducible show wpAny _ _ (call (Value.ref 259) _ _) _ _ _); k_dflt (refine' liftF ?F_q ?N_q ?X_q ?T_q (FnP (.geom _) _) (fun R hR => geom_code ⟨Frag.In.keeps (by k_asm) (Fr.keep (by k_asm)), _, _, _, _, _, Top.keeps (by k_asm) (Fr.keep (by k_asm))⟩ (Room.le (by assumption) (by decide)) (by assumption) (by assumption) (by assumption) (by assumption) (fun v s' n d D NF a b c e => hR v s' n d D NF ⟨a, b, c, e⟩)) ?_; (case F_q => k_asm); (case N_q => k_asm); (case X_q => k_asm); (case T_q => k_asm)); intro _ _ _ _ _ _ _ _ _ _ _ _ _ _ _ _ _ _)))
  trivial
theorem call_geom {prog : Program} {w : World} {A : Around} {s : Shared} {R : Result → Shared → Prop} (G : Gnd w s.heap) (hA : Room A 8) {b : Int} {tb : Tok} (b0 : 2 ≤ b) (b1 : b ≤ 10) {x dx : Addr} {hs1 hs2 : Int} {t1 t2 t3 : Tok} (g1 : s.heap.get? x = some (instObj 233 dx)) (g2 : s.heap.get? dx = some (dictOf [⟨hs1, .str (Str.ofString "name") t1, .str (Str.ofString "geom") t2⟩, ⟨hs2, .str (Str.ofString "param") t3, .int b tb⟩] 2))
    {i : Int} {ti : Tok} (i0 : 0 ≤ i) (i1 : i ≤ 8)
    (hR : ∀ v s' n d, Done s s' → NewFrac s.heap s'.heap v n d → FnP (.geom b) i n d → R (.ok (.ret v)) s') :
    codeAny (model prog w) A (.call (.ref 230) ⟨[.ref x, .int i ti], []⟩) R s := by
  obtain ⟨X, p, loose, mean, mg, mb, T⟩ := G
  w_on
  w_strict (k_dflt (refine' enter (K := hd.heap_1 w.params) (binds := [(Str.ofString "self", .ref x), (Str.ofString "i", .int i ti)]) X T.nolimit ?o ?c ?b ?l hA (fun L h₁ F N dp un fr gd hA' => ?_) ?c2 ?c3 ?c4 ?c5; (case o => k_is); (case c => k_is); (case b => first | exact BindsTo.of_eq rfl | exact binds_K X rfl (by k_is) rfl rfl rfl); (case l => exact locs rfl); (case c2 => exact rfl); (case c3 => exact rfl); (case c4 => exact rfl); (case c5 => decide)))
  dsimp only
  w_strict (k_fold)
  w_strict (k_steps)
  exact hR _ _ _ _ (Done.ofFr (by assumption) rfl) (newFrac_of (by assumption) (by assumption) (by assumption) (by assumption)) (by assumption)
theorem words18 : True := by
  (k_with "call ref" => (((with_reducible show wpAny _ _ (call (Value.ref 301) _ _) _ _ _); k_dflt (refine' liftF ?F_q ?N_q ?X_q ?T_q (FnP (.atl _) _) (fun R hR => atl_code ⟨Frag.In.keeps (by k_asm) (Fr.keep (by k_asm)), _, _, _, _, _, Top.keeps (by k_asm) (Fr.keep (by k_asm))⟩ (Room.le (by assumption) (by decide)) (by assumption) (by assumption) (fun v s' n d D NF a b c e => hR v s' n d D NF ⟨a, b, c, e⟩)) ?_; (case F_q => k_asm); (case N_q => k_asm); (case X_q => k_asm); (case T_q => k_asm)); intro _ _ _ _ _ _ _ _ _ _ _ _ _ _ _ _ _ _)))
  trivial
theorem call_atl {prog : Program} {w : World} {A : Around} {s : Shared} {R : Result → Shared → Prop} (G : Gnd w s.heap) (hA : Room A 8) {l : Int} {tl : Tok} {x dx : Addr} {hs1 hs2 : Int} {t1 t2 t3 : Tok} (g1 : s.heap.get? x = some (instObj 233 dx)) (g2 : s.heap.get? dx = some (dictOf [⟨hs1, .str (Str.ofString "name") t1, .str (Str.ofString "atleast") t2⟩, ⟨hs2, .str (Str.ofString "param") t3, .int l tl⟩] 2))
    {i : Int} {ti : Tok} (i0 : 0 ≤ i) (i1 : i ≤ 8)
    (hR : ∀ v s' n d, Done s s' → NewFrac s.heap s'.heap v n d → FnP (.atl l) i n d → R (.ok (.ret v)) s') :
    codeAny (model prog w) A (.call (.ref 230) ⟨[.ref x, .int i ti], []⟩) R s := by
  obtain ⟨X, p, loose, mean, mg, mb, T⟩ := G
  w_on
  w_strict (k_dflt (refine' enter (K := hd.heap_1 w.params) (binds := [(Str.ofString "self", .ref x), (Str.ofString "i", .int i ti)]) X T.nolimit ?o ?c ?b ?l hA (fun L h₁ F N dp un fr gd hA' => ?_) ?c2 ?c3 ?c4 ?c5; (case o => k_is); (case c => k_is); (case b => first | exact BindsTo.of_eq rfl | exact binds_K X rfl (by k_is) rfl rfl rfl); (case l => exact locs rfl); (case c2 => exact rfl); (case c3 => exact rfl); (case c4 => exact rfl); (case c5 => decide)))
  dsimp only
  w_strict (k_fold)
  w_strict (k_steps)
  exact hR _ _ _ _ (Done.ofFr (by assumption) rfl) (newFrac_of (by assumption) (by assumption) (by assumption) (by assumption)) (by assumption)
end
theorem words19 : True := by
  k_with_none
  (k_with "ite" => (first | (refine ite_pos (by ((try simp only [beq_iff_eq, bne_iff_ne, decide_eq_true_eq, Bool.not_eq_true', decide_eq_false_iff_not, beq_eq_false_iff_ne, ne_eq]); omega)) ?_) | (refine ite_neg (by ((try simp only [beq_iff_eq, bne_iff_ne, decide_eq_true_eq, Bool.not_eq_true', decide_eq_false_iff_not, beq_eq_false_iff_ne, ne_eq]); omega)) ?_)))
  (k_with "binaryOp FloorDiv int int" => ((k_dflt (refine' floordiv_int ?h1_q ?_ (Or.inl (PyProof.noPylong_of_log2 ?h2_q)); (case h1_q => omega); (case h2_q => first | assumption | exact Sz.log (by assumption))))))
  (k_with "binaryOp Mult int int" => ((k_dflt (refine' mul_int ?_ ?hm_q; (case hm_q => exact Sz.ok (by with_reducible assumption) (by with_reducible assumption) (by omega))))))
  (k_with "call ref" => (((with_reducible show wpAny _ _ (call (Value.ref 182) [Value.int _ _, Value.int _ _]) _ _ _); k_dflt (refine' frac_k ?F_q ?N_q ?X_q ?T_q ?A_q ?b_q ?z_q ?k_q ?_; (case F_q => k_asm); (case N_q => k_asm); (case X_q => k_asm); (case T_q => k_asm); (case A_q => exact Room.le (by assumption) (by decide)); (case b_q => first | assumption | omega | (exact Int.mul_pos (by assumption) (by assumption))); (case z_q => first | assumption | exact Sz.mul (by assumption) (by assumption)); (case k_q => omega)); intro _ _ _ _ _ _ _ _ _ _ _ _ _ _ _ _ _ _ _ _ _)))
  (k_with "binaryOp Pow int int" => ((k_dflt (refine' pow_int_small ?h1_q ?h2_q ?h3_q ?_; (case h1_q => omega); (case h2_q => omega); (case h3_q => omega)))))
  (k_with "call ref" => (((with_reducible show wpAny _ _ (call (Value.ref 182) [Value.int _ _]) _ _ _); k_dflt (refine' frac1_k ?F_q ?N_q ?X_q ?T_q ?A_q ?_; (case F_q => k_asm); (case N_q => k_asm); (case X_q => k_asm); (case T_q => k_asm); (case A_q => exact Room.le (by assumption) (by decide))); intro _ _ _ _ _ _ _ _ _ _ _ _ _ _ _)))
  trivial
section
/-- a score function that a call made -/
noncomputable def NewFn (h h' : Heap) (v : Value) (f : Fn) : Prop :=
  ∃ x dx hs1 hs2 t1 t2 t3 pv, v = .ref x ∧ @LE.le Nat _ h.objs.size dx ∧ @LT.lt Nat _ dx x ∧ h'.get? x = some (instObj 233 dx) ∧ h'.get? dx = some (dictOf [⟨hs1, .str (Str.ofString "name") t1, .str (fnName f) t2⟩, ⟨hs2, .str (Str.ofString "param") t3, pv⟩] 2) ∧ FnParam f pv
theorem NewFn.is {h h' : Heap} {v : Value} {f : Fn} (x : NewFn h h' v f) : IsFn h' v f := by
  (refine xa_8_6 (x) ?_; intro a dx hs1 hs2 t1 t2 t3 pv e _ _ h1 h2 h3; (try clear x))
  exact ⟨a, dx, hs1, hs2, t1, t2, t3, pv, e, h1, h2, h3⟩
theorem fn_call {prog : Program} {w : World} {A : Around} {s : Shared} {R : Result → Shared → Prop} (G : Gnd w s.heap) (hA : Room A 8) {v : Value} {f : Fn} (hv : IsFn s.heap v f) {i : Int} {ti : Tok} (i0 : 0 ≤ i) (i1 : i ≤ 8)
    (hR : ∀ v s' n d, Done s s' → NewFrac s.heap s'.heap v n d → FnP f i n d → R (.ok (.ret v)) s') :
    codeAny (model prog w) A (.call v ⟨[.int i ti], []⟩) R s := by
  refine Classical.byContradiction fun hg9 => ?_
  (refine xa_8_4 (hv) ?_; intro x dx hs1 hs2 t1 t2 t3 pv r98 g1 g2 g3; (try clear hv))
  subst r98
  refine hg9 ?_
  clear hg9
  have I : InstAt s.heap x (instObj 233 dx) 233 (some (dictOf [⟨hs1, .str (Str.ofString "name") t1, .str (fnName f) t2⟩, ⟨hs2, .str (Str.ofString "param") t3, pv⟩] 2)) := ⟨g1, rfl, rfl, g2⟩
  k_dflt (refine' kco_code (K := hd.heap_1 w.params) (C := 233) (f := 230) ?k1 I ?k3 ?k4 ?k5 ?k6 ?_; (case k1 => exact G.1); (case k3 => rfl); (case k4 => k_is); (case k5 => k_is); (case k6 => k_is))
  cases f with
  | pav => obtain rfl : pv = .none := g3; exact call_pav G hA g1 g2 i0 i1 hR
  | adams => obtain rfl : pv = .none := g3; exact call_adams G hA g1 g2 i0 i1 hR
  | slav => obtain rfl : pv = .none := g3; exact call_slav G hA g1 g2 i0 i1 hR
  | cc => obtain rfl : pv = .none := g3; exact call_cc G hA g1 g2 i0 i1 hR
  | av => obtain rfl : pv = .none := g3; exact call_av G hA g1 g2 i0 i1 hR
  | geom b => obtain ⟨b0, b1, tb, rfl⟩ := g3; exact call_geom G hA b0 b1 g1 g2 i0 i1 hR
  | atl l => obtain ⟨tl, rfl⟩ := g3; exact call_atl G hA g1 g2 i0 i1 hR
theorem mk_fn1 {prog : Program} {w : World} {A : Around} {s : Shared} {R : Result → Shared → Prop} (G : Gnd w s.heap) (hA : Room A 4) {f : Fn} {t : Tok} (hf : FnParam f .none)
    (hR : ∀ v s', Done s s' → NewFn s.heap s'.heap v f → R (.ok (.ret v)) s') :
    codeAny (model prog w) A (.call (.ref 233) ⟨[.str (fnName f) t], []⟩) R s := by
  obtain ⟨X, p, loose, mean, mg, mb, T⟩ := G
  w_on
  w_strict (k_dflt (refine' make (K := hd.heap_1 w.params) (fI := 223) (binds := fun x => [(Str.ofString "self", .ref x), (Str.ofString "name", .str (fnName f) t), (Str.ofString "param", .none)]) X T.nolimit ?m ?i ?f ?o ?c hA ?b ?l (fun x dx L h₁ F N l0 l1 l2 dp un fr gd hA' => ?_) ?c2 ?c3 ?c4 ?c5; (case m => k_is); (case i => k_is); (case f => k_is); (case o => k_is); (case c => k_is); (case b => (intro x9 s9 X9; first | exact BindsTo.of_eq rfl | exact binds_K X9 rfl (by k_is) rfl rfl rfl)); (case l => (intro x9; exact locs rfl)); (case c2 => exact rfl); (case c3 => exact rfl); (case c4 => exact rfl); (case c5 => decide)))
  dsimp only
  w_strict (k_fold)
  w_strict (k_steps)
  rename News _ _ _ _ => N2
  exact hR _ _ (Done.ofFr (by assumption) rfl) ⟨x, dx, _, _, _, _, _, _, rfl, l0, l1, (N2 _ (.head _)).1, (N2 _ (.tail _ (.head _))).1, hf⟩
theorem mk_fn2 {prog : Program} {w : World} {A : Around} {s : Shared} {R : Result → Shared → Prop} (G : Gnd w s.heap) (hA : Room A 4) {f : Fn} {b : Int} {t tb : Tok} (hf : FnParam f (.int b tb))
    (hR : ∀ v s', Done s s' → NewFn s.heap s'.heap v f → R (.ok (.ret v)) s') :
    codeAny (model prog w) A (.call (.ref 233) ⟨[.str (fnName f) t, .int b tb], []⟩) R s := by
  obtain ⟨X, p, loose, mean, mg, mb, T⟩ := G
  w_on
  w_strict (k_dflt (refine' make (K := hd.heap_1 w.params) (fI := 223) (binds := fun x => [(Str.ofString "self", .ref x), (Str.ofString "name", .str (fnName f) t), (Str.ofString "param", .int b tb)]) X T.nolimit ?m ?i ?f ?o ?c hA ?b ?l (fun x dx L h₁ F N l0 l1 l2 dp un fr gd hA' => ?_) ?c2 ?c3 ?c4 ?c5; (case m => k_is); (case i => k_is); (case f => k_is); (case o => k_is); (case c => k_is); (case b => (intro x9 s9 X9; first | exact BindsTo.of_eq rfl | exact binds_K X9 rfl (by k_is) rfl rfl rfl)); (case l => (intro x9; exact locs rfl)); (case c2 => exact rfl); (case c3 => exact rfl); (case c4 => exact rfl); (case c5 => decide)))
  dsimp only
  w_strict (k_fold)
  w_strict (k_steps)
  rename News _ _ _ _ => N2
  exact hR _ _ (Done.ofFr (by assumption) rfl) ⟨x, dx, _, _, _, _, _, _, rfl, l0, l1, (N2 _ (.head _)).1, (N2 _ (.tail _ (.head _))).1, hf⟩
theorem liftFn {prog : Program} {w : World} {A : Around} {s : Shared} {h₀ : Heap} {L : Addr} {m mg mb : Str → Option Value} {news : List (Addr × Obj)} {p : Program} {loose : List Str} {mean : ExcName → Option Value} {Q : Value → Shared → Prop} {E : Value → Shared → Prop} (F : Fr h₀ L s.heap m) (N : News h₀ L s.heap news) (X : (hd.heap_1 w.params).In h₀) (T : Top p loose mean mg mb h₀) {f : Value} {vs : List Value} {kw : List (Str × Value)} (g : Fn)
    (C : ∀ R : Result → Shared → Prop, (∀ v s', Done s s' → NewFn s.heap s'.heap v g → R (.ok (.ret v)) s') → codeAny (model prog w) A (.call f ⟨vs, kw⟩) R s)
    (h : ∀ x dx h' tk hs1 hs2 t1 t2 t3 pv, Fr h₀ L h' m → News h₀ L h' ((x, instObj 233 dx) :: (dx, dictOf [⟨hs1, .str (Str.ofString "name") t1, .str (fnName g) t2⟩, ⟨hs2, .str (Str.ofString "param") t3, pv⟩] 2) :: news) → (∀ p ∈ news, p.1 < dx) → @LT.lt Nat _ dx x → @LT.lt Nat _ L dx →
      FnParam g pv → Q (.ref x) { s with heap := h', toks := tk }) :
    wpAny (model prog w) A (call f vs kw) Q E s := by
  refine call_of (C _ fun v s' D NF => ?_)
  refine Classical.byContradiction fun hg9 => ?_
  (refine xa_8_6 (NF) ?_; intro x dx hs1 hs2 t1 t2 t3 pv r98 g1 g2 g3 g4 g5; (try clear NF))
  subst r98
  refine hg9 ?_
  clear hg9
  have F' := F.after D.keep
  have N' := newsAfter N D.keep
  have e := D.is
  dsimp only
  rw [e]
  exact h x dx _ _ hs1 hs2 t1 t2 t3 pv F' (newsFresh1 F (newsFresh1 F N' g1 g4) (Nat.le_trans g1 (Nat.le_of_lt g2)) g3) (fun p hp => Nat.lt_of_lt_of_le (Heap.lt_size (N p hp).1) g1) g2 (Nat.lt_of_lt_of_le F.ns.lt g1) g5
end
section
theorem newFn_of {h₀ h' : Heap} {L : Addr} {m : Str → Option Value} {news : List (Addr × Obj)} {x dx : Addr} {hs1 hs2 : Int} {t1 t2 t3 : Tok} {pv : Value} {f : Fn} (F : Fr h₀ L h' m)
    (N : News h₀ L h' ((x, instObj 233 dx) :: (dx, dictOf [⟨hs1, .str (Str.ofString "name") t1, .str (fnName f) t2⟩, ⟨hs2, .str (Str.ofString "param") t3, pv⟩] 2) :: news)) (l1 : @LT.lt Nat _ dx x) (lL : @LT.lt Nat _ L dx) (hp : FnParam f pv) : NewFn h₀ h' (.ref x) f :=
  ⟨x, dx, _, _, _, _, _, _, rfl, Nat.le_of_lt (Nat.lt_of_le_of_lt F.above lL), l1, (N _ (.head _)).1, (N _ (.tail _ (.head _))).1, hp⟩
theorem words20 : True := by
  (k_with "call ref" => (((with_reducible show wpAny _ _ (call (Value.ref 233) [Value.str _ _]) _ _ _); k_dflt (first | (refine' liftFn ?F_q ?N_q ?X_q ?T_q .pav (fun R hR => mk_fn1 (f := .pav) ⟨Frag.In.keeps (by k_asm) (Fr.keep (by k_asm)), _, _, _, _, _, Top.keeps (by k_asm) (Fr.keep (by k_asm))⟩ (Room.le (by assumption) (by decide)) rfl hR) ?_; (case F_q => k_asm); (case N_q => k_asm); (case X_q => k_asm); (case T_q => k_asm)) | (refine' liftFn ?F_q ?N_q ?X_q ?T_q .adams (fun R hR => mk_fn1 (f := .adams) ⟨Frag.In.keeps (by k_asm) (Fr.keep (by k_asm)), _, _, _, _, _, Top.keeps (by k_asm) (Fr.keep (by k_asm))⟩ (Room.le (by assumption) (by decide)) rfl hR) ?_; (case F_q => k_asm); (case N_q => k_asm); (case X_q => k_asm); (case T_q => k_asm)) | (refine' liftFn ?F_q ?N_q ?X_q ?T_q .slav (fun R hR => mk_fn1 (f := .slav) ⟨Frag.In.keeps (by k_asm) (Fr.keep (by k_asm)), _, _, _, _, _, Top.keeps (by k_asm) (Fr.keep (by k_asm))⟩ (Room.le (by assumption) (by decide)) rfl hR) ?_; (case F_q => k_asm); (case N_q => k_asm); (case X_q => k_asm); (case T_q => k_asm)) | (refine' liftFn ?F_q ?N_q ?X_q ?T_q .cc (fun R hR => mk_fn1 (f := .cc) ⟨Frag.In.keeps (by k_asm) (Fr.keep (by k_asm)), _, _, _, _, _, Top.keeps (by k_asm) (Fr.keep (by k_asm))⟩ (Room.le (by assumption) (by decide)) rfl hR) ?_; (case F_q => k_asm); (case N_q => k_asm); (case X_q => k_asm); (case T_q => k_asm)) | (refine' liftFn ?F_q ?N_q ?X_q ?T_q .av (fun R hR => mk_fn1 (f := .av) ⟨Frag.In.keeps (by k_asm) (Fr.keep (by k_asm)), _, _, _, _, _, Top.keeps (by k_asm) (Fr.keep (by k_asm))⟩ (Room.le (by assumption) (by decide)) rfl hR) ?_; (case F_q => k_asm); (case N_q => k_asm); (case X_q => k_asm); (case T_q => k_asm))); intro _ _ _ _ _ _ _ _ _ _ _ _ _ _ _ _)))
  (k_with "call ref" => (((with_reducible show wpAny _ _ (call (Value.ref 233) [Value.str _ _, Value.int _ _]) _ _ _); k_dflt (first | (refine' liftFn ?F_q ?N_q ?X_q ?T_q (.geom _) (fun R hR => mk_fn2 (f := .geom _) ⟨Frag.In.keeps (by k_asm) (Fr.keep (by k_asm)), _, _, _, _, _, Top.keeps (by k_asm) (Fr.keep (by k_asm))⟩ (Room.le (by assumption) (by decide)) ⟨by decide, by decide, _, rfl⟩ hR) ?_; (case F_q => k_asm); (case N_q => k_asm); (case X_q => k_asm); (case T_q => k_asm)) | (refine' liftFn ?F_q ?N_q ?X_q ?T_q (.atl _) (fun R hR => mk_fn2 (f := .atl _) ⟨Frag.In.keeps (by k_asm) (Fr.keep (by k_asm)), _, _, _, _, _, Top.keeps (by k_asm) (Fr.keep (by k_asm))⟩ (Room.le (by assumption) (by decide)) ⟨_, rfl⟩ hR) ?_; (case F_q => k_asm); (case N_q => k_asm); (case X_q => k_asm); (case T_q => k_asm))); intro _ _ _ _ _ _ _ _ _ _ _ _ _ _ _ _)))
  trivial
theorem gms_pav {prog : Program} {w : World} {A : Around} {s : Shared} {R : Result → Shared → Prop} (G : Gnd w s.heap) (hA : Room A 6) {t : Tok} {rest : List Value} {cv : Value}
    (H : ∀ oc od fd sl, (hd.heap_1 w.params).lookup 245 = some ⟨oc, od, .func fd, sl⟩ → ∀ (x : Addr) (s' : Shared), (hd.heap_1 w.params).In s'.heap → BindsTo s' fd ⟨.str (Str.ofString "pav") t :: rest, []⟩ [(Str.ofString "scorefct_id", .str (Str.ofString "pav") t), (Str.ofString "committeesize", cv)])
    (hR : ∀ v s', Done s s' → NewFn s.heap s'.heap v (.pav) → R (.ok (.ret v)) s') :
    codeAny (model prog w) A (.call (.ref 245) ⟨.str (Str.ofString "pav") t :: rest, []⟩) R s := by
  obtain ⟨X, p, loose, mean, mg, mb, T⟩ := G
  w_on
  w_strict (k_dflt (refine' enter (K := hd.heap_1 w.params) (binds := [(Str.ofString "scorefct_id", .str (Str.ofString "pav") t), (Str.ofString "committeesize", cv)]) X T.nolimit ?o ?c ?b ?l hA (fun L h₁ F N dp un fr gd hA' => ?_) ?c2 ?c3 ?c4 ?c5; (case o => k_is); (case c => k_is); (case b => exact H _ _ _ _ (by k_is) 0 _ X); (case l => exact locs rfl); (case c2 => exact rfl); (case c3 => exact rfl); (case c4 => exact rfl); (case c5 => decide)))
  dsimp only
  w_strict (k_fold)
  w_strict (k_steps)
  exact hR _ _ (Done.ofFr (by assumption) rfl) (newFn_of (by assumption) (by assumption) (by assumption) (by assumption) (by assumption))
theorem gms_adams {prog : Program} {w : World} {A : Around} {s : Shared} {R : Result → Shared → Prop} (G : Gnd w s.heap) (hA : Room A 6) {t : Tok} {rest : List Value} {cv : Value}
    (H : ∀ oc od fd sl, (hd.heap_1 w.params).lookup 245 = some ⟨oc, od, .func fd, sl⟩ → ∀ (x : Addr) (s' : Shared), (hd.heap_1 w.params).In s'.heap → BindsTo s' fd ⟨.str (Str.ofString "adams") t :: rest, []⟩ [(Str.ofString "scorefct_id", .str (Str.ofString "adams") t), (Str.ofString "committeesize", cv)])
    (hR : ∀ v s', Done s s' → NewFn s.heap s'.heap v (.adams) → R (.ok (.ret v)) s') :
    codeAny (model prog w) A (.call (.ref 245) ⟨.str (Str.ofString "adams") t :: rest, []⟩) R s := by
  obtain ⟨X, p, loose, mean, mg, mb, T⟩ := G
  w_on
  w_strict (k_dflt (refine' enter (K := hd.heap_1 w.params) (binds := [(Str.ofString "scorefct_id", .str (Str.ofString "adams") t), (Str.ofString "committeesize", cv)]) X T.nolimit ?o ?c ?b ?l hA (fun L h₁ F N dp un fr gd hA' => ?_) ?c2 ?c3 ?c4 ?c5; (case o => k_is); (case c => k_is); (case b => exact H _ _ _ _ (by k_is) 0 _ X); (case l => exact locs rfl); (case c2 => exact rfl); (case c3 => exact rfl); (case c4 => exact rfl); (case c5 => decide)))
  dsimp only
  w_strict (k_fold)
  w_strict (k_steps)
  exact hR _ _ (Done.ofFr (by assumption) rfl) (newFn_of (by assumption) (by assumption) (by assumption) (by assumption) (by assumption))
theorem gms_slav {prog : Program} {w : World} {A : Around} {s : Shared} {R : Result → Shared → Prop} (G : Gnd w s.heap) (hA : Room A 6) {t : Tok} {rest : List Value} {cv : Value}
    (H : ∀ oc od fd sl, (hd.heap_1 w.params).lookup 245 = some ⟨oc, od, .func fd, sl⟩ → ∀ (x : Addr) (s' : Shared), (hd.heap_1 w.params).In s'.heap → BindsTo s' fd ⟨.str (Str.ofString "slav") t :: rest, []⟩ [(Str.ofString "scorefct_id", .str (Str.ofString "slav") t), (Str.ofString "committeesize", cv)])
    (hR : ∀ v s', Done s s' → NewFn s.heap s'.heap v (.slav) → R (.ok (.ret v)) s') :
    codeAny (model prog w) A (.call (.ref 245) ⟨.str (Str.ofString "slav") t :: rest, []⟩) R s := by
  obtain ⟨X, p, loose, mean, mg, mb, T⟩ := G
  w_on
  w_strict (k_dflt (refine' enter (K := hd.heap_1 w.params) (binds := [(Str.ofString "scorefct_id", .str (Str.ofString "slav") t), (Str.ofString "committeesize", cv)]) X T.nolimit ?o ?c ?b ?l hA (fun L h₁ F N dp un fr gd hA' => ?_) ?c2 ?c3 ?c4 ?c5; (case o => k_is); (case c => k_is); (case b => exact H _ _ _ _ (by k_is) 0 _ X); (case l => exact locs rfl); (case c2 => exact rfl); (case c3 => exact rfl); (case c4 => exact rfl); (case c5 => decide)))
  dsimp only
  w_strict (k_fold)
  w_strict (k_steps)
  exact hR _ _ (Done.ofFr (by assumption) rfl) (newFn_of (by assumption) (by assumption) (by assumption) (by assumption) (by assumption))
theorem gms_cc {prog : Program} {w : World} {A : Around} {s : Shared} {R : Result → Shared → Prop} (G : Gnd w s.heap) (hA : Room A 6) {t : Tok} {rest : List Value} {cv : Value}
    (H : ∀ oc od fd sl, (hd.heap_1 w.params).lookup 245 = some ⟨oc, od, .func fd, sl⟩ → ∀ (x : Addr) (s' : Shared), (hd.heap_1 w.params).In s'.heap → BindsTo s' fd ⟨.str (Str.ofString "cc") t :: rest, []⟩ [(Str.ofString "scorefct_id", .str (Str.ofString "cc") t), (Str.ofString "committeesize", cv)])
    (hR : ∀ v s', Done s s' → NewFn s.heap s'.heap v (.cc) → R (.ok (.ret v)) s') :
    codeAny (model prog w) A (.call (.ref 245) ⟨.str (Str.ofString "cc") t :: rest, []⟩) R s := by
  obtain ⟨X, p, loose, mean, mg, mb, T⟩ := G
  w_on
  w_strict (k_dflt (refine' enter (K := hd.heap_1 w.params) (binds := [(Str.ofString "scorefct_id", .str (Str.ofString "cc") t), (Str.ofString "committeesize", cv)]) X T.nolimit ?o ?c ?b ?l hA (fun L h₁ F N dp un fr gd hA' => ?_) ?c2 ?c3 ?c4 ?c5; (case o => k_is); (case c => k_is); (case b => exact H _ _ _ _ (by k_is) 0 _ X); (case l => exact locs rfl); (case c2 => exact rfl); (case c3 => exact rfl); (case c4 => exact rfl); (case c5 => decide)))
  dsimp only
  w_strict (k_fold)
  w_strict (k_steps)
  exact hR _ _ (Done.ofFr (by assumption) rfl) (newFn_of (by assumption) (by assumption) (by assumption) (by assumption) (by assumption))
theorem gms_av {prog : Program} {w : World} {A : Around} {s : Shared} {R : Result → Shared → Prop} (G : Gnd w s.heap) (hA : Room A 6) {t : Tok} {rest : List Value} {cv : Value}
    (H : ∀ oc od fd sl, (hd.heap_1 w.params).lookup 245 = some ⟨oc, od, .func fd, sl⟩ → ∀ (x : Addr) (s' : Shared), (hd.heap_1 w.params).In s'.heap → BindsTo s' fd ⟨.str (Str.ofString "av") t :: rest, []⟩ [(Str.ofString "scorefct_id", .str (Str.ofString "av") t), (Str.ofString "committeesize", cv)])
    (hR : ∀ v s', Done s s' → NewFn s.heap s'.heap v (.av) → R (.ok (.ret v)) s') :
    codeAny (model prog w) A (.call (.ref 245) ⟨.str (Str.ofString "av") t :: rest, []⟩) R s := by
  obtain ⟨X, p, loose, mean, mg, mb, T⟩ := G
  w_on
  w_strict (k_dflt (refine' enter (K := hd.heap_1 w.params) (binds := [(Str.ofString "scorefct_id", .str (Str.ofString "av") t), (Str.ofString "committeesize", cv)]) X T.nolimit ?o ?c ?b ?l hA (fun L h₁ F N dp un fr gd hA' => ?_) ?c2 ?c3 ?c4 ?c5; (case o => k_is); (case c => k_is); (case b => exact H _ _ _ _ (by k_is) 0 _ X); (case l => exact locs rfl); (case c2 => exact rfl); (case c3 => exact rfl); (case c4 => exact rfl); (case c5 => decide)))
  dsimp only
  w_strict (k_fold)
  w_strict (k_steps)
  exact hR _ _ (Done.ofFr (by assumption) rfl) (newFn_of (by assumption) (by assumption) (by assumption) (by assumption) (by assumption))
theorem gms_geom2 {prog : Program} {w : World} {A : Around} {s : Shared} {R : Result → Shared → Prop} (G : Gnd w s.heap) (hA : Room A 6) {t : Tok} {rest : List Value} {cv : Value}
    (H : ∀ oc od fd sl, (hd.heap_1 w.params).lookup 245 = some ⟨oc, od, .func fd, sl⟩ → ∀ (x : Addr) (s' : Shared), (hd.heap_1 w.params).In s'.heap → BindsTo s' fd ⟨.str (Str.ofString "geom2") t :: rest, []⟩ [(Str.ofString "scorefct_id", .str (Str.ofString "geom2") t), (Str.ofString "committeesize", cv)])
    (hR : ∀ v s', Done s s' → NewFn s.heap s'.heap v (.geom 2) → R (.ok (.ret v)) s') :
    codeAny (model prog w) A (.call (.ref 245) ⟨.str (Str.ofString "geom2") t :: rest, []⟩) R s := by
  obtain ⟨X, p, loose, mean, mg, mb, T⟩ := G
  w_on
  w_strict (k_dflt (refine' enter (K := hd.heap_1 w.params) (binds := [(Str.ofString "scorefct_id", .str (Str.ofString "geom2") t), (Str.ofString "committeesize", cv)]) X T.nolimit ?o ?c ?b ?l hA (fun L h₁ F N dp un fr gd hA' => ?_) ?c2 ?c3 ?c4 ?c5; (case o => k_is); (case c => k_is); (case b => exact H _ _ _ _ (by k_is) 0 _ X); (case l => exact locs rfl); (case c2 => exact rfl); (case c3 => exact rfl); (case c4 => exact rfl); (case c5 => decide)))
  dsimp only
  w_strict (k_fold)
  w_strict (k_steps)
  exact hR _ _ (Done.ofFr (by assumption) rfl) (newFn_of (by assumption) (by assumption) (by assumption) (by assumption) (by assumption))
theorem gms_geom3 {prog : Program} {w : World} {A : Around} {s : Shared} {R : Result → Shared → Prop} (G : Gnd w s.heap) (hA : Room A 6) {t : Tok} {rest : List Value} {cv : Value}
    (H : ∀ oc od fd sl, (hd.heap_1 w.params).lookup 245 = some ⟨oc, od, .func fd, sl⟩ → ∀ (x : Addr) (s' : Shared), (hd.heap_1 w.params).In s'.heap → BindsTo s' fd ⟨.str (Str.ofString "geom3") t :: rest, []⟩ [(Str.ofString "scorefct_id", .str (Str.ofString "geom3") t), (Str.ofString "committeesize", cv)])
    (hR : ∀ v s', Done s s' → NewFn s.heap s'.heap v (.geom 3) → R (.ok (.ret v)) s') :
    codeAny (model prog w) A (.call (.ref 245) ⟨.str (Str.ofString "geom3") t :: rest, []⟩) R s := by
  obtain ⟨X, p, loose, mean, mg, mb, T⟩ := G
  w_on
  w_strict (k_dflt (refine' enter (K := hd.heap_1 w.params) (binds := [(Str.ofString "scorefct_id", .str (Str.ofString "geom3") t), (Str.ofString "committeesize", cv)]) X T.nolimit ?o ?c ?b ?l hA (fun L h₁ F N dp un fr gd hA' => ?_) ?c2 ?c3 ?c4 ?c5; (case o => k_is); (case c => k_is); (case b => exact H _ _ _ _ (by k_is) 0 _ X); (case l => exact locs rfl); (case c2 => exact rfl); (case c3 => exact rfl); (case c4 => exact rfl); (case c5 => decide)))
  dsimp only
  w_strict (k_fold)
  w_strict (k_steps)
  exact hR _ _ (Done.ofFr (by assumption) rfl) (newFn_of (by assumption) (by assumption) (by assumption) (by assumption) (by assumption))
theorem gms_geom10 {prog : Program} {w : World} {A : Around} {s : Shared} {R : Result → Shared → Prop} (G : Gnd w s.heap) (hA : Room A 6) {t : Tok} {rest : List Value} {cv : Value}
    (H : ∀ oc od fd sl, (hd.heap_1 w.params).lookup 245 = some ⟨oc, od, .func fd, sl⟩ → ∀ (x : Addr) (s' : Shared), (hd.heap_1 w.params).In s'.heap → BindsTo s' fd ⟨.str (Str.ofString "geom10") t :: rest, []⟩ [(Str.ofString "scorefct_id", .str (Str.ofString "geom10") t), (Str.ofString "committeesize", cv)])
    (hR : ∀ v s', Done s s' → NewFn s.heap s'.heap v (.geom 10) → R (.ok (.ret v)) s') :
    codeAny (model prog w) A (.call (.ref 245) ⟨.str (Str.ofString "geom10") t :: rest, []⟩) R s := by
  obtain ⟨X, p, loose, mean, mg, mb, T⟩ := G
  w_on
  w_strict (k_dflt (refine' enter (K := hd.heap_1 w.params) (binds := [(Str.ofString "scorefct_id", .str (Str.ofString "geom10") t), (Str.ofString "committeesize", cv)]) X T.nolimit ?o ?c ?b ?l hA (fun L h₁ F N dp un fr gd hA' => ?_) ?c2 ?c3 ?c4 ?c5; (case o => k_is); (case c => k_is); (case b => exact H _ _ _ _ (by k_is) 0 _ X); (case l => exact locs rfl); (case c2 => exact rfl); (case c3 => exact rfl); (case c4 => exact rfl); (case c5 => decide)))
  dsimp only
  w_strict (k_fold)
  w_strict (k_steps)
  exact hR _ _ (Done.ofFr (by assumption) rfl) (newFn_of (by assumption) (by assumption) (by assumption) (by assumption) (by assumption))
theorem gms_atleast1 {prog : Program} {w : World} {A : Around} {s : Shared} {R : Result → Shared → Prop} (G : Gnd w s.heap) (hA : Room A 6) {t : Tok} {rest : List Value} {cv : Value}
    (H : ∀ oc od fd sl, (hd.heap_1 w.params).lookup 245 = some ⟨oc, od, .func fd, sl⟩ → ∀ (x : Addr) (s' : Shared), (hd.heap_1 w.params).In s'.heap → BindsTo s' fd ⟨.str (Str.ofString "atleast1") t :: rest, []⟩ [(Str.ofString "scorefct_id", .str (Str.ofString "atleast1") t), (Str.ofString "committeesize", cv)])
    (hR : ∀ v s', Done s s' → NewFn s.heap s'.heap v (.atl 1) → R (.ok (.ret v)) s') :
    codeAny (model prog w) A (.call (.ref 245) ⟨.str (Str.ofString "atleast1") t :: rest, []⟩) R s := by
  obtain ⟨X, p, loose, mean, mg, mb, T⟩ := G
  w_on
  w_strict (k_dflt (refine' enter (K := hd.heap_1 w.params) (binds := [(Str.ofString "scorefct_id", .str (Str.ofString "atleast1") t), (Str.ofString "committeesize", cv)]) X T.nolimit ?o ?c ?b ?l hA (fun L h₁ F N dp un fr gd hA' => ?_) ?c2 ?c3 ?c4 ?c5; (case o => k_is); (case c => k_is); (case b => exact H _ _ _ _ (by k_is) 0 _ X); (case l => exact locs rfl); (case c2 => exact rfl); (case c3 => exact rfl); (case c4 => exact rfl); (case c5 => decide)))
  dsimp only
  w_strict (k_fold)
  w_strict (k_steps)
  exact hR _ _ (Done.ofFr (by assumption) rfl) (newFn_of (by assumption) (by assumption) (by assumption) (by assumption) (by assumption))
theorem gms_atleast2 {prog : Program} {w : World} {A : Around} {s : Shared} {R : Result → Shared → Prop} (G : Gnd w s.heap) (hA : Room A 6) {t : Tok} {rest : List Value} {cv : Value}
    (H : ∀ oc od fd sl, (hd.heap_1 w.params).lookup 245 = some ⟨oc, od, .func fd, sl⟩ → ∀ (x : Addr) (s' : Shared), (hd.heap_1 w.params).In s'.heap → BindsTo s' fd ⟨.str (Str.ofString "atleast2") t :: rest, []⟩ [(Str.ofString "scorefct_id", .str (Str.ofString "atleast2") t), (Str.ofString "committeesize", cv)])
    (hR : ∀ v s', Done s s' → NewFn s.heap s'.heap v (.atl 2) → R (.ok (.ret v)) s') :
    codeAny (model prog w) A (.call (.ref 245) ⟨.str (Str.ofString "atleast2") t :: rest, []⟩) R s := by
  obtain ⟨X, p, loose, mean, mg, mb, T⟩ := G
  w_on
  w_strict (k_dflt (refine' enter (K := hd.heap_1 w.params) (binds := [(Str.ofString "scorefct_id", .str (Str.ofString "atleast2") t), (Str.ofString "committeesize", cv)]) X T.nolimit ?o ?c ?b ?l hA (fun L h₁ F N dp un fr gd hA' => ?_) ?c2 ?c3 ?c4 ?c5; (case o => k_is); (case c => k_is); (case b => exact H _ _ _ _ (by k_is) 0 _ X); (case l => exact locs rfl); (case c2 => exact rfl); (case c3 => exact rfl); (case c4 => exact rfl); (case c5 => decide)))
  dsimp only
  w_strict (k_fold)
  w_strict (k_steps)
  exact hR _ _ (Done.ofFr (by assumption) rfl) (newFn_of (by assumption) (by assumption) (by assumption) (by assumption) (by assumption))
theorem gms_atleast3 {prog : Program} {w : World} {A : Around} {s : Shared} {R : Result → Shared → Prop} (G : Gnd w s.heap) (hA : Room A 6) {t : Tok} {rest : List Value} {cv : Value}
    (H : ∀ oc od fd sl, (hd.heap_1 w.params).lookup 245 = some ⟨oc, od, .func fd, sl⟩ → ∀ (x : Addr) (s' : Shared), (hd.heap_1 w.params).In s'.heap → BindsTo s' fd ⟨.str (Str.ofString "atleast3") t :: rest, []⟩ [(Str.ofString "scorefct_id", .str (Str.ofString "atleast3") t), (Str.ofString "committeesize", cv)])
    (hR : ∀ v s', Done s s' → NewFn s.heap s'.heap v (.atl 3) → R (.ok (.ret v)) s') :
    codeAny (model prog w) A (.call (.ref 245) ⟨.str (Str.ofString "atleast3") t :: rest, []⟩) R s := by
  obtain ⟨X, p, loose, mean, mg, mb, T⟩ := G
  w_on
  w_strict (k_dflt (refine' enter (K := hd.heap_1 w.params) (binds := [(Str.ofString "scorefct_id", .str (Str.ofString "atleast3") t), (Str.ofString "committeesize", cv)]) X T.nolimit ?o ?c ?b ?l hA (fun L h₁ F N dp un fr gd hA' => ?_) ?c2 ?c3 ?c4 ?c5; (case o => k_is); (case c => k_is); (case b => exact H _ _ _ _ (by k_is) 0 _ X); (case l => exact locs rfl); (case c2 => exact rfl); (case c3 => exact rfl); (case c4 => exact rfl); (case c5 => decide)))
  dsimp only
  w_strict (k_fold)
  w_strict (k_steps)
  exact hR _ _ (Done.ofFr (by assumption) rfl) (newFn_of (by assumption) (by assumption) (by assumption) (by assumption) (by assumption))
/-- the eleven names, and what they stand for -/
noncomputable def nameAt : Nat → Str
  | 0 => Str.ofString "pav"
  | 1 => Str.ofString "adams"
  | 2 => Str.ofString "slav"
  | 3 => Str.ofString "cc"
  | 4 => Str.ofString "av"
  | 5 => Str.ofString "geom2"
  | 6 => Str.ofString "geom3"
  | 7 => Str.ofString "geom10"
  | 8 => Str.ofString "atleast1"
  | 9 => Str.ofString "atleast2"
  | _ => Str.ofString "atleast3"
noncomputable def fnAt : Nat → Fn
  | 0 => .pav
  | 1 => .adams
  | 2 => .slav
  | 3 => .cc
  | 4 => .av
  | 5 => .geom 2
  | 6 => .geom 3
  | 7 => .geom 10
  | 8 => .atl 1
  | 9 => .atl 2
  | _ => .atl 3
/-- get_marginal_scorefct, with one argument and with two -/
theorem gms_any {prog : Program} {w : World} {A : Around} {s : Shared} {R : Result → Shared → Prop} (G : Gnd w s.heap) (hA : Room A 6) {k : Nat} (hk : k < 11) {t : Tok} {rest : List Value} {cv : Value}
    (H : ∀ oc od fd sl, (hd.heap_1 w.params).lookup 245 = some ⟨oc, od, .func fd, sl⟩ → ∀ (x : Addr) (s' : Shared), (hd.heap_1 w.params).In s'.heap → BindsTo s' fd ⟨.str (nameAt k) t :: rest, []⟩ [(Str.ofString "scorefct_id", .str (nameAt k) t), (Str.ofString "committeesize", cv)])
    (hR : ∀ v s', Done s s' → NewFn s.heap s'.heap v (fnAt k) → R (.ok (.ret v)) s') :
    codeAny (model prog w) A (.call (.ref 245) ⟨.str (nameAt k) t :: rest, []⟩) R s := by
  match k, hk, H, hR with
  | 0, _, H, hR => exact gms_pav G hA H hR
  | 1, _, H, hR => exact gms_adams G hA H hR
  | 2, _, H, hR => exact gms_slav G hA H hR
  | 3, _, H, hR => exact gms_cc G hA H hR
  | 4, _, H, hR => exact gms_av G hA H hR
  | 5, _, H, hR => exact gms_geom2 G hA H hR
  | 6, _, H, hR => exact gms_geom3 G hA H hR
  | 7, _, H, hR => exact gms_geom10 G hA H hR
  | 8, _, H, hR => exact gms_atleast1 G hA H hR
  | 9, _, H, hR => exact gms_atleast2 G hA H hR
  | 10, _, H, hR => exact gms_atleast3 G hA H hR
  | k + 11, hk, _, _ => exact absurd hk (by omega)
theorem gms1 {prog : Program} {w : World} {A : Around} {s : Shared} {R : Result → Shared → Prop} (G : Gnd w s.heap) (hA : Room A 6) {k : Nat} (hk : k < 11) {t : Tok}
    (hR : ∀ v s', Done s s' → NewFn s.heap s'.heap v (fnAt k) → R (.ok (.ret v)) s') :
    codeAny (model prog w) A (.call (.ref 245) ⟨[.str (nameAt k) t], []⟩) R s := by
  refine gms_any (cv := .none) G hA hk ?_ hR
  k_dflt (refine' bind_of (args := fun _ => ⟨[.str (nameAt k) t], []⟩) (binds := fun _ => [(Str.ofString "scorefct_id", .str (nameAt k) t), (Str.ofString "committeesize", .none)]) ?e ?b; (case e => k_is); (case b => (intro x9 s9 X9; first | exact BindsTo.of_eq rfl | exact binds_K X9 rfl (by k_is) rfl rfl rfl)))
theorem gms2 {prog : Program} {w : World} {A : Around} {s : Shared} {R : Result → Shared → Prop} (G : Gnd w s.heap) (hA : Room A 6) {k : Nat} (hk : k < 11) {t : Tok} {cv : Value}
    (hR : ∀ v s', Done s s' → NewFn s.heap s'.heap v (fnAt k) → R (.ok (.ret v)) s') :
    codeAny (model prog w) A (.call (.ref 245) ⟨[.str (nameAt k) t, cv], []⟩) R s := by
  refine gms_any (cv := cv) G hA hk ?_ hR
  k_dflt (refine' bind_of (args := fun _ => ⟨[.str (nameAt k) t, cv], []⟩) (binds := fun _ => [(Str.ofString "scorefct_id", .str (nameAt k) t), (Str.ofString "committeesize", cv)]) ?e ?b; (case e => k_is); (case b => (intro x9 s9 X9; first | exact BindsTo.of_eq rfl | exact binds_K X9 rfl (by k_is) rfl rfl rfl)))
end
theorem words21 : True := by
  k_with_none
  (k_with "ite" => (first | (refine ite_pos (by ((try simp only [beq_iff_eq, bne_iff_ne, decide_eq_true_eq, Bool.not_eq_true', decide_eq_false_iff_not, beq_eq_false_iff_ne, ne_eq]); omega)) ?_) | (refine ite_neg (by ((try simp only [beq_iff_eq, bne_iff_ne, decide_eq_true_eq, Bool.not_eq_true', decide_eq_false_iff_not, beq_eq_false_iff_ne, ne_eq]); omega)) ?_)))
  (k_with "binaryOp FloorDiv int int" => ((k_dflt (refine' floordiv_int ?h1_q ?_ (Or.inl (PyProof.noPylong_of_log2 ?h2_q)); (case h1_q => omega); (case h2_q => first | assumption | exact Sz.log (by assumption))))))
  (k_with "binaryOp Mult int int" => ((k_dflt (refine' mul_int ?_ ?hm_q; (case hm_q => exact Sz.ok (by with_reducible assumption) (by with_reducible assumption) (by omega))))))
  (k_with "call ref" => (((with_reducible show wpAny _ _ (call (Value.ref 182) [Value.int _ _, Value.int _ _]) _ _ _); k_dflt (refine' frac_k ?F_q ?N_q ?X_q ?T_q ?A_q ?b_q ?z_q ?k_q ?_; (case F_q => k_asm); (case N_q => k_asm); (case X_q => k_asm); (case T_q => k_asm); (case A_q => exact Room.le (by assumption) (by decide)); (case b_q => first | assumption | omega | (exact Int.mul_pos (by assumption) (by assumption))); (case z_q => first | assumption | exact Sz.mul (by assumption) (by assumption)); (case k_q => omega)); intro _ _ _ _ _ _ _ _ _ _ _ _ _ _ _ _ _ _ _ _ _)))
  (k_with "binaryOp Pow int int" => ((k_dflt (refine' pow_int_small ?h1_q ?h2_q ?h3_q ?_; (case h1_q => omega); (case h2_q => omega); (case h3_q => omega)))))
  (k_with "call ref" => (((with_reducible show wpAny _ _ (call (Value.ref 182) [Value.int _ _]) _ _ _); k_dflt (refine' frac1_k ?F_q ?N_q ?X_q ?T_q ?A_q ?_; (case F_q => k_asm); (case N_q => k_asm); (case X_q => k_asm); (case T_q => k_asm); (case A_q => exact Room.le (by assumption) (by decide))); intro _ _ _ _ _ _ _ _ _ _ _ _ _ _ _)))
  trivial
section
noncomputable def cellZ (ns : List Int) (k : Int) : Int := if k < ns.length then ((ns.getD k.toNat 0).natAbs : Int) else 37 * k + 11
theorem cellZ_nonneg (ns : List Int) {k : Int} (h : 0 ≤ k) : 0 ≤ cellZ ns k := by unfold cellZ; split <;> omega
theorem cell_code {prog : Program} {w : World} {A : Around} {s : Shared} {R : Result → Shared → Prop} (G : Gnd w s.heap) (hA : Room A 6) {l : Addr} {vs : List Value} {ns : List Int} (hl : s.heap.IsList l vs.toArray) (hi : IntsAre vs ns) (hn : ns.length < 2 ^ 62) {k : Int} {tk : Tok} (k0 : 0 ≤ k) (k1 : k ≤ 100)
    (hR : ∀ t s', Done s s' → R (.ok (.ret (.int (cellZ ns k) t))) s') :
    codeAny (model prog w) A (.call (.ref 492) ⟨[.ref l, .int k tk], []⟩) R s := by
  obtain ⟨X, p, loose, mean, mg, mb, T⟩ := G
  w_on
  w_strict (k_dflt (refine' enter (K := hd.heap_1 w.params) (binds := [(Str.ofString "script", .ref l), (Str.ofString "k", .int k tk)]) X T.nolimit ?o ?c ?b ?l hA (fun L h₁ F N dp un fr gd hA' => ?_) ?c2 ?c3 ?c4 ?c5; (case o => k_is); (case c => k_is); (case b => first | exact BindsTo.of_eq rfl | exact binds_K X rfl (by k_is) rfl rfl rfl); (case l => exact locs rfl); (case c2 => exact rfl); (case c3 => exact rfl); (case c4 => exact rfl); (case c5 => decide)))
  dsimp only
  w_strict (k_fold)
  w_strict (k_steps)
  · rename k < _ => q
    have e : ∀ z : Int, (if z < 0 then -z else z) = (z.natAbs : Int) := fun z => by split <;> omega
    have r := fun u s' D => hR u s' D
    unfold cellZ at r
    rw [if_pos q, ← e] at r
    exact r _ _ (Done.ofFr (by assumption) rfl)
  · rename ¬ k < _ => q
    have r := fun u s' D => hR u s' D
    unfold cellZ at r
    rw [if_neg q] at r
    exact r _ _ (Done.ofFr (by assumption) rfl)

/-- a pair of ints at hand -/
noncomputable def IsPair (h : Heap) (v : Value) (a b : Int) : Prop := ∃ x t1 t2, v = .ref x ∧ h.get? x = some { cls := .type "tuple", data := .seq #[.int a t1, .int b t2] }
theorem IsPair.keep {h h' : Heap} {v : Value} {a b : Int} (x : IsPair h v a b) (k : ∀ b o, h.get? b = some o → h'.get? b = some o) : IsPair h' v a b := by
  (refine xa_3_2 (x) ?_; intro y t1 t2 e h1; (try clear x))
  exact ⟨y, t1, t2, e, k _ _ h1⟩
noncomputable def NewPair (h h' : Heap) (v : Value) (a b : Int) : Prop := ∃ x t1 t2, v = .ref x ∧ h.get? x = none ∧ h'.get? x = some { cls := .type "tuple", data := .seq #[.int a t1, .int b t2] }
theorem NewPair.is {h h' : Heap} {v : Value} {a b : Int} (x : NewPair h h' v a b) : IsPair h' v a b := by
  (refine xa_3_3 (x) ?_; intro y t1 t2 e _ h1; (try clear x))
  exact ⟨y, t1, t2, e, h1⟩
theorem isTup_of {h : Heap} {x : Addr} {vs : Array Value} (e : h.get? x = some { cls := .type "tuple", data := .seq vs }) : IsTup h x vs := ⟨_, e, rfl, _, rfl⟩
theorem add_code {prog : Program} {w : World} {A : Around} {s : Shared} {R : Result → Shared → Prop} (G : Gnd w s.heap) (hA : Room A 6) {u v : Value} {a b c d : Int} (hu : IsPair s.heap u a b) (hv : IsPair s.heap v c d) {j k : Nat} (za : Sz k a) (zb : Sz k b) (zc : Sz j c) (zd : Sz j d) (hk : k + j ≤ 7000)
    (hR : ∀ r s', Done s s' → NewPair s.heap s'.heap r (a * d + c * b) (b * d) → R (.ok (.ret r)) s') :
    codeAny (model prog w) A (.call (.ref 518) ⟨[u, v], []⟩) R s := by
  obtain ⟨X, p, loose, mean, mg, mb, T⟩ := G
  refine Classical.byContradiction fun hg9 => ?_
  (refine xa_3_2 (hu) ?_; intro xa t1 t2 r93 g1; (try clear hu))
  subst r93
  refine hg9 ?_
  clear hg9
  refine Classical.byContradiction fun hg9 => ?_
  (refine xa_3_2 (hv) ?_; intro xb t3 t4 r93 g2; (try clear hv))
  subst r93
  refine hg9 ?_
  clear hg9
  have g3 := isTup_of g1
  have g4 := isTup_of g2
  w_on
  w_strict (k_dflt (refine' enter (K := hd.heap_1 w.params) (binds := [(Str.ofString "one", .ref xa), (Str.ofString "two", .ref xb)]) X T.nolimit ?o ?c ?b ?l hA (fun L h₁ F N dp un fr gd hA' => ?_) ?c2 ?c3 ?c4 ?c5; (case o => k_is); (case c => k_is); (case b => first | exact BindsTo.of_eq rfl | exact binds_K X rfl (by k_is) rfl rfl rfl); (case l => exact locs rfl); (case c2 => exact rfl); (case c3 => exact rfl); (case c4 => exact rfl); (case c5 => decide)))
  dsimp only
  w_strict (k_fold)
  w_strict (k_steps)
  rename News _ _ _ _ => N2
  exact hR _ _ (Done.ofFr (by assumption) rfl) ⟨_, _, _, rfl, (N2 _ (.head _)).2.2, (N2 _ (.head _)).1⟩
theorem is_code {prog : Program} {w : World} {A : Around} {s : Shared} {R : Result → Shared → Prop} (G : Gnd w s.heap) (hA : Room A 6) {u v : Value} {n d a b : Int} (hu : IsFrac s.heap u n d) (hd0 : 0 < d) (hv : IsPair s.heap v a b) {j k : Nat} (zn : Sz k n) (zd : Sz k d) (za : Sz j a) (zb : Sz j b) (hk : k + j ≤ 7000) (e : n * b = a * d)
    (hR : ∀ s', Done s s' → R (.ok (.ret (.bool true))) s') :
    codeAny (model prog w) A (.call (.ref 530) ⟨[u, v], []⟩) R s := by
  obtain ⟨X, p, loose, mean, mg, mb, T⟩ := G
  refine Classical.byContradiction fun hg9 => ?_
  (refine xa_3_2 (hv) ?_; intro xb t3 t4 r93 g2; (try clear hv))
  subst r93
  refine hg9 ?_
  clear hg9
  refine Classical.byContradiction fun hg9 => ?_
  (refine xa_8_3 (hu) ?_; intro xa dxa hs1 hs2 t1 t2 t5 t6 r98 g1 g3; (try clear hu))
  subst r98
  refine hg9 ?_
  clear hg9
  have g4 := isTup_of g2
  w_on
  w_strict (k_dflt (refine' enter (K := hd.heap_1 w.params) (binds := [(Str.ofString "told", .ref xa), (Str.ofString "due", .ref xb)]) X T.nolimit ?o ?c ?b ?l hA (fun L h₁ F N dp un fr gd hA' => ?_) ?c2 ?c3 ?c4 ?c5; (case o => k_is); (case c => k_is); (case b => first | exact BindsTo.of_eq rfl | exact binds_K X rfl (by k_is) rfl rfl rfl); (case l => exact locs rfl); (case c2 => exact rfl); (case c3 => exact rfl); (case c4 => exact rfl); (case c5 => decide)))
  dsimp only
  w_strict (k_fold)
  w_strict (k_steps)
  rename Fr _ _ _ _ => F2
  have e2 : (true : Bool) = decide (n * b = a * d) := by rw [e]; simp
  have r := fun s' D => hR s' D
  rw [e2] at r
  exact r _ (Done.ofFr F2 rfl)
end
section
theorem newPair_of {h₀ h' : Heap} {L x : Addr} {news : List (Addr × Obj)} {a b a' b' : Int} {t1 t2 : Tok} (N : News h₀ L h' ((x, { cls := .type "tuple", data := .seq #[.int a t1, .int b t2] }) :: news)) (ea : a = a') (eb : b = b') : NewPair h₀ h' (.ref x) a' b' := by
  subst ea eb
  exact ⟨x, _, _, rfl, (N _ (.head _)).2.2, (N _ (.head _)).1⟩
theorem gain_pav {prog : Program} {w : World} {A : Around} {s : Shared} {R : Result → Shared → Prop} (G : Gnd w s.heap) (hA : Room A 4) {t : Tok} {i : Int} {ti : Tok} (i0 : 1 ≤ i) (i1 : i ≤ 8)
    (hR : ∀ v s', Done s s' → NewPair s.heap s'.heap v (gN (.pav) i) (gD (.pav) i) → R (.ok (.ret v)) s') :
    codeAny (model prog w) A (.call (.ref 511) ⟨[.str (Str.ofString "pav") t, .int i ti], []⟩) R s := by
  obtain ⟨X, p, loose, mean, mg, mb, T⟩ := G
  w_on
  w_strict (k_dflt (refine' enter (K := hd.heap_1 w.params) (binds := [(Str.ofString "name", .str (Str.ofString "pav") t), (Str.ofString "place", .int i ti)]) X T.nolimit ?o ?c ?b ?l hA (fun L h₁ F N dp un fr gd hA' => ?_) ?c2 ?c3 ?c4 ?c5; (case o => k_is); (case c => k_is); (case b => first | exact BindsTo.of_eq rfl | exact binds_K X rfl (by k_is) rfl rfl rfl); (case l => exact locs rfl); (case c2 => exact rfl); (case c3 => exact rfl); (case c4 => exact rfl); (case c5 => decide)))
  dsimp only
  w_strict (k_fold)
  w_strict (k_steps)
  refine hR _ _ (Done.ofFr (by assumption) rfl) (newPair_of (by assumption) ?_ ?_)
  all_goals first | (simp only [gN, gD, beq_iff_eq]; done) | (simp only [gN, gD, beq_iff_eq]; (repeat' split) <;> first | rfl | omega) | rfl
theorem gain_adams {prog : Program} {w : World} {A : Around} {s : Shared} {R : Result → Shared → Prop} (G : Gnd w s.heap) (hA : Room A 4) {t : Tok} {i : Int} {ti : Tok} (i0 : 1 ≤ i) (i1 : i ≤ 8)
    (hR : ∀ v s', Done s s' → NewPair s.heap s'.heap v (gN (.adams) i) (gD (.adams) i) → R (.ok (.ret v)) s') :
    codeAny (model prog w) A (.call (.ref 511) ⟨[.str (Str.ofString "adams") t, .int i ti], []⟩) R s := by
  obtain ⟨X, p, loose, mean, mg, mb, T⟩ := G
  w_on
  w_strict (k_dflt (refine' enter (K := hd.heap_1 w.params) (binds := [(Str.ofString "name", .str (Str.ofString "adams") t), (Str.ofString "place", .int i ti)]) X T.nolimit ?o ?c ?b ?l hA (fun L h₁ F N dp un fr gd hA' => ?_) ?c2 ?c3 ?c4 ?c5; (case o => k_is); (case c => k_is); (case b => first | exact BindsTo.of_eq rfl | exact binds_K X rfl (by k_is) rfl rfl rfl); (case l => exact locs rfl); (case c2 => exact rfl); (case c3 => exact rfl); (case c4 => exact rfl); (case c5 => decide)))
  dsimp only
  w_strict (k_fold)
  w_strict (k_steps)
  refine hR _ _ (Done.ofFr (by assumption) rfl) (newPair_of (by assumption) ?_ ?_)
  all_goals first | (simp only [gN, gD, beq_iff_eq]; done) | (simp only [gN, gD, beq_iff_eq]; (repeat' split) <;> first | rfl | omega) | rfl
theorem gain_slav {prog : Program} {w : World} {A : Around} {s : Shared} {R : Result → Shared → Prop} (G : Gnd w s.heap) (hA : Room A 4) {t : Tok} {i : Int} {ti : Tok} (i0 : 1 ≤ i) (i1 : i ≤ 8)
    (hR : ∀ v s', Done s s' → NewPair s.heap s'.heap v (gN (.slav) i) (gD (.slav) i) → R (.ok (.ret v)) s') :
    codeAny (model prog w) A (.call (.ref 511) ⟨[.str (Str.ofString "slav") t, .int i ti], []⟩) R s := by
  obtain ⟨X, p, loose, mean, mg, mb, T⟩ := G
  w_on
  w_strict (k_dflt (refine' enter (K := hd.heap_1 w.params) (binds := [(Str.ofString "name", .str (Str.ofString "slav") t), (Str.ofString "place", .int i ti)]) X T.nolimit ?o ?c ?b ?l hA (fun L h₁ F N dp un fr gd hA' => ?_) ?c2 ?c3 ?c4 ?c5; (case o => k_is); (case c => k_is); (case b => first | exact BindsTo.of_eq rfl | exact binds_K X rfl (by k_is) rfl rfl rfl); (case l => exact locs rfl); (case c2 => exact rfl); (case c3 => exact rfl); (case c4 => exact rfl); (case c5 => decide)))
  dsimp only
  w_strict (k_fold)
  w_strict (k_steps)
  refine hR _ _ (Done.ofFr (by assumption) rfl) (newPair_of (by assumption) ?_ ?_)
  all_goals first | (simp only [gN, gD, beq_iff_eq]; done) | (simp only [gN, gD, beq_iff_eq]; (repeat' split) <;> first | rfl | omega) | rfl
theorem gain_cc {prog : Program} {w : World} {A : Around} {s : Shared} {R : Result → Shared → Prop} (G : Gnd w s.heap) (hA : Room A 4) {t : Tok} {i : Int} {ti : Tok} (i0 : 1 ≤ i) (i1 : i ≤ 8)
    (hR : ∀ v s', Done s s' → NewPair s.heap s'.heap v (gN (.cc) i) (gD (.cc) i) → R (.ok (.ret v)) s') :
    codeAny (model prog w) A (.call (.ref 511) ⟨[.str (Str.ofString "cc") t, .int i ti], []⟩) R s := by
  obtain ⟨X, p, loose, mean, mg, mb, T⟩ := G
  w_on
  w_strict (k_dflt (refine' enter (K := hd.heap_1 w.params) (binds := [(Str.ofString "name", .str (Str.ofString "cc") t), (Str.ofString "place", .int i ti)]) X T.nolimit ?o ?c ?b ?l hA (fun L h₁ F N dp un fr gd hA' => ?_) ?c2 ?c3 ?c4 ?c5; (case o => k_is); (case c => k_is); (case b => first | exact BindsTo.of_eq rfl | exact binds_K X rfl (by k_is) rfl rfl rfl); (case l => exact locs rfl); (case c2 => exact rfl); (case c3 => exact rfl); (case c4 => exact rfl); (case c5 => decide)))
  dsimp only
  w_strict (k_fold)
  w_strict (k_steps)
  refine hR _ _ (Done.ofFr (by assumption) rfl) (newPair_of (by assumption) ?_ ?_)
  all_goals first | (simp only [gN, gD, beq_iff_eq]; done) | (simp only [gN, gD, beq_iff_eq]; (repeat' split) <;> first | rfl | omega) | rfl
theorem gain_av {prog : Program} {w : World} {A : Around} {s : Shared} {R : Result → Shared → Prop} (G : Gnd w s.heap) (hA : Room A 4) {t : Tok} {i : Int} {ti : Tok} (i0 : 1 ≤ i) (i1 : i ≤ 8)
    (hR : ∀ v s', Done s s' → NewPair s.heap s'.heap v (gN (.av) i) (gD (.av) i) → R (.ok (.ret v)) s') :
    codeAny (model prog w) A (.call (.ref 511) ⟨[.str (Str.ofString "av") t, .int i ti], []⟩) R s := by
  obtain ⟨X, p, loose, mean, mg, mb, T⟩ := G
  w_on
  w_strict (k_dflt (refine' enter (K := hd.heap_1 w.params) (binds := [(Str.ofString "name", .str (Str.ofString "av") t), (Str.ofString "place", .int i ti)]) X T.nolimit ?o ?c ?b ?l hA (fun L h₁ F N dp un fr gd hA' => ?_) ?c2 ?c3 ?c4 ?c5; (case o => k_is); (case c => k_is); (case b => first | exact BindsTo.of_eq rfl | exact binds_K X rfl (by k_is) rfl rfl rfl); (case l => exact locs rfl); (case c2 => exact rfl); (case c3 => exact rfl); (case c4 => exact rfl); (case c5 => decide)))
  dsimp only
  w_strict (k_fold)
  w_strict (k_steps)
  refine hR _ _ (Done.ofFr (by assumption) rfl) (newPair_of (by assumption) ?_ ?_)
  all_goals first | (simp only [gN, gD, beq_iff_eq]; done) | (simp only [gN, gD, beq_iff_eq]; (repeat' split) <;> first | rfl | omega) | rfl
theorem gain_geom2 {prog : Program} {w : World} {A : Around} {s : Shared} {R : Result → Shared → Prop} (G : Gnd w s.heap) (hA : Room A 4) {t : Tok} {i : Int} {ti : Tok} (i0 : 1 ≤ i) (i1 : i ≤ 8)
    (hR : ∀ v s', Done s s' → NewPair s.heap s'.heap v (gN (.geom 2) i) (gD (.geom 2) i) → R (.ok (.ret v)) s') :
    codeAny (model prog w) A (.call (.ref 511) ⟨[.str (Str.ofString "geom2") t, .int i ti], []⟩) R s := by
  obtain ⟨X, p, loose, mean, mg, mb, T⟩ := G
  w_on
  w_strict (k_dflt (refine' enter (K := hd.heap_1 w.params) (binds := [(Str.ofString "name", .str (Str.ofString "geom2") t), (Str.ofString "place", .int i ti)]) X T.nolimit ?o ?c ?b ?l hA (fun L h₁ F N dp un fr gd hA' => ?_) ?c2 ?c3 ?c4 ?c5; (case o => k_is); (case c => k_is); (case b => first | exact BindsTo.of_eq rfl | exact binds_K X rfl (by k_is) rfl rfl rfl); (case l => exact locs rfl); (case c2 => exact rfl); (case c3 => exact rfl); (case c4 => exact rfl); (case c5 => decide)))
  dsimp only
  w_strict (k_fold)
  w_strict (k_steps)
  refine hR _ _ (Done.ofFr (by assumption) rfl) (newPair_of (by assumption) ?_ ?_)
  all_goals first | (simp only [gN, gD, beq_iff_eq]; done) | (simp only [gN, gD, beq_iff_eq]; (repeat' split) <;> first | rfl | omega) | rfl
theorem gain_geom3 {prog : Program} {w : World} {A : Around} {s : Shared} {R : Result → Shared → Prop} (G : Gnd w s.heap) (hA : Room A 4) {t : Tok} {i : Int} {ti : Tok} (i0 : 1 ≤ i) (i1 : i ≤ 8)
    (hR : ∀ v s', Done s s' → NewPair s.heap s'.heap v (gN (.geom 3) i) (gD (.geom 3) i) → R (.ok (.ret v)) s') :
    codeAny (model prog w) A (.call (.ref 511) ⟨[.str (Str.ofString "geom3") t, .int i ti], []⟩) R s := by
  obtain ⟨X, p, loose, mean, mg, mb, T⟩ := G
  w_on
  w_strict (k_dflt (refine' enter (K := hd.heap_1 w.params) (binds := [(Str.ofString "name", .str (Str.ofString "geom3") t), (Str.ofString "place", .int i ti)]) X T.nolimit ?o ?c ?b ?l hA (fun L h₁ F N dp un fr gd hA' => ?_) ?c2 ?c3 ?c4 ?c5; (case o => k_is); (case c => k_is); (case b => first | exact BindsTo.of_eq rfl | exact binds_K X rfl (by k_is) rfl rfl rfl); (case l => exact locs rfl); (case c2 => exact rfl); (case c3 => exact rfl); (case c4 => exact rfl); (case c5 => decide)))
  dsimp only
  w_strict (k_fold)
  w_strict (k_steps)
  refine hR _ _ (Done.ofFr (by assumption) rfl) (newPair_of (by assumption) ?_ ?_)
  all_goals first | (simp only [gN, gD, beq_iff_eq]; done) | (simp only [gN, gD, beq_iff_eq]; (repeat' split) <;> first | rfl | omega) | rfl
theorem gain_geom10 {prog : Program} {w : World} {A : Around} {s : Shared} {R : Result → Shared → Prop} (G : Gnd w s.heap) (hA : Room A 4) {t : Tok} {i : Int} {ti : Tok} (i0 : 1 ≤ i) (i1 : i ≤ 8)
    (hR : ∀ v s', Done s s' → NewPair s.heap s'.heap v (gN (.geom 10) i) (gD (.geom 10) i) → R (.ok (.ret v)) s') :
    codeAny (model prog w) A (.call (.ref 511) ⟨[.str (Str.ofString "geom10") t, .int i ti], []⟩) R s := by
  obtain ⟨X, p, loose, mean, mg, mb, T⟩ := G
  w_on
  w_strict (k_dflt (refine' enter (K := hd.heap_1 w.params) (binds := [(Str.ofString "name", .str (Str.ofString "geom10") t), (Str.ofString "place", .int i ti)]) X T.nolimit ?o ?c ?b ?l hA (fun L h₁ F N dp un fr gd hA' => ?_) ?c2 ?c3 ?c4 ?c5; (case o => k_is); (case c => k_is); (case b => first | exact BindsTo.of_eq rfl | exact binds_K X rfl (by k_is) rfl rfl rfl); (case l => exact locs rfl); (case c2 => exact rfl); (case c3 => exact rfl); (case c4 => exact rfl); (case c5 => decide)))
  dsimp only
  w_strict (k_fold)
  w_strict (k_steps)
  refine hR _ _ (Done.ofFr (by assumption) rfl) (newPair_of (by assumption) ?_ ?_)
  all_goals first | (simp only [gN, gD, beq_iff_eq]; done) | (simp only [gN, gD, beq_iff_eq]; (repeat' split) <;> first | rfl | omega) | rfl
theorem gain_atleast1 {prog : Program} {w : World} {A : Around} {s : Shared} {R : Result → Shared → Prop} (G : Gnd w s.heap) (hA : Room A 4) {t : Tok} {i : Int} {ti : Tok} (i0 : 1 ≤ i) (i1 : i ≤ 8)
    (hR : ∀ v s', Done s s' → NewPair s.heap s'.heap v (gN (.atl 1) i) (gD (.atl 1) i) → R (.ok (.ret v)) s') :
    codeAny (model prog w) A (.call (.ref 511) ⟨[.str (Str.ofString "atleast1") t, .int i ti], []⟩) R s := by
  obtain ⟨X, p, loose, mean, mg, mb, T⟩ := G
  w_on
  w_strict (k_dflt (refine' enter (K := hd.heap_1 w.params) (binds := [(Str.ofString "name", .str (Str.ofString "atleast1") t), (Str.ofString "place", .int i ti)]) X T.nolimit ?o ?c ?b ?l hA (fun L h₁ F N dp un fr gd hA' => ?_) ?c2 ?c3 ?c4 ?c5; (case o => k_is); (case c => k_is); (case b => first | exact BindsTo.of_eq rfl | exact binds_K X rfl (by k_is) rfl rfl rfl); (case l => exact locs rfl); (case c2 => exact rfl); (case c3 => exact rfl); (case c4 => exact rfl); (case c5 => decide)))
  dsimp only
  w_strict (k_fold)
  w_strict (k_steps)
  refine hR _ _ (Done.ofFr (by assumption) rfl) (newPair_of (by assumption) ?_ ?_)
  all_goals first | (simp only [gN, gD, beq_iff_eq]; done) | (simp only [gN, gD, beq_iff_eq]; (repeat' split) <;> first | rfl | omega) | rfl
theorem gain_atleast2 {prog : Program} {w : World} {A : Around} {s : Shared} {R : Result → Shared → Prop} (G : Gnd w s.heap) (hA : Room A 4) {t : Tok} {i : Int} {ti : Tok} (i0 : 1 ≤ i) (i1 : i ≤ 8)
    (hR : ∀ v s', Done s s' → NewPair s.heap s'.heap v (gN (.atl 2) i) (gD (.atl 2) i) → R (.ok (.ret v)) s') :
    codeAny (model prog w) A (.call (.ref 511) ⟨[.str (Str.ofString "atleast2") t, .int i ti], []⟩) R s := by
  obtain ⟨X, p, loose, mean, mg, mb, T⟩ := G
  w_on
  w_strict (k_dflt (refine' enter (K := hd.heap_1 w.params) (binds := [(Str.ofString "name", .str (Str.ofString "atleast2") t), (Str.ofString "place", .int i ti)]) X T.nolimit ?o ?c ?b ?l hA (fun L h₁ F N dp un fr gd hA' => ?_) ?c2 ?c3 ?c4 ?c5; (case o => k_is); (case c => k_is); (case b => first | exact BindsTo.of_eq rfl | exact binds_K X rfl (by k_is) rfl rfl rfl); (case l => exact locs rfl); (case c2 => exact rfl); (case c3 => exact rfl); (case c4 => exact rfl); (case c5 => decide)))
  dsimp only
  w_strict (k_fold)
  w_strict (k_steps)
  refine hR _ _ (Done.ofFr (by assumption) rfl) (newPair_of (by assumption) ?_ ?_)
  all_goals first | (simp only [gN, gD, beq_iff_eq]; done) | (simp only [gN, gD, beq_iff_eq]; (repeat' split) <;> first | rfl | omega) | rfl
theorem gain_atleast3 {prog : Program} {w : World} {A : Around} {s : Shared} {R : Result → Shared → Prop} (G : Gnd w s.heap) (hA : Room A 4) {t : Tok} {i : Int} {ti : Tok} (i0 : 1 ≤ i) (i1 : i ≤ 8)
    (hR : ∀ v s', Done s s' → NewPair s.heap s'.heap v (gN (.atl 3) i) (gD (.atl 3) i) → R (.ok (.ret v)) s') :
    codeAny (model prog w) A (.call (.ref 511) ⟨[.str (Str.ofString "atleast3") t, .int i ti], []⟩) R s := by
  obtain ⟨X, p, loose, mean, mg, mb, T⟩ := G
  w_on
  w_strict (k_dflt (refine' enter (K := hd.heap_1 w.params) (binds := [(Str.ofString "name", .str (Str.ofString "atleast3") t), (Str.ofString "place", .int i ti)]) X T.nolimit ?o ?c ?b ?l hA (fun L h₁ F N dp un fr gd hA' => ?_) ?c2 ?c3 ?c4 ?c5; (case o => k_is); (case c => k_is); (case b => first | exact BindsTo.of_eq rfl | exact binds_K X rfl (by k_is) rfl rfl rfl); (case l => exact locs rfl); (case c2 => exact rfl); (case c3 => exact rfl); (case c4 => exact rfl); (case c5 => decide)))
  dsimp only
  w_strict (k_fold)
  w_strict (k_steps)
  refine hR _ _ (Done.ofFr (by assumption) rfl) (newPair_of (by assumption) ?_ ?_)
  all_goals first | (simp only [gN, gD, beq_iff_eq]; done) | (simp only [gN, gD, beq_iff_eq]; (repeat' split) <;> first | rfl | omega) | rfl
theorem gain_code {prog : Program} {w : World} {A : Around} {s : Shared} {R : Result → Shared → Prop} (G : Gnd w s.heap) (hA : Room A 4) {k : Nat} (hk : k < 11) {t : Tok} {i : Int} {ti : Tok} (i0 : 1 ≤ i) (i1 : i ≤ 8)
    (hR : ∀ v s', Done s s' → NewPair s.heap s'.heap v (gN (fnAt k) i) (gD (fnAt k) i) → R (.ok (.ret v)) s') :
    codeAny (model prog w) A (.call (.ref 511) ⟨[.str (nameAt k) t, .int i ti], []⟩) R s := by
  match k, hk, hR with
  | 0, _, hR => exact gain_pav G hA i0 i1 hR
  | 1, _, hR => exact gain_adams G hA i0 i1 hR
  | 2, _, hR => exact gain_slav G hA i0 i1 hR
  | 3, _, hR => exact gain_cc G hA i0 i1 hR
  | 4, _, hR => exact gain_av G hA i0 i1 hR
  | 5, _, hR => exact gain_geom2 G hA i0 i1 hR
  | 6, _, hR => exact gain_geom3 G hA i0 i1 hR
  | 7, _, hR => exact gain_geom10 G hA i0 i1 hR
  | 8, _, hR => exact gain_atleast1 G hA i0 i1 hR
  | 9, _, hR => exact gain_atleast2 G hA i0 i1 hR
  | 10, _, hR => exact gain_atleast3 G hA i0 i1 hR
  | k + 11, hk, _ => exact absurd hk (by omega)
end
section
section
variable {prog : Program} {w : World} {A : Around} {s : Shared} {K : Frag} {R : Result → Shared → Prop}
/-- as enter, where the def has cells -/
theorem enterC {name qual : Str} {params : Arguments} {body : List Stmt} {scope : Scope} {dV kV doc pm cdv ct oc : Value} {an od : Option Addr} {osl : Array (Option Value)} {f : Addr} {args : Args} {binds : List (Str × Value)}
    (X : K.In s.heap) (hlim : s.heap.NoLimit) (ho : K.lookup f = some ⟨oc, od, .func (fnOf name qual params body scope dV kV doc pm an cdv ct), osl⟩) (hcd : codeIn K cdv qual = true)
    (hbind : BindsTo s (fnOf name qual params body scope dV kV doc pm an cdv ct) args binds) (hkind : (binds.all fun y => scope.names.lookup y.1 == some .local || scope.names.lookup y.1 == some .cell) = true)
    (hnd : ((cellsFrom 0 scope.names []).map (·.1)).Nodup) {k : Nat} (hA : Room A (k + 1))
    (h : ∀ L h₁ tk cells, Fr s.heap L h₁ (bindL (envOfC qual scope L f cdv).kindOf binds fun _ => none) → News s.heap L h₁ cells → CellsAre (bindC (envOfC qual scope L f cdv).kindOf binds fun _ => none) (cellsFrom (L + 1) scope.names []) cells → AtA k fun A' =>
      wpAny (model prog w) A' (execs body (envOfC qual scope L f cdv))
        (fun fl s' => R (.ok (.ret (match fl with | .ret v => v | _ => .none))) s') (fun _ _ => False)
        { s with heap := h₁, toks := tk })
    (hco : scope.isCoroutine = false) (hgen : scope.isGenerator = false) (hk : scope.kind = .function) : codeAny (model prog w) A (.call (.ref f) args) R s := by
  refine codeAny_call_function hA.lim (X _ _ ho) rfl hco hgen rfl (codeRec_of X hcd) (hbind _ _ _ _ ?_)
  refine wpAny_newFunctionEnv_cells hk (kindsX hkind _) fun env' he s' x => ?_
  subst he
  refine ⟨hlim.keeps x.toInCall.keep, codeAny_func ?_⟩
  refine Classical.byContradiction fun hg9 => ?_
  (refine xa_2_2 (x.done) ?_; intro h₁ tk r92 _)
  subst r92
  refine hg9 ?_
  clear hg9
  have hk₁ := x.toInCall.keep
  (refine xa_1_2 (Cl.news (h₀ := s.heap) (Nat.le_refl _) fun n c hm => ⟨x.cell n c (lookup_of_mem_nodup (cellsFrom_names scope.names 0 (s.heap.objs.size + 1) [] [] rfl ▸ hnd) hm), x.above n c hm⟩) ?_; intro cells NC Y)
  exact wpAny_mono ((h s.heap.objs.size h₁ tk cells ⟨x.toInCall.ns, hk₁, Nat.le_refl _⟩ NC Y).use (hA.deeper _)) (fun _ _ y => y) (fun _ _ y => y.elim)
end
section
variable {M : Model} {A : Around} {E : Value → Shared → Prop} {s : Shared} {h₀ : Heap} {L c : Addr} {m mg mb : Str → Option Value} {env : Env} {x : Str} {pos : Pos} {v : Value} {Q : Value → Shared → Prop} {o : Obj} {K : Frag} {p : Program} {loose : List Str}
theorem nmL (F : Fr h₀ L s.heap m) (he : env.locals = L) (hv : m x = some v) (h : Q v s) (hk : env.scope.kind = .function) (hx : env.kindOf x = some .local) (hd : (x == ("__debug__" : Str)) = false) :
    wpAny M A (eval (.Name x pos) env) Q E s := by
  subst he
  exact wpAny_Name (wpAny_loadName_local hk hx F.ns hv h) hd
theorem lnL (F : Fr h₀ L s.heap m) (he : env.locals = L) (hv : m x = some v) (h : Q v s) (hk : env.scope.kind = .function) (hx : env.kindOf x = some .local) :
    wpAny M A (loadName env x) Q E s := by
  subst he
  exact wpAny_loadName_local hk hx F.ns hv h
theorem nmC (F : Fr h₀ L s.heap m) (hc : env.cells.lookup x = some c) (ho : h₀.get? c = some o) (hd' : o.data = .cell (some v)) (h : Q v s) (hk : env.scope.kind = .function) (hx : env.kindOf x = some .cell) (hd : (x == ("__debug__" : Str)) = false) :
    wpAny M A (eval (.Name x pos) env) Q E s := wpAny_Name (wpAny_loadName_cell hk hx hc ⟨o, F.keep _ _ ho, hd'⟩ h) hd
theorem nmB (F : Fr h₀ L s.heap m) (X : K.In h₀) (T : TopRead p loose mg mb h₀) (e : nsIn K mainGlobals x = some none) (hv : bootBuiltins x = some v) (hn : x ≠ "__name__") (h : Q v s)
    (hg : env.globals = mainGlobals) (hb : env.builtins = builtinsNs) (hk : env.scope.kind = .function) (hx : env.kindOf x = some .globalImplicit) (hd : (x == ("__debug__" : Str)) = false) :
    wpAny M A (eval (.Name x pos) env) Q E s :=
  Name_function_global hk hx (loadGlobal_builtin (env := env) (by rw [hg]; exact T.g.keeps F.keep) (mg_none_of X T.g e) (by rw [hb]; exact T.b.keeps F.keep) ((T.builtins x hn).trans hv) h) hd
end
theorem liftI {prog : Program} {w : World} {A : Around} {s : Shared} {h₀ : Heap} {L : Addr} {m mg mb : Str → Option Value} {news : List (Addr × Obj)} {p : Program} {loose : List Str} {mean : ExcName → Option Value} {Q : Value → Shared → Prop} {E : Value → Shared → Prop} (F : Fr h₀ L s.heap m) (N : News h₀ L s.heap news) (X : (hd.heap_1 w.params).In h₀) (T : Top p loose mean mg mb h₀) {f : Value} {vs : List Value} {kw : List (Str × Value)} (z : Int)
    (C : ∀ R : Result → Shared → Prop, (∀ t s', Done s s' → R (.ok (.ret (.int z t))) s') → codeAny (model prog w) A (.call f ⟨vs, kw⟩) R s)
    (h : ∀ t h' tk, Fr h₀ L h' m → News h₀ L h' news → (∀ b o, s.heap.get? b = some o → h'.get? b = some o) → Q (.int z t) { s with heap := h', toks := tk }) :
    wpAny (model prog w) A (call f vs kw) Q E s := by
  refine call_of (C _ fun t s' D => ?_)
  have e := D.is
  dsimp only
  rw [e]
  exact h t _ _ (F.after D.keep) (newsAfter N D.keep) D.keep
theorem liftPair {prog : Program} {w : World} {A : Around} {s : Shared} {h₀ : Heap} {L : Addr} {m mg mb : Str → Option Value} {news : List (Addr × Obj)} {p : Program} {loose : List Str} {mean : ExcName → Option Value} {Q : Value → Shared → Prop} {E : Value → Shared → Prop} (F : Fr h₀ L s.heap m) (N : News h₀ L s.heap news) (X : (hd.heap_1 w.params).In h₀) (T : Top p loose mean mg mb h₀) {f : Value} {vs : List Value} {kw : List (Str × Value)} (a b : Int)
    (C : ∀ R : Result → Shared → Prop, (∀ v s', Done s s' → NewPair s.heap s'.heap v a b → R (.ok (.ret v)) s') → codeAny (model prog w) A (.call f ⟨vs, kw⟩) R s)
    (h : ∀ x t1 t2 h' tk, Fr h₀ L h' m → News h₀ L h' ((x, { cls := .type "tuple", data := .seq #[.int a t1, .int b t2] }) :: news) → (∀ p ∈ news, p.1 ≠ x) → Q (.ref x) { s with heap := h', toks := tk }) :
    wpAny (model prog w) A (call f vs kw) Q E s := by
  refine call_of (C _ fun v s' D NP => ?_)
  refine Classical.byContradiction fun hg9 => ?_
  (refine xa_3_3 (NP) ?_; intro x t1 t2 r93 g1 g2; (try clear NP))
  subst r93
  refine hg9 ?_
  clear hg9
  have e := D.is
  dsimp only
  rw [e]
  exact h x t1 t2 _ _ (F.after D.keep) (newsFresh0 F (newsAfter N D.keep) g1 g2) fun p hp q => by have := (N p hp).1; rw [q, g1] at this; cases this
theorem len_old {prog : Program} {w : World} {A : Around} {s : Shared} {h₀ : Heap} {L l : Addr} {m : Str → Option Value} {vs : List Value} {Q : Value → Shared → Prop} {E : Value → Shared → Prop} (F : Fr h₀ L s.heap m) (hl : h₀.IsList l vs.toArray) (hf : vs.length ≤ 1000000) (h : Q (.int vs.length (s.toks + 1)) { s with toks := s.toks + 1 + 1 }) :
    wpAny (model prog w) A (call (.builtin "len") [.ref l]) Q E s := by
  have e : vs.toArray.size = vs.length := List.size_toArray ..
  exact call_len_list (stays_list F.keep hl) (by rw [e]; omega) (by rw [e]; exact h)
theorem newsNil {h₀ h : Heap} {L : Addr} {m : Str → Option Value} (_F : Fr h₀ L h m) : News h₀ L h [] := News.nil
theorem item_at {prog : Program} {w : World} {A : Around} {s : Shared} {E : Value → Shared → Prop} {value slice : PySem.Expr} {l : Addr} {vs : List Value} {k : Int} {u : Tok} {v : Value} {Q : Value → Shared → Prop}
    (hl : s.heap.IsList l vs.toArray) (h0 : 0 ≤ k) (hhi : k < 2 ^ 63) (hx : vs[k.toNat]? = some v) (h : Q v s)
    (hs : subscripted slice false (.ref l) (.int k u) = operate [.ref l, .int k u] (getItem (.ref l) (.int k u)) := by with_unfolding_all rfl) :
    wpAny (model prog w) A (subscriptTail value slice (.ref l) (.int k u)) Q E s :=
  tail_any hl.typeIs slot_list_getitem.lookup (wpAny_getItem_list hl h0 hhi (by simpa using hx) h) hs
theorem any_contains (b : List Int) (c : Int) : (b.any fun x => x == c) = b.contains c := by
  induction b with
  | nil => rfl
  | cons x r ih => rw [List.any_cons, List.contains_cons, ih, Bool.beq_comm]
theorem keeps_tok (s : Shared) (t : Nat) : Keeps s { s with toks := t } := ⟨s.heap, t, rfl, fun _ _ e => e⟩
theorem keeps_refl (s : Shared) : Keeps s s := ⟨s.heap, s.toks, rfl, fun _ _ e => e⟩
noncomputable def AllNe (d : Addr) : List (Addr × Obj) → Prop
  | [] => True
  | p :: r => @Ne Nat p.1 d ∧ AllNe d r
theorem allNe_of {d : Addr} : ∀ {l : List (Addr × Obj)}, (∀ p ∈ l, p.1 ≠ d) → AllNe d l
  | [], _ => trivial
  | p :: _, h => ⟨h p (.head _), allNe_of fun q hq => h q (.tail _ hq)⟩
theorem len_cur {prog : Program} {w : World} {A : Around} {s : Shared} {l : Addr} {vs : List Value} {Q : Value → Shared → Prop} {E : Value → Shared → Prop} (hl : s.heap.IsList l vs.toArray) (hf : vs.length ≤ 1000000) (h : Q (.int vs.length (s.toks + 1)) { s with toks := s.toks + 1 + 1 }) :
    wpAny (model prog w) A (call (.builtin "len") [.ref l]) Q E s := by
  have e : vs.toArray.size = vs.length := List.size_toArray ..
  exact call_len_list hl (by rw [e]; omega) (by rw [e]; exact h)
theorem hold_pyF {prog : Program} {w : World} {A : Around} {target : Expr} {body : List Stmt} {env : Env} {Q : Flow → Shared → Prop} {E E' : Value → Shared → Prop} {x : Value} {s : Shared} (h : Hold (wpAny (model prog w) A (pyIter x) (fun it s₂ => ForAt prog w A target body env Q E it s₂) E' s)) : wpAny (model prog w) A (pyIter x) (fun it s₂ => ForAt prog w A target body env Q E it s₂) E' s := h
theorem hold_pyC {prog : Program} {w : World} {A : Around} {env : Env} {scope : Scope} {cl : List (Str × Addr)} {x : Str} {ifs : List Expr} {elt : Expr} {Q : Value → Shared → Prop} {E' : Value → Shared → Prop} {y : Value} {s : Shared} (h : Hold (wpAny (model prog w) A (pyIter y) (fun it s₂ => CompAt prog w A env scope cl x ifs elt Q it s₂) E' s)) : wpAny (model prog w) A (pyIter y) (fun it s₂ => CompAt prog w A env scope cl x ifs elt Q it s₂) E' s := h
theorem pairOfNews {h₀ h : Heap} {L x : Addr} {news : List (Addr × Obj)} {a b : Int} {t1 t2 : Tok} (N : News h₀ L h news) (hm : (x, ({ cls := .type "tuple", data := .seq #[.int a t1, .int b t2] } : Obj)) ∈ news) : IsPair h (.ref x) a b := ⟨x, t1, t2, rfl, (N _ hm).1⟩
end
section
noncomputable def zsOf (n : Nat) : List Nat := (List.range 5).filter fun z => n.testBit z
noncomputable def esOf (n : Nat) (tok : Nat → Tok) : Array (Int × Value) := ((zsOf n).map fun (z : Nat) => ((z : Int), Value.int (z : Int) (tok z))).toArray
noncomputable def tabOf (mask n fin : Nat) (led : Bool) (mv : Nat) : SetTable := ⟨mask, (zsOf n).toArray, #[], fin, led, mv, true⟩
noncomputable def masks : List Nat := [7, 15, 31]
theorem mem_masks {mask : Nat} (h : mask = 7 ∨ mask = 15 ∨ mask = 31) : mask ∈ masks := by
  rcases h with rfl | rfl | rfl
  · exact .head _
  · exact .tail _ (.head _)
  · exact .tail _ (.tail _ (.head _))
/-- what a computation shows of all n < 32 -/
theorem all_small {α : Type _} {F G : Nat → α} (e : (List.range 32).map F = (List.range 32).map G) {n : Nat} (h : n < 32) : F n = G n := List.map_inj_left.mp e n (List.mem_range.mpr h)
theorem all_small2 {α : Type _} {F G : Nat → Nat → α} {l : List Nat} (e : (List.range 32).map (fun n => l.map (F n)) = (List.range 32).map fun n => l.map (G n)) {n k : Nat} (h : n < 32) (hk : k ∈ l) : F n k = G n k := List.map_inj_left.mp (all_small e h) k hk
noncomputable def freeZ (n : Nat) : List Nat := (List.range 5).filter fun z => !n.testBit z
theorem lay_all (tok : Nat → Tok) (tk : Tok) (fin : Nat) (led : Bool) (mv : Nat) :
    (List.range 32).map (fun n => masks.map fun mask => (freeZ n).map fun (z : Nat) => layNew (tabOf mask n fin led mv) (esOf n tok) (z : Int) (.int (z : Int) tk)) =
    (List.range 32).map fun n => masks.map fun mask => (freeZ n).map fun (z : Nat) => (esOf (n ||| 2 ^ z) (fun y => if y = z then tk else tok y), tabOf mask (n ||| 2 ^ z) fin led mv, false, false) := by kernel_rfl
theorem lay_small {n z mask : Nat} (hn : n < 32) (hz : z < 5) (hm : mask = 7 ∨ mask = 15 ∨ mask = 31) (hb : n.testBit z = false) (tok : Nat → Tok) (tk : Tok) (fin : Nat) (led : Bool) (mv : Nat) :
    layNew (tabOf mask n fin led mv) (esOf n tok) (z : Int) (.int (z : Int) tk) = (esOf (n ||| 2 ^ z) (fun y => if y = z then tk else tok y), tabOf mask (n ||| 2 ^ z) fin led mv, false, false) :=
  List.map_inj_left.mp (all_small2 (lay_all tok tk fin led mv) hn (mem_masks hm)) z (List.mem_filter.mpr ⟨List.mem_range.mpr hz, by rw [hb]; rfl⟩)
theorem full_all (fin : Nat) (led : Bool) (mv : Nat) : (List.range 32).map (fun n => masks.map fun mask => (tabOf mask n fin led mv).tooFull) = (List.range 32).map fun n => masks.map fun mask => (mask == 7 && n == 31) := by kernel_rfl
theorem full_small {n mask : Nat} (hn : n < 32) (hm : mask = 7 ∨ mask = 15 ∨ mask = 31) (fin : Nat) (led : Bool) (mv : Nat) : (tabOf mask n fin led mv).tooFull = (mask == 7 && n == 31) :=
  all_small2 (F := fun n mask => (tabOf mask n fin led mv).tooFull) (full_all fin led mv) hn (mem_masks hm)
theorem fits_all (fin : Nat) (led : Bool) (mv : Nat) : (List.range 32).map (fun n => masks.map fun mask => (tabOf mask n fin led mv).fits (zsOf n).length) = (List.range 32).map fun _ => masks.map fun _ => true := by kernel_rfl
theorem fits_small {n mask : Nat} (hn : n < 32) (hm : mask = 7 ∨ mask = 15 ∨ mask = 31) (fin : Nat) (led : Bool) (mv : Nat) : (tabOf mask n fin led mv).fits (zsOf n).length = true :=
  all_small2 (F := fun n mask => (tabOf mask n fin led mv).fits (zsOf n).length) (fits_all fin led mv) hn (mem_masks hm)
theorem relay_small (tok : Nat → Tok) (fin : Nat) (led : Bool) (mv : Nat) : relayAll (tabOf 7 31 fin led mv) (esOf 31 tok) (SetTable.grown (esOf 31 tok).size) = (esOf 31 tok, tabOf 31 31 fin led (mv + 1), false) := by kernel_rfl
theorem or_small {n z : Nat} (hn : n < 32) (hz : z < 5) (hb : n.testBit z = true) : n ||| 2 ^ z = n := by
  have a : ∀ n : Fin 32, ∀ z : Fin 5, n.val.testBit z.val = true → n.val ||| 2 ^ z.val = n.val := by decide +kernel
  exact a ⟨n, hn⟩ ⟨z, hz⟩ hb
theorem or_lt {n z : Nat} (hn : n < 32) (hz : z < 5) : n ||| 2 ^ z < 32 := Nat.or_lt_two_pow (n := 5) hn (Nat.pow_lt_pow_right (by decide) hz)
theorem es_size (n : Nat) (tok : Nat → Tok) : (esOf n tok).size = (zsOf n).length := by unfold esOf; rw [List.size_toArray, List.length_map]
theorem zs_le (n : Nat) : (zsOf n).length ≤ 5 := List.length_filter_le _ (List.range 5)
theorem mem_zs {n z : Nat} : z ∈ zsOf n ↔ z < 5 ∧ n.testBit z = true := by unfold zsOf; rw [List.mem_filter, List.mem_range]
theorem len_small {n : Nat} (hn : n < 32) (h : n ≠ 31) : (zsOf n).length ≤ 4 := by
  have a : ∀ n : Fin 32, n.val ≠ 31 → (zsOf n.val).length ≤ 4 := by decide +kernel
  exact a ⟨n, hn⟩ h
theorem small_cases {n : Nat} (h : n < 32) : n = 0 ∨ n = 1 ∨ n = 2 ∨ n = 3 ∨ n = 4 ∨ n = 5 ∨ n = 6 ∨ n = 7 ∨ n = 8 ∨ n = 9 ∨ n = 10 ∨ n = 11 ∨ n = 12 ∨ n = 13 ∨ n = 14 ∨ n = 15 ∨ n = 16 ∨ n = 17 ∨ n = 18 ∨ n = 19 ∨ n = 20 ∨ n = 21 ∨ n = 22 ∨ n = 23 ∨ n = 24 ∨ n = 25 ∨ n = 26 ∨ n = 27 ∨ n = 28 ∨ n = 29 ∨ n = 30 ∨ n = 31 := (by decide +kernel : ∀ n : Fin 32, n.val = 0 ∨ n.val = 1 ∨ n.val = 2 ∨ n.val = 3 ∨ n.val = 4 ∨ n.val = 5 ∨ n.val = 6 ∨ n.val = 7 ∨ n.val = 8 ∨ n.val = 9 ∨ n.val = 10 ∨ n.val = 11 ∨ n.val = 12 ∨ n.val = 13 ∨ n.val = 14 ∨ n.val = 15 ∨ n.val = 16 ∨ n.val = 17 ∨ n.val = 18 ∨ n.val = 19 ∨ n.val = 20 ∨ n.val = 21 ∨ n.val = 22 ∨ n.val = 23 ∨ n.val = 24 ∨ n.val = 25 ∨ n.val = 26 ∨ n.val = 27 ∨ n.val = 28 ∨ n.val = 29 ∨ n.val = 30 ∨ n.val = 31) ⟨n, h⟩
theorem nil_all (tok : Nat → Tok) : (List.range 32).map (fun n => (esOf n tok).isEmpty) = (List.range 32).map fun n => (n == 0) := by kernel_rfl
theorem nil_small {n : Nat} (hn : n < 32) (tok : Nat → Tok) : (esOf n tok).isEmpty = (n == 0) := all_small (F := fun n => (esOf n tok).isEmpty) (nil_all tok) hn
end
section
section
variable {prog : Program} {w : World} {A : Around} {E : Value → Shared → Prop} {s : Shared} {a : Addr}
noncomputable def ledOf (w : World) : Bool := !(w.params.followText "set-order")
/-- a set of small ints: the bits of n < 32 -/
noncomputable def SmallSet (w : World) (o : Obj) (n : Nat) : Prop :=
  n < 32 ∧ ∃ ep mask fin mv tok, (mask = 7 ∨ mask = 15 ∨ mask = 31) ∧ (mask = 7 → n ≠ 31) ∧ o = { cls := .type "set", data := .set (esOf n tok) ep (tabOf mask n fin (ledOf w) mv) }
theorem es_elems (n : Nat) (tok : Nat → Tok) : ElemsOf (intKind prog w) (esOf n tok).toList := by
  intro e he
  simp only [esOf, List.mem_map] at he
  refine Classical.byContradiction fun hg9 => ?_
  (refine xa_1_2 (he) ?_; intro z hz r92; (try clear he))
  subst r92
  refine hg9 ?_
  clear hg9
  have h5 := (mem_zs.mp hz).1
  refine ⟨⟨(z : Int), intKind_is _ _ _ _, ?_⟩, rfl⟩
  have : ∀ z : Fin 5, ((z.val : Nat) : Int) = hashInt (z.val : Int) := by decide +kernel
  exact this ⟨z, h5⟩
theorem hash_small {z : Nat} (hz : z < 5) : (intKind prog w).hash (z : Int) = (z : Int) := by
  have : ∀ z : Fin 5, hashInt (z.val : Int) = ((z.val : Nat) : Int) := by decide +kernel
  exact this ⟨z, hz⟩
theorem find_small {n z : Nat} (hz : z < 5) (tok : Nat → Tok) : ((esOf n tok).toList.findIdx? fun e => (intKind prog w).is (z : Int) e.2).isSome = n.testBit z := by
  have key : (∃ e ∈ (esOf n tok).toList, (intKind prog w).is (z : Int) e.2 = true) ↔ n.testBit z = true := by
    constructor
    · rintro hJ90
      (refine xa_1_2 (hJ90) ?_; intro e he hp; (try clear hJ90))
      simp only [esOf, List.mem_map] at he
      refine Classical.byContradiction fun hg9 => ?_
      (refine xa_1_2 (he) ?_; intro y hy r92; (try clear he))
      subst r92
      refine hg9 ?_
      clear hg9
      have := (intKind prog w).inj _ _ _ hp (intKind_is prog w (y : Int) (tok y))
      have e : z = y := by omega
      rw [e]; exact (mem_zs.mp hy).2
    · intro hb
      exact ⟨((z : Int), Value.int (z : Int) (tok z)), by simp only [esOf, List.mem_map]; exact ⟨z, mem_zs.mpr ⟨hz, hb⟩, rfl⟩, intKind_is _ _ _ _⟩
  cases hr : (esOf n tok).toList.findIdx? fun e => (intKind prog w).is (z : Int) e.2 with
  | none =>
    cases hb : n.testBit z with
    | false => rfl
    | true => obtain ⟨e, he, hp⟩ := key.mpr hb; have := List.findIdx?_eq_none_iff.mp hr e he; rw [hp] at this; cases this
  | some j =>
    (refine xa_1_2 (List.findIdx?_eq_some_iff_getElem.mp hr) ?_; intro hj hpj _)
    rw [key.mp ⟨_, List.getElem_mem hj, hpj⟩]; rfl
theorem fitsE {n mask : Nat} (hn : n < 32) (hm : mask = 7 ∨ mask = 15 ∨ mask = 31) (tok : Nat → Tok) (fin : Nat) (led : Bool) (mv : Nat) : (tabOf mask n fin led mv).fits (esOf n tok).size = true := by rw [es_size]; exact fits_small hn hm fin led mv
/-- one more element -/
theorem add_small {o : Obj} {n z : Nat} {tk : Tok} {Q : Bool → Shared → Prop} (ho : s.heap.get? a = some o) (hs : SmallSet w o n) (hz : z < 5)
    (h : ∀ h' o', Heap.SameBut a s.heap h' → h'.get? a = some o' → SmallSet w o' (n ||| 2 ^ z) → Q (!n.testBit z) { s with heap := h' }) :
    wpAny (model prog w) A (setAddHashed a (.int (z : Int) tk) (z : Int)) Q E s := by
  refine Classical.byContradiction fun hg9 => ?_
  obtain ⟨hn, ep, mask, fin, mv, tok, hm, hnf, r98⟩ := hs
  subst r98
  refine hg9 ?_
  clear hg9
  have hf := fitsE hn hm tok fin (ledOf w) mv
  have hel := es_elems (prog := prog) (w := w) n tok
  have hb : (esOf n tok).size < scanBound := by rw [es_size]; have := zs_le n; unfold scanBound; omega
  have hh := hash_small (prog := prog) (w := w) hz
  unfold setAddHashed setAddHashedIn
  refine wpAny_holding (wpAny_bind (wpAny_setState_of ho rfl hf ?_))
  dsimp only
  rw [byScan_of rfl hb hel]
  simp only [↓reduceIte]
  unfold setAddByScan
  refine wpAny_bind ?_
  refine wpAny_bind (wpAny_rule ?_)
  have scan := fun Q => wpAny_setScan_of (A := A) (E := E) (s := s) (adding := true) (Q := Q) (intKind_is prog w (z : Int) tk) ho rfl hf hel
  rw [hh] at scan
  refine wpAny_bind (scan _ ?_)
  have hfi := find_small (prog := prog) (w := w) (n := n) hz tok
  cases hr : (esOf n tok).toList.findIdx? fun e => (intKind prog w).is (z : Int) e.2 with
  | some j =>
    rw [hr] at hfi
    dsimp only
    refine wpAny_pure (wpAny_pure ?_)
    have hb' : n.testBit z = true := hfi.symm
    have := h s.heap _ (Heap.SameBut.refl a s.heap) ho (by rw [or_small hn hz hb']; exact ⟨hn, ep, mask, fin, mv, tok, hm, hnf, rfl⟩)
    rw [hb'] at this
    exact this
  | none =>
    rw [hr] at hfi
    dsimp only
    have hb' : n.testBit z = false := hfi.symm
    rw [lay_small hn hz hm hb' tok tk fin (ledOf w) mv]
    dsimp only
    refine wpAny_bind (wpAny_pure ?_)
    rw [if_pos (show (tabOf mask (n ||| 2 ^ z) fin (ledOf w) mv).plain = true from rfl), hashByValue_scannable 8 (show (Value.int (z : Int) tk).scannable = true from rfl)]
    refine wpAny_bind (wpAny_pure ?_)
    simp only [plainKind, ↓reduceIte]
    have hn' := or_lt hn hz
    have hsz : (esOf (n ||| 2 ^ z) fun y => if y = z then tk else tok y).size ≤ sizeLine := by rw [es_size, sizeLine_eq]; have := zs_le (n ||| 2 ^ z); omega
    refine wpAny_bind (wpAny_storeSet_of ho rfl ?_ hsz)
    have hg : ∀ (h : Heap) (n' ep' mask' mv' : Nat) (tok' tok2 : Nat → Tok) (n2 mask2 mv2 : Nat), h.get? a = some { cls := .type "set", data := .set (esOf n' tok') ep' (tabOf mask' n' fin (ledOf w) mv') } →
        (h.update a (Obj.putSet (esOf n2 tok2) (tabOf mask2 n2 fin (ledOf w) mv2))).get? a = some { cls := .type "set", data := .set (esOf n2 tok2) (ep' + 1) (tabOf mask2 n2 fin (ledOf w) mv2) } := fun h n' ep' mask' mv' tok' tok2 n2 mask2 mv2 e =>
      Heap.get?_update_self _ e rfl
    have h1 := hg _ _ _ _ _ _ (fun y => if y = z then tk else tok y) (n ||| 2 ^ z) mask mv ho
    have sb1 := Heap.SameBut.update s.heap a (Obj.putSet (esOf (n ||| 2 ^ z) fun y => if y = z then tk else tok y) (tabOf mask (n ||| 2 ^ z) fin (ledOf w) mv))
    rw [full_small hn' hm]
    by_cases hfull : (mask == 7 && (n ||| 2 ^ z) == 31) = true
    · rw [hfull]
      rw [Bool.and_eq_true, beq_iff_eq, beq_iff_eq] at hfull
      obtain ⟨rfl, h31⟩ := hfull
      simp only [Bool.not_false, Bool.and_self, ↓reduceIte]
      rw [h31] at h1 sb1 hsz ⊢
      rw [relay_small]
      dsimp only
      refine wpAny_bind (wpAny_bind (wpAny_pure ?_))
      refine wpAny_pure ?_
      refine wpAny_bind (wpAny_storeSet_of h1 rfl ?_ hsz)
      refine wpAny_pure (wpAny_pure ?_)
      have h2 := hg _ _ _ _ _ _ (fun y => if y = z then tk else tok y) 31 31 (mv + 1) h1
      have := h _ _ (sb1.trans (Heap.SameBut.update _ a _)) h2 (by rw [h31]; exact ⟨by decide, _, 31, fin, mv + 1, _, .inr (.inr rfl), (by intro q; cases q), rfl⟩)
      rw [hb'] at this
      exact this
    · rw [Bool.not_eq_true] at hfull
      rw [hfull]
      simp only [Bool.not_false, Bool.and_false, Bool.false_eq_true, ↓reduceIte]
      refine wpAny_pure (wpAny_pure ?_)
      have := h _ _ sb1 h1 ⟨hn', _, mask, fin, mv, _, hm, (by intro q e; rw [q, e] at hfull; cases hfull), rfl⟩
      rw [hb'] at this
      exact this
end
end
section
section
variable {prog : Program} {w : World} {A : Around} {E : Value → Shared → Prop} {s : Shared}
noncomputable def freshSet (w : World) : Obj := { cls := .type "set", dict := none, data := .set #[] 0 (.fresh 0 0 (ledOf w)) }
theorem fresh_small : SmallSet w (freshSet w) 0 := ⟨by decide, 0, 7, 0, 0, fun _ => 0, .inl rfl, (by intro _ q; cases q), rfl⟩
theorem newSet_small {Q : Value → Shared → Prop} (h : Q (.ref s.heap.objs.size) { s with heap := s.heap.push (freshSet w) }) : wpAny (model prog w) A (newSet (.type "set")) Q E s := by
  unfold newSet setsByText
  refine wpAny_bind (wpAny_bind (wpAny_askSetting (wpAny_pure ?_)))
  dsimp only
  simp only [newObj]
  exact wpAny_bind (wpAny_alloc (wpAny_pure h))
/-- set(v), down to what fills the fresh set -/
theorem set_call {v : Value} {Q : Value → Shared → Prop}
    (h : ∀ A' : Around, A'.handled = A.handled → wpAny (model prog w) A' (Builtin.Frozenset.updateFrom "set.__init__" s.heap.objs.size v) (fun _ s' => Q (.ref s.heap.objs.size) s') (fun _ _ => False) { s with heap := s.heap.push (freshSet w) }) :
    wpAny (model prog w) A (call (.type "set") [v]) Q E s := by
  (refine xa_2_1 (F.called_set.mro) ?_; intro c tl hmro)
  have hmade := F.called_set.made
  have hsub := F.called_set.sub
  have h1 := F.called_set.notType
  have h2 := F.called_set.canCreate
  have hct := F.typeCall_set_1 v
  refine wpAny_call (codeAny_of_tree ?_)
  show wpAny _ _ (callAny (.type "set") _) _ _ _
  refine wpAny_pure ⟨Code.quiet_builtin _ (by decide +kernel), codeAny_builtin F.entry_type_call ?_⟩
  rw [Around.under_plain (weight_type_call_type "set" [v] []) rfl]
  repeat (any_goals (first | assumption | wp_step))
  have made : codeAny (model prog w) A.in1 (.call (.builtin "set.__new__") ⟨[.type "set", v], []⟩) (wants (fun o s₁ => o = .ref s.heap.objs.size ∧ s₁ = { s with heap := s.heap.push (freshSet w) }) E) s := by
    refine codeAny_of_tree ?_
    show wpAny _ _ (do checkBuiltinCall "set.__new__" ⟨[.type "set", v], []⟩; again (.builtin "set.__new__" ⟨[.type "set", v], []⟩)) _ _ s
    refine wpAny_bind (wpAny_of_eq (F.newCall_set_1 v) (wpAny_pure ⟨plainId_quiet F.plain_set_new _, codeAny_builtin F.entry_set_new ?_⟩))
    rw [Around.under_plainId F.plain_set_new _]
    unfold Builtin.«set.__new__» Builtin.Frozenset.newClass
    wp_walk
    refine wpAny_askSetting (wpAny_pure ?_)
    dsimp only
    simp only [newObj]
    exact wpAny_bind (wpAny_alloc (wpAny_pure (wpAny_pure ⟨rfl, rfl⟩)))
  refine codeAny_mono made fun r s₁ hr => ?_
  cases r with
  | error e => exact hr
  | ok fl =>
    cases fl with
    | ret obj =>
      obtain ⟨rfl, rfl⟩ := hr
      have hS : (s.heap.push (freshSet w)).get? s.heap.objs.size = some (freshSet w) := Heap.get?_push_size _ rfl
      have hT : Shared.TypeIs { s with heap := s.heap.push (freshSet w) } (.ref s.heap.objs.size) "set" := ⟨_, hS, rfl⟩
      have hli := F.called_set.init.lookup
      have hbi := F.called_set.init.bind (.ref s.heap.objs.size)
      repeat (any_goals (first | assumption | wp_step))
      refine codeAny_mono (codeAny_call_builtin (R := wants (fun r s₂ => r = .none ∧ Q (.ref s.heap.objs.size) s₂) (fun _ _ => False)) F.called_set.init.plain F.entry_set_init (check_set_init_1 hT ?_)) fun r₂ s₂ hr₂ => ?_
      · unfold Builtin.«set.__init__» noKeywords
        generalize hU : Builtin.Frozenset.updateFrom = U
        wp_walk
        subst hU
        exact wpAny_mono (h _ (by simp)) (fun _ s' q => wpAny_pure ⟨rfl, q⟩) fun _ _ e => e.elim
      · cases r₂ with
        | error e => exact hr₂.elim
        | ok fl₂ =>
          cases fl₂ with
          | ret r =>
            obtain ⟨rfl, hq⟩ := hr₂
            exact wpAny_pure (wpAny_pure hq)
          | _ => exact hr₂.elim
    | _ => exact hr.elim
end
end
section
section
variable {prog : Program} {w : World} {A : Around} {E : Value → Shared → Prop} {s : Shared} {R : Result → Shared → Prop} {I : Addr} {fp wr : List Addr} {n : Nat} {P : Nat → Value → Prop} {St : Nat → Heap → Prop}
noncomputable def orUp (val : Nat → Nat) : Nat → Nat
  | 0 => 0
  | i + 1 => orUp val i ||| 2 ^ val i
theorem setAdd_small {a : Addr} {o : Obj} {n z : Nat} {tk : Tok} {Q : Bool → Shared → Prop} (ho : s.heap.get? a = some o) (hs : SmallSet w o n) (hz : z < 5)
    (h : ∀ h' o', Heap.SameBut a s.heap h' → h'.get? a = some o' → SmallSet w o' (n ||| 2 ^ z) → Q (!n.testBit z) { s with heap := h', toks := s.toks + 1 }) :
    wpAny (model prog w) A (setAdd a (.int (z : Int) tk)) Q E s := by
  unfold setAdd
  refine wpAny_holding (wpAny_bind ((intKind prog w).pyHash (k := (z : Int)) (intKind_is _ _ _ _) ?_))
  rw [hash_small hz]
  exact add_small (s := { s with toks := s.toks + 1 }) ho hs hz h
theorem update_loop (W : Walks prog w A.in1 I fp wr n P St) (S : Addr) (hS : S ∉ fp) (val : Nat → Nat) (hval : ∀ i v, i < n → P i v → val i < 5 ∧ ∃ t, v = .int (val i : Int) t) :
    ∀ (k i : Nat) (s : Shared) (o : Obj), n - i = k → i ≤ n → St i s.heap → s.heap.get? S = some o → SmallSet w o (orUp val i) →
      (∀ h' tk o', h'.get? S = some o' → SmallSet w o' (orUp val n) → (∀ b ob, b ≠ S → b ∉ wr → s.heap.get? b = some ob → h'.get? b = some ob) → R (.ok (.ret .none)) { s with heap := h', toks := tk }) →
      codeAny (model prog w) A (.builtin "set.update.loop" ⟨[.ref S, .ref I], []⟩) R s := by
  have hSw : S ∉ wr := fun h => hS (W.sub _ h)
  intro k
  induction k with
  | zero =>
    intro i s o hk hi hst ho hs hR
    obtain rfl : i = n := by omega
    refine codeAny_builtin F.entry_set_update_loop ?_
    rw [Around.under_plainId F.plain_set_update_loop _]
    refine wpAny_bind (m := pyNext (.ref I)) (W.done s _ _ hst fun h' tk hk => ?_)
    exact wpAny_pure (hR h' tk o (hk S o hSw ho) hs fun b ob _ hb e => hk b ob hb e)
  | succ k ih =>
    intro i s o hk hi hst ho hs hR
    have hlt : i < n := by omega
    refine codeAny_builtin F.entry_set_update_loop ?_
    rw [Around.under_plainId F.plain_set_update_loop _]
    refine wpAny_bind (m := pyNext (.ref I)) (W.item i s _ _ hlt hst fun v h₁ tk hP hst₁ hk₁ => ?_)
    refine Classical.byContradiction fun hg9 => ?_
    obtain ⟨h5, t, r92⟩ := hval i v hlt hP
    subst r92
    refine hg9 ?_
    clear hg9
    refine wpAny_bind (m := holding _ _) (wpAny_holding (setAdd_small (hk₁ S o hSw ho) hs h5 fun h₂ o₂ sb ho₂ hs₂ => ?_))
    refine wpAny_pure ⟨plainId_quiet F.plain_set_update_loop _, ih (i + 1) _ o₂ (by omega) hlt (W.frame _ h₁ _ hst₁ fun b hb ob e => ?_) ho₂ hs₂ fun h' tk' o' ho' hs' hk' => ?_⟩
    · exact sb.extBut b ob (fun q => hS (q ▸ hb)) e
    · exact hR h' tk' o' ho' hs' fun b ob hbS hbw e => hk' b ob hbS hbw (sb.extBut b ob hbS (hk₁ b ob hbw e))
end
section
variable {prog : Program} {w : World} {A : Around} {E : Value → Shared → Prop} {s : Shared}
noncomputable def intsOf (n : Nat) : List Int := (zsOf n).map fun (z : Nat) => (z : Int)
theorem orUp_zs {n : Nat} (hn : n < 32) : orUp (fun i => (zsOf n).getD i 0) (zsOf n).length = n := by
  have a : ∀ n : Fin 32, orUp (fun i => (zsOf n.val).getD i 0) (zsOf n.val).length = n.val := by decide +kernel
  exact a ⟨n, hn⟩
theorem set_list {l : Addr} {vs : List Value} {n : Nat} {Q : Value → Shared → Prop} (hh : A.handled = none) (hl : s.heap.IsList l vs.toArray) (hi : IntsAre vs (intsOf n)) (hn : n < 32)
    (h : ∀ h' tk o, h'.get? s.heap.objs.size = some o → SmallSet w o n → (∀ b ob, s.heap.get? b = some ob → h'.get? b = some ob) → Q (.ref s.heap.objs.size) { s with heap := h', toks := tk }) :
    wpAny (model prog w) A (call (.type "set") [.ref l]) Q E s := by
  refine set_call fun A' hA' => ?_
  rw [hh] at hA'
  obtain ⟨ol, hol, hcl, nl, hdl⟩ := hl
  obtain ⟨ocls, odict, odata, oslots⟩ := ol
  simp only at hcl hdl
  subst hcl; subst hdl
  have hS : (s.heap.push (freshSet w)).get? s.heap.objs.size = some (freshSet w) := Heap.get?_push_size _ rfl
  have hol' : (s.heap.push (freshSet w)).get? l = some { cls := .type "list", dict := odict, data := .seq vs.toArray nl, slots := oslots } := Heap.get?_push_of_some _ hol
  have hl1 : (s.heap.push (freshSet w)).IsList l vs.toArray := ⟨_, hol', rfl, nl, rfl⟩
  have hlS : l < s.heap.objs.size := Heap.lt_size hol
  have hsls := F.sub_list_set
  have hslf := F.sub_list_frozenset
  have hne : (Value.type "list" == Value.type "dict") = false := by decide
  unfold Builtin.Frozenset.updateFrom
  generalize hPI : pyIter = PI
  wp_walk
  subst hPI
  refine wpAny_pyIter_list hl1 ?_
  refine wpAny_bind (wpAny_runValue ?_)
  have hneI : l ≠ (s.heap.push (freshSet w)).objs.size := by
    rw [Heap.size_push]; exact Nat.ne_of_lt (Nat.lt_succ_of_lt hlS)
  have W := Walks.list (prog := prog) (w := w) (A := A'.in1) (by simp [hA']) (s.heap.push (freshSet w)).objs.size l hneI vs.toArray
  have hlen : vs.length = (zsOf n).length := by have := hi.length; unfold intsOf at this; rwa [List.length_map] at this
  refine update_loop W s.heap.objs.size ?_ (fun i => (zsOf n).getD i 0) ?_ _ 0 _ (freshSet w) rfl (Nat.zero_le _) ?_ ?_ fresh_small ?_
  · rw [Heap.size_push]; simp only [List.mem_cons, List.not_mem_nil, or_false, not_or]
    exact ⟨Nat.ne_of_lt (Nat.lt_succ_self _), Nat.ne_of_gt hlS⟩
  · intro i v hlt hv
    rw [List.size_toArray, hlen] at hlt
    have e : vs[i]? = some v := by simpa using hv
    obtain ⟨t, e2⟩ := IntsAre.int_at hi i v e
    have hg : (intsOf n).getD i 0 = (((zsOf n).getD i 0 : Nat) : Int) := by
      unfold intsOf
      rw [List.getD_eq_getElem?_getD, List.getD_eq_getElem?_getD, List.getElem?_map, List.getElem?_eq_getElem hlt]; rfl
    refine ⟨?_, t, by rw [e2, hg]⟩
    have hm : (zsOf n).getD i 0 ∈ zsOf n := by
      rw [List.getD_eq_getElem?_getD, List.getElem?_eq_getElem hlt]; exact List.getElem_mem hlt
    exact (mem_zs.mp hm).1
  · exact ⟨⟨_, Heap.get?_push_size _ rfl, rfl, rfl⟩, hl1.push _⟩
  · exact Heap.get?_push_of_some _ hS
  · intro h' tk o' ho' hs' hk'
    rw [List.size_toArray, hlen, orUp_zs hn] at hs'
    refine wpAny_pure (h h' _ o' ho' hs' fun b ob e => hk' b ob ?_ ?_ (Heap.get?_push_of_some _ (Heap.get?_push_of_some _ e)))
    · exact Nat.ne_of_lt (Heap.lt_size e)
    · have := Heap.lt_size e
      simp only [List.mem_singleton]
      rw [Heap.size_push]
      exact Nat.ne_of_lt (Nat.lt_succ_of_lt this)
end
end
section
section
variable {prog : Program} {w : World} {A : Around} {E : Value → Shared → Prop} {s : Shared}
theorem small_map {α : Type _} {F G : Nat → α} (e : (List.range 32).map F = (List.range 32).map G) : ∀ n, n < 32 → F n = G n := fun _ h => all_small e h
theorem set_set {a : Addr} {o : Obj} {n : Nat} {Q : Value → Shared → Prop} (ho : s.heap.get? a = some o) (hs : SmallSet w o n)
    (h : ∀ h' tk o, h'.get? s.heap.objs.size = some o → SmallSet w o n → (∀ b ob, s.heap.get? b = some ob → h'.get? b = some ob) → Q (.ref s.heap.objs.size) { s with heap := h', toks := tk }) :
    wpAny (model prog w) A (call (.type "set") [.ref a]) Q E s := by
  refine set_call fun A' hA' => ?_
  refine Classical.byContradiction fun hg9 => ?_
  obtain ⟨hn, ep, mask, fin, mv, tok, hm, hnf, r98⟩ := hs
  subst r98
  refine hg9 ?_
  clear hg9
  have hS : (s.heap.push (freshSet w)).get? s.heap.objs.size = some (freshSet w) := Heap.get?_push_size _ rfl
  have ho' : (s.heap.push (freshSet w)).get? a = some _ := Heap.get?_push_of_some _ ho
  have hf := fitsE hn hm tok fin (ledOf w) mv
  have hsub := sub_set_self
  unfold Builtin.Frozenset.updateFrom
  generalize hM : Builtin.Frozenset.merge = M
  wp_walk
  subst hM
  unfold Builtin.Frozenset.merge
  refine wpAny_bind (wpAny_setEpoch_of (s := { s with heap := s.heap.push (freshSet w) }) ho' rfl hf ?_)
  unfold setMerge
  have hne : (s.heap.objs.size == a) = false := by rw [beq_eq_false_iff_ne]; exact Nat.ne_of_gt (Heap.lt_size ho)
  rw [if_neg (by rw [hne]; decide)]
  refine wpAny_bind (wpAny_setState_of ho' rfl hf ?_)
  dsimp only
  rw [nil_small hn]
  have kp : ∀ b ob, s.heap.get? b = some ob → (s.heap.push (freshSet w)).get? b = some ob := fun b ob e => Heap.get?_push_of_some _ e
  by_cases h0 : n = 0
  · subst h0
    simp only [beq_self_eq_true, if_true]
    exact wpAny_pure (h _ _ _ hS fresh_small kp)
  · rw [if_neg (by rw [beq_iff_eq]; exact h0)]
    unfold setRoomFor
    have hf0 := fitsE (n := 0) (mask := 7) (by decide) (.inl rfl) (fun _ => 0) 0 (ledOf w) 0
    refine wpAny_bind (wpAny_bind (wpAny_setState_of hS (es := esOf 0 fun _ => 0) (ep := 0) (t := tabOf 7 0 0 (ledOf w) 0) rfl hf0 ?_))
    by_cases h31 : n = 31
    · subst h31
      have hm2 : mask = 15 ∨ mask = 31 := by
        rcases hm with h | h | h
        · exact absurd rfl (hnf h)
        · exact .inl h
        · exact .inr h
      have hr : (tabOf 7 0 0 (ledOf w) 0).roomFor (esOf 31 tok).size = some 10 := by kernel_rfl
      dsimp only
      rw [hr]
      dsimp only
      unfold setRelay
      refine wpAny_bind (wpAny_setState_of hS (es := esOf 0 fun _ => 0) (ep := 0) (t := tabOf 7 0 0 (ledOf w) 0) rfl hf0 ?_)
      dsimp only
      rw [if_neg (by rw [sizeLine_eq]; decide)]
      refine wpAny_bind (wpAny_of_eq (a := (esOf 0 fun _ => 0, tabOf 15 0 0 (ledOf w) 1)) (by kernel_rfl) ?_)
      dsimp only
      refine wpAny_storeSet_of hS (es := esOf 0 fun _ => 0) (ep := 0) (t := tabOf 7 0 0 (ledOf w) 0) rfl ?_ (by rw [es_size, sizeLine_eq]; decide)
      have hS2 : ((s.heap.push (freshSet w)).update s.heap.objs.size (Obj.putSet (esOf 0 fun _ => 0) (tabOf 15 0 0 (ledOf w) 1))).get? s.heap.objs.size = some { cls := .type "set", data := .set (esOf 0 fun _ => 0) 1 (tabOf 15 0 0 (ledOf w) 1) } := Heap.get?_update_self _ hS rfl
      have hf1 := fitsE (n := 0) (mask := 15) (by decide) (.inr (.inl rfl)) (fun _ => 0) 0 (ledOf w) 1
      refine wpAny_bind (wpAny_setState_of hS2 (es := esOf 0 fun _ => 0) (ep := 1) (t := tabOf 15 0 0 (ledOf w) 1) rfl hf1 ?_)
      dsimp only
      rw [show ((tabOf 15 0 0 (ledOf w) 1).led && (tabOf mask 31 fin (ledOf w) mv).led) = ledOf w from Bool.and_self _]
      have fin_ : wpAny (model prog w) A' (storeSet s.heap.objs.size (esOf 31 tok) (tabOf 15 31 0 (ledOf w) 1)) (fun _ s' => Q (.ref s.heap.objs.size) s') (fun _ _ => False) { s with heap := (s.heap.push (freshSet w)).update s.heap.objs.size (Obj.putSet (esOf 0 fun _ => 0) (tabOf 15 0 0 (ledOf w) 1)) } := by
        refine wpAny_storeSet_of hS2 (es := esOf 0 fun _ => 0) (ep := 1) (t := tabOf 15 0 0 (ledOf w) 1) rfl ?_ (by rw [es_size, sizeLine_eq]; decide)
        refine h _ _ _ (Heap.get?_update_self _ hS2 rfl) ⟨hn, _, 15, 0, 1, tok, .inr (.inl rfl), (by intro q; cases q), rfl⟩ fun b ob e => ?_
        have sb1 := Heap.SameBut.update (s.heap.push (freshSet w)) s.heap.objs.size (Obj.putSet (esOf 0 fun _ => 0) (tabOf 15 0 0 (ledOf w) 1))
        have sb2 := Heap.SameBut.update ((s.heap.push (freshSet w)).update s.heap.objs.size (Obj.putSet (esOf 0 fun _ => 0) (tabOf 15 0 0 (ledOf w) 1))) s.heap.objs.size (Obj.putSet (esOf 31 tok) (tabOf 15 31 0 (ledOf w) 1))
        exact (sb1.trans sb2).extBut b ob (Nat.ne_of_lt (Heap.lt_size e)) (kp b ob e)
      rcases hm2 with rfl | rfl
      · rw [show (tabOf 15 0 0 (ledOf w) 1).road (tabOf 15 31 fin (ledOf w) mv) = .slotForSlot from rfl]
        exact fin_
      · rw [show (tabOf 15 0 0 (ledOf w) 1).road (tabOf 31 31 fin (ledOf w) mv) = .clean from rfl]
        refine wpAny_bind (wpAny_of_eq (a := (esOf 31 tok, tabOf 15 31 0 (ledOf w) 1)) (by kernel_rfl) fin_)
    · have hl := len_small hn h31
      have hr : (tabOf 7 0 0 (ledOf w) 0).roomFor (esOf n tok).size = none := by
        unfold SetTable.roomFor
        rw [es_size, if_neg]
        show ¬ ((0 + (zsOf n).length) * 5 ≥ 7 * 3)
        omega
      dsimp only
      rw [hr]
      refine wpAny_pure ?_
      refine wpAny_bind (wpAny_setState_of hS (es := esOf 0 fun _ => 0) (ep := 0) (t := tabOf 7 0 0 (ledOf w) 0) rfl hf0 ?_)
      dsimp only
      rw [show ((tabOf 7 0 0 (ledOf w) 0).led && (tabOf mask n fin (ledOf w) mv).led) = ledOf w from Bool.and_self _]
      have fin_ : ∀ (tok' : Nat → Tok), wpAny (model prog w) A' (storeSet s.heap.objs.size (esOf n tok') (tabOf 7 n 0 (ledOf w) 0)) (fun _ s' => Q (.ref s.heap.objs.size) s') (fun _ _ => False) { s with heap := s.heap.push (freshSet w) } := fun tok' => by
        refine wpAny_storeSet_of hS (es := esOf 0 fun _ => 0) (ep := 0) (t := tabOf 7 0 0 (ledOf w) 0) rfl ?_ (by rw [es_size, sizeLine_eq]; omega)
        refine h _ _ _ (Heap.get?_update_self _ hS rfl) ⟨hn, _, 7, 0, 0, tok', .inl rfl, (fun _ => h31), rfl⟩ fun b ob e => ?_
        exact (Heap.SameBut.update _ s.heap.objs.size _).extBut b ob (Nat.ne_of_lt (Heap.lt_size e)) (kp b ob e)
      rcases hm with rfl | rfl | rfl
      · rw [show (tabOf 7 0 0 (ledOf w) 0).road (tabOf 7 n fin (ledOf w) mv) = .slotForSlot from rfl]
        exact fin_ tok
      · rw [show (tabOf 7 0 0 (ledOf w) 0).road (tabOf 15 n fin (ledOf w) mv) = .clean from rfl]
        refine wpAny_bind (wpAny_of_eq (a := (esOf n tok, tabOf 7 n 0 (ledOf w) 0)) ?_ (fin_ tok))
        clear fin_ h hf hf0 hsub hnf hS hr hl
        clear ho ho' h0 h31
        revert n
        refine @small_map _ _ _ ?_
        kernel_rfl
      · rw [show (tabOf 7 0 0 (ledOf w) 0).road (tabOf 31 n fin (ledOf w) mv) = .clean from rfl]
        refine wpAny_bind (wpAny_of_eq (a := (esOf n tok, tabOf 7 n 0 (ledOf w) 0)) ?_ (fin_ tok))
        clear fin_ h hf hf0 hsub hnf hS hr hl
        clear ho ho' h0 h31
        revert n
        refine @small_map _ _ _ ?_
        kernel_rfl
end
end
section
theorem erase_perm {α : Type} {l : List α} {i : Nat} (h : i < l.length) : List.Perm (l[i] :: l.eraseIdx i) l := by
  rw [List.eraseIdx_eq_take_drop_succ]
  refine List.perm_middle.symm.trans ?_
  rw [← List.drop_eq_getElem_cons h, List.take_append_drop]
theorem pick_go {α : Type} (next : Nat → Nat) : ∀ (fuel k : Nat) (left : List α) (out : Array α), left.length ≤ fuel → List.Perm (pickOrder.go next fuel k left out).toList (out.toList ++ left)
  | 0, k, left, out, h => by
    have : left = [] := List.length_eq_zero_iff.mp (Nat.le_zero.mp h)
    subst this; unfold pickOrder.go; simp
  | fuel + 1, k, left, out, h => by
    unfold pickOrder.go
    cases left with
    | nil => simp
    | cons y ys =>
      have hlt : next k % (y :: ys).length < (y :: ys).length := Nat.mod_lt _ (by simp)
      rw [List.getElem?_eq_getElem hlt]
      dsimp only
      refine (pick_go next fuel (k + 1) _ _ (by rw [List.length_eraseIdx_of_lt hlt]; simp at h ⊢; omega)).trans ?_
      rw [Array.toList_push, List.append_assoc]
      exact (List.Perm.refl _).append (erase_perm hlt)
theorem pick_perm {α : Type} (next : Nat → Nat) (xs : Array α) : List.Perm (pickOrder next xs).toList xs.toList := by
  have := pick_go next xs.size 0 xs.toList #[] (by simp)
  simpa [pickOrder] using this
/-- the order in which a set is walked -/
noncomputable def walkOf (w : World) (a ep n : Nat) (tok : Nat → Tok) : Array (Int × Value) := if w.params.followText "set-order" then pickOrder (w.params.setOrder a ep) (esOf n tok) else esOf n tok
theorem walk_perm (w : World) (a ep n : Nat) (tok : Nat → Tok) : List.Perm (walkOf w a ep n tok).toList (esOf n tok).toList := by
  unfold walkOf; split
  · exact pick_perm _ _
  · exact .rfl

section
variable {prog : Program} {w : World} {A : Around} {E : Value → Shared → Prop} {s : Shared}
noncomputable def setIterObj (slot i : Nat) (a : Addr) (size ep : Nat) : Obj := { cls := .type "set_iterator", data := .fields #[rawInt slot, rawInt i, .ref a, rawInt size, rawInt ep] }
noncomputable def slotAt (w : World) (n i : Nat) : Nat := if w.params.followText "set-order" then 0 else match i with | 0 => 0 | j + 1 => (zsOf n).getD j 0 + 1
theorem entry_set_iter : entryFor table "set.__iter__" = some Builtin.«frozenset.__iter__» :=
  entryFor_alias (id' := "frozenset.__iter__") (by kernel_rfl) rfl (by decide +kernel) (by kernel_rfl)
theorem slot_setiter_next : Slot "set_iterator" "__next__" "set_iterator.__next__" :=
  .of (owner := "set_iterator") (n := "__next__") (by rw [typeLookup_type, builtinLookup_eq_fast]; kernel_rfl) (by decide +kernel) (by decide +kernel) (by decide +kernel)
    (by first | exact .inl (by decide +kernel) | exact .inr (by decide +kernel)) (by rw [isSubtype_type]; kernel_rfl)
theorem entry_setiter_next : entryFor table "set_iterator.__next__" = some Builtin.«set_iterator.__next__» := entryFor_of_fast (by kernel_rfl)
theorem args_setiter_next (a : Value) : argsOk "set_iterator.__next__" ⟨[a], []⟩ := by unfold argsOk; kernel_rfl
theorem wpAny_ite_false {α : Type} {M : Model} {c : Bool} {x y : Sem α} {Q : α → Shared → Prop} (e : c = false) (h : wpAny M A y Q E s) : wpAny M A (if c = true then x else y) Q E s := by
  subst e; exact h
theorem pyIter_small {a : Addr} {n ep mask fin mv : Nat} {tok : Nat → Tok} {Q : Value → Shared → Prop} (hn : n < 32) (hm : mask = 7 ∨ mask = 15 ∨ mask = 31)
    (ho : s.heap.get? a = some { cls := .type "set", data := .set (esOf n tok) ep (tabOf mask n fin (ledOf w) mv) })
    (h : Q (.ref s.heap.objs.size) { s with heap := s.heap.push (setIterObj 0 0 a (zsOf n).length ep) }) :
    wpAny (model prog w) A (pyIter (.ref a)) Q E s := by
  have hT : s.TypeIs (.ref a) "set" := ⟨_, ho, rfl⟩
  have hf := fitsE hn hm tok fin (ledOf w) mv
  refine wpAny_pyIter_slot hT F.slot_set_iter (wpAny_call_entry F.slot_set_iter hT entry_set_iter ?_ (F.args_set_iter_1 _))
  unfold Builtin.«frozenset.__iter__» Builtin.Frozenset.slot0 slotArgs
  simp only [List.isEmpty_nil, Bool.not_true, Bool.false_eq_true, ↓reduceIte, bind_assoc, List.length_nil, bne_self_eq_false]
  unfold Builtin.Frozenset.addrOf Builtin.Frozenset.sizeOf
  refine wpAny_bind (wpAny_pure ?_)
  try dsimp only
  refine wpAny_bind (wpAny_pure ?_)
  refine wpAny_bind (wpAny_bind (wpAny_setEntries_of ho rfl hf (wpAny_pure ?_)))
  unfold setDrawn setsByText
  refine wpAny_bind (wpAny_bind (wpAny_setState_of ho rfl hf ?_))
  dsimp only
  refine wpAny_bind (wpAny_bind (wpAny_askSetting (wpAny_pure ?_)))
  refine wpAny_pure ?_
  have hdr : ∀ b : Bool, (!b && (!(tabOf mask n fin (ledOf w) mv).plain && decide ((esOf n tok).size > 1))) = false := fun b => by
    show (!b && (!true && _)) = false
    simp
  refine wpAny_ite_false (hdr _) ?_
  refine wpAny_bind (wpAny_pure ?_)
  refine wpAny_bind (wpAny_setEpoch_of ho rfl hf ?_)
  rw [es_size]
  exact wpAny_bind (wpAny_newObj_type (wpAny_pure ⟨_, rfl, "set_iterator", _, ⟨_, Heap.get?_push_size _ rfl, rfl⟩, slot_setiter_next.lookup, h⟩))
end
end
section
section
variable {prog : Program} {w : World} {A : Around} {E : Value → Shared → Prop} {s : Shared}
noncomputable def slotZ (n i : Nat) : Nat := match i with | 0 => 0 | j + 1 => (zsOf n).getD j 0 + 1
theorem below_small {n i : Nat} (hn : n < 32) (hi : i ≤ (zsOf n).length) : SetTable.below (zsOf n).toArray (slotZ n i) = i := by
  have a : ∀ n : Fin 32, ∀ i : Fin 6, i.val ≤ (zsOf n.val).length → SetTable.below (zsOf n.val).toArray (slotZ n.val i.val) = i.val := by decide +kernel
  exact a ⟨n, hn⟩ ⟨i, by have := zs_le n; omega⟩ hi
/-- one step of a set's walk -/
theorem setNext_small {a : Addr} {n ep mask fin mv i : Nat} {tok : Nat → Tok} {Q : Option (Value × Nat) → Shared → Prop} (hn : n < 32) (hm : mask = 7 ∨ mask = 15 ∨ mask = 31)
    (ho : s.heap.get? a = some { cls := .type "set", data := .set (esOf n tok) ep (tabOf mask n fin (ledOf w) mv) }) (hi : i ≤ (zsOf n).length)
    (h : Q ((walkOf w a ep n tok)[i]?.map fun e => (e.2, slotAt w n (i + 1))) s) :
    wpAny (model prog w) A (setNext a (slotAt w n i) i ep) Q E s := by
  have hf := fitsE hn hm tok fin (ledOf w) mv
  unfold setNext
  refine wpAny_bind (wpAny_setState_of ho rfl hf ?_)
  dsimp only
  unfold setsByText
  refine wpAny_bind (wpAny_bind (wpAny_askSetting (wpAny_pure ?_)))
  have mw : (model prog w).w = w := rfl
  dsimp only
  rw [mw]
  cases hb : w.params.followText "set-order" with
  | true =>
    simp only [if_true]
    have e1 : slotAt w n i = 0 := by unfold slotAt; rw [if_pos hb]
    have e2 : slotAt w n (i + 1) = 0 := by unfold slotAt; rw [if_pos hb]
    have e3 : walkOf w a ep n tok = pickOrder (w.params.setOrder a ep) (esOf n tok) := by unfold walkOf; rw [if_pos hb]
    rw [e2, e3] at h
    rw [e1]
    refine wpAny_ite_false (by simp) ?_
    refine wpAny_bind ?_
    unfold setWalk
    refine wpAny_bind (wpAny_setState_of ho rfl hf ?_)
    dsimp only
    unfold setsByText
    refine wpAny_bind (wpAny_bind (wpAny_askSetting (wpAny_pure ?_)))
    dsimp only
    rw [mw, hb]
    simp only [if_true]
    refine wpAny_bind (wpAny_askSetting (wpAny_pure ?_))
    exact wpAny_pure h
  | false =>
    have e1 : slotAt w n i = slotZ n i := by unfold slotAt; rw [hb]; rfl
    have e2 : slotAt w n (i + 1) = slotZ n (i + 1) := by unfold slotAt; rw [hb]; rfl
    have e3 : walkOf w a ep n tok = esOf n tok := by unfold walkOf; rw [hb]; rfl
    rw [e2, e3] at h
    rw [e1]
    have hl : ledOf w = true := by unfold ledOf; rw [hb]; rfl
    simp only [Bool.false_eq_true, if_false]
    rw [hl]
    refine wpAny_ite_false (show (!true && _) = false by simp) ?_
    refine wpAny_bind (wpAny_ite_false (c := (!true && !(esOf n tok).isEmpty)) (by simp) (wpAny_pure ?_))
    refine wpAny_pure ?_
    have e4 : (tabOf mask n fin true mv).place = (zsOf n).toArray := rfl
    rw [e4, below_small hn hi]
    by_cases hlt : i < (zsOf n).length
    · have g1 : (esOf n tok)[i]? = some (Int.ofNat (zsOf n)[i], Value.int (Int.ofNat (zsOf n)[i]) (tok (zsOf n)[i])) := by
        unfold esOf; rw [List.getElem?_toArray, List.getElem?_map, List.getElem?_eq_getElem hlt]; rfl
      have g2 : (zsOf n).toArray[i]? = some (zsOf n)[i] := by rw [List.getElem?_toArray, List.getElem?_eq_getElem hlt]
      have g3 : slotZ n (i + 1) = (zsOf n)[i] + 1 := by show (zsOf n).getD i 0 + 1 = _; rw [List.getD_eq_getElem?_getD, List.getElem?_eq_getElem hlt]; rfl
      rw [g1, g3] at h
      rw [g1, g2]
      exact h
    · have g1 : (esOf n tok)[i]? = none := Array.getElem?_eq_none (by rw [es_size]; omega)
      rw [g1] at h
      rw [g1]
      exact h
end

section
variable {prog : Program} {w : World} {A : Around} {E : Value → Shared → Prop} {s : Shared}
theorem pyNext_small_item {I a : Addr} {n ep mask fin mv i : Nat} {tok : Nat → Tok} {x : Int × Value} {Q : Option Value → Shared → Prop} (hn : n < 32) (hm : mask = 7 ∨ mask = 15 ∨ mask = 31)
    (ho : s.heap.get? a = some { cls := .type "set", data := .set (esOf n tok) ep (tabOf mask n fin (ledOf w) mv) }) (hI : s.heap.get? I = some (setIterObj (slotAt w n i) i a (zsOf n).length ep)) (hx : (walkOf w a ep n tok)[i]? = some x)
    (h : ∀ h', Heap.SameBut I s.heap h' → h'.get? I = some (setIterObj (slotAt w n (i + 1)) (i + 1) a (zsOf n).length ep) → Q (some x.2) { s with heap := h' }) :
    wpAny (model prog w) A (pyNext (.ref I)) Q E s := by
  have hT : s.TypeIs (.ref I) "set_iterator" := ⟨_, hI, rfl⟩
  have hf := fitsE hn hm tok fin (ledOf w) mv
  have hlt : i < (zsOf n).length := by
    have := (Array.getElem?_eq_some_iff.mp hx).1
    rwa [← Array.length_toList, (walk_perm w a ep n tok).length_eq, Array.length_toList, es_size] at this
  unfold pyNext
  refine wpAny_bind (wpAny_attempt (wpAny_callSpecial?_slot (name := Str.ofString "__next__") hT slot_setiter_next (wpAny_call_entry slot_setiter_next hT entry_setiter_next ?_ (args_setiter_next _))))
  unfold Builtin.«set_iterator.__next__» slotArgs
  simp only [List.isEmpty_nil, Bool.not_true, Bool.false_eq_true, ↓reduceIte, bind_assoc, List.length_nil, bne_self_eq_false]
  refine wpAny_bind (wpAny_pure ?_)
  dsimp only
  refine wpAny_bind (wpAny_fieldsOf hI rfl ?_)
  simp only [rawInt]
  refine wpAny_bind (wpAny_bind (wpAny_setState_of ho rfl hf (wpAny_pure ?_)))
  rw [es_size]
  refine wpAny_ite_false (by simp) ?_
  simp only [Int.toNat_natCast]
  refine wpAny_bind (setNext_small hn hm ho (Nat.le_of_lt hlt) ?_)
  rw [hx]
  dsimp only [Option.map]
  refine wpAny_bind (wpAny_setField hI rfl (by simp) ?_)
  have h1 := Heap.get?_update_self (Obj.mapFields (·.setIfInBounds 0 (.int (slotAt w n (i + 1) : Int) 0))) hI rfl
  refine wpAny_bind (wpAny_setField h1 rfl (by simp) ?_)
  have h2 := Heap.get?_update_self (Obj.mapFields (·.setIfInBounds 1 (.int ((i : Int) + 1) 0))) h1 rfl
  exact wpAny_pure ⟨_, rfl, wpAny_pure (h _ ((Heap.SameBut.update ..).trans (Heap.SameBut.update ..)) h2)⟩
theorem pyNext_small_end {I a : Addr} {n ep mask fin mv i : Nat} {tok : Nat → Tok} {Q : Option Value → Shared → Prop} (hh : A.handled = none) (hn : n < 32) (hm : mask = 7 ∨ mask = 15 ∨ mask = 31)
    (ho : s.heap.get? a = some { cls := .type "set", data := .set (esOf n tok) ep (tabOf mask n fin (ledOf w) mv) }) (hI : s.heap.get? I = some (setIterObj (slotAt w n i) i a (zsOf n).length ep)) (hi : i = (zsOf n).length)
    (h : ∀ h', Heap.ExtBut I s.heap h' → Q none { s with heap := h' }) :
    wpAny (model prog w) A (pyNext (.ref I)) Q E s := by
  have hT : s.TypeIs (.ref I) "set_iterator" := ⟨_, hI, rfl⟩
  have hf := fitsE hn hm tok fin (ledOf w) mv
  have hx : (walkOf w a ep n tok)[i]? = none := Array.getElem?_eq_none (by rw [← Array.length_toList, (walk_perm w a ep n tok).length_eq, Array.length_toList, es_size]; omega)
  unfold pyNext
  refine wpAny_bind (wpAny_attempt (wpAny_callSpecial?_slot (name := Str.ofString "__next__") hT slot_setiter_next (wpAny_call_entry slot_setiter_next hT entry_setiter_next ?_ (args_setiter_next _))))
  unfold Builtin.«set_iterator.__next__» slotArgs
  simp only [List.isEmpty_nil, Bool.not_true, Bool.false_eq_true, ↓reduceIte, bind_assoc, List.length_nil, bne_self_eq_false]
  refine wpAny_bind (wpAny_pure ?_)
  dsimp only
  refine wpAny_bind (wpAny_fieldsOf hI rfl ?_)
  simp only [rawInt]
  refine wpAny_bind (wpAny_bind (wpAny_setState_of ho rfl hf (wpAny_pure ?_)))
  rw [es_size]
  refine wpAny_ite_false (by simp) ?_
  simp only [Int.toNat_natCast]
  refine wpAny_bind (setNext_small hn hm ho (by omega) ?_)
  rw [hx]
  dsimp only [Option.map]
  refine wpAny_bind (wpAny_setField hI rfl (by simp) ?_)
  show wpAny _ _ (newExc (.type "StopIteration") [] >>= _) _ _ _
  refine wpAny_bind ?_
  simp only [newExc, newTuple]
  refine wpAny_bind (wpAny_newObj_type ?_ (by size_fits))
  refine wpAny_bind (m := firstArgMember _ _) (wpAny_of_eq (a := Value.none) (by first | rfl | (simp only [firstArgMember]; rfl)) ?_)
  refine wpAny_newObj_type ?_ (by size_fits)
  simp only [raiseNew]
  refine wpAny_bind (wpAny_handled ?_)
  rw [show A.in1.handled = none from hh]
  refine wpAny_bind (wpAny_pure (wpAny_throw ?_))
  refine wpAny_bind (wpAny_isInstance (T := "StopIteration") (b := true) ⟨_, Heap.get?_push_size _ rfl, rfl⟩ isSubtype_stop ?_)
  exact wpAny_pure (h _ (((Heap.SameBut.update ..).extBut.push _).push _))
end
end
section
section
variable {prog : Program} {w : World} {A : Around} {s : Shared}
noncomputable def ordOf (w : World) (a ep n : Nat) (tok : Nat → Tok) : List Nat := (walkOf w a ep n tok).toList.map fun e => e.1.toNat
theorem ord_perm (w : World) (a ep n : Nat) (tok : Nat → Tok) : List.Perm (ordOf w a ep n tok) (zsOf n) := by
  have h := (walk_perm w a ep n tok).map fun e => e.1.toNat
  refine h.trans ?_
  unfold esOf
  rw [List.map_map]
  have : ((fun e : Int × Value => e.1.toNat) ∘ fun (z : Nat) => ((z : Int), Value.int (z : Int) (tok z))) = id := by funext z; rfl
  rw [this, List.map_id]
theorem ord_at {w : World} {a ep n i : Nat} {tok : Nat → Tok} {x : Int × Value} (h : (walkOf w a ep n tok)[i]? = some x) : ∃ z t, (ordOf w a ep n tok)[i]? = some z ∧ x.2 = .int (z : Int) t := by
  have hm : x ∈ (walkOf w a ep n tok).toList := by rw [← Array.getElem?_toList] at h; exact List.mem_of_getElem? h
  have hm2 := (walk_perm w a ep n tok).mem_iff.mp hm
  simp only [esOf, List.mem_map] at hm2
  refine Classical.byContradiction fun hg9 => ?_
  (refine xa_1_2 (hm2) ?_; intro z _ r92; (try clear hm2))
  subst r92
  refine hg9 ?_
  clear hg9
  refine ⟨z, tok z, ?_, rfl⟩
  unfold ordOf
  rw [List.getElem?_map, Array.getElem?_toList, h]; rfl
theorem walk_size (w : World) (a ep n : Nat) (tok : Nat → Tok) : (walkOf w a ep n tok).size = (zsOf n).length := by
  rw [← Array.length_toList, (walk_perm w a ep n tok).length_eq, Array.length_toList, es_size]
theorem iter_set (hh : A.handled = none) (I a : Addr) {n ep mask fin mv : Nat} {tok : Nat → Tok} (hn : n < 32) (hm : mask = 7 ∨ mask = 15 ∨ mask = 31) :
    Iter prog w A I (zsOf n).length (fun i v => ∃ z t, (ordOf w a ep n tok)[i]? = some z ∧ v = .int (z : Int) t) (fun i h => h.get? I = some (setIterObj (slotAt w n i) i a (zsOf n).length ep))
      (fun h => h.get? a = some { cls := .type "set", data := .set (esOf n tok) ep (tabOf mask n fin (ledOf w) mv) }) where
  next := fun i s Q E hi st ho k => by
    have hi' : i < (walkOf w a ep n tok).size := by rw [walk_size]; exact hi
    have hx := Array.getElem?_eq_getElem hi'
    refine pyNext_small_item hn hm ho st hx fun h' sb hI' => ?_
    (refine xa_2_2 (ord_at hx) ?_; intro z t hz e)
    exact k _ h' s.toks _ ⟨z, t, hz, e⟩ hI' hI' sb
  done := fun s Q E st ho k => pyNext_small_end hh hn hm ho st rfl fun h' he => k h' he
  at' := fun i h h' st e => e _ st
/-- for over a small set that stays -/
theorem for_set {h₀ : Heap} {L a : Addr} {m : Str → Option Value} {fix news : List (Addr × Obj)} {target : Expr} {body : List Stmt} {env : Env} {Q : Flow → Shared → Prop} {E : Value → Shared → Prop} {o : Obj} {n : Nat}
    (hh : A.handled = none) (F : Fr h₀ L s.heap m) (N : News h₀ L s.heap (fix ++ news)) (hs : SmallSet w o n)
    (hl : ∀ h, (∀ b o, h₀.get? b = some o → h.get? b = some o) → News h₀ L h fix → h.get? a = some o) (J : List Nat → Nat → (Str → Option Value) → List (Addr × Obj) → Prop) (hj : ∀ ord, List.Perm ord (zsOf n) → J ord 0 m news)
    (turn : ∀ ord i z t m₁ news₁ h tk I oI, List.Perm ord (zsOf n) → ord[i]? = some z → J ord i m₁ news₁ → Fr h₀ L h m₁ → News h₀ L h ((I, oI) :: (fix ++ news₁)) → (∀ p ∈ fix ++ news₁, p.1 ≠ I) →
      wpAny (model prog w) A (assign target env (.int (z : Int) t)) (fun _ s₂ => wpAny (model prog w) A (execs body env) (FEnd h₀ L I oI fix (J ord (i + 1)) s) (fun _ _ => False) s₂) (fun _ _ => False) { s with heap := h, toks := tk })
    (done : ∀ ord m₁ news₁ h tk, List.Perm ord (zsOf n) → J ord ord.length m₁ news₁ → Fr h₀ L h m₁ → News h₀ L h (fix ++ news₁) → Q .next { s with heap := h, toks := tk })
    (ht : ∀ I v, letOwnedTupleGo target (.ref I) v = pure () := by intro _ _; rfl) :
    wpAny (model prog w) A (pyIter (.ref a)) (fun it s₂ => ForAt prog w A target body env Q E it s₂) E s := by
  refine Classical.byContradiction fun hg9 => ?_
  obtain ⟨hn, ep, mask, fin, mv, tok, hm, hnf, r98⟩ := hs
  subst r98
  refine hg9 ?_
  clear hg9
  have hl0 := hl s.heap F.keep fun p hp => N p (List.mem_append.mpr (.inl hp))
  refine pyIter_small hn hm hl0 ?_
  have W := iter_set (prog := prog) (w := w) (A := A) hh s.heap.objs.size a (ep := ep) (fin := fin) (mv := mv) (tok := tok) hn hm
  have hp := ord_perm w a ep n tok
  have hlen := hp.length_eq
  refine for_core W (F.push _) (newsPush' N _) ?_ (Nat.ne_of_gt F.ns.lt) (next_new F) (fun p hp => Nat.ne_of_lt (Heap.lt_size (N p hp).1)) hl (J (ordOf w a ep n tok)) (hj _ hp)
    (fun i v m₁ news₁ h tk oI hi hv hj F N hn => ?_) (fun m₁ news₁ h tk hj F N => done _ m₁ news₁ h tk hp (by rw [hlen]; exact hj) F N) (ht _)
  · have e : slotAt w n 0 = 0 := by unfold slotAt; split <;> rfl
    rw [e]; exact Heap.get?_push_size _ rfl
  · refine Classical.byContradiction fun hg9 => ?_
    (refine xa_2_2 (hv) ?_; intro z t hz r93; (try clear hv))
    subst r93
    refine hg9 ?_
    clear hg9
    exact turn _ i z t m₁ news₁ h tk _ oI hp hz hj F N hn
end
end
section
section
variable {prog : Program} {w : World} {A : Around} {E : Value → Shared → Prop} {s : Shared}
noncomputable def inSmall (n : Nat) (k : Int) : Bool := decide (0 ≤ k) && n.testBit k.toNat
theorem SmallSet.setOf {h : Heap} {a : Addr} {o : Obj} {n : Nat} (ho : h.get? a = some o) (hs : SmallSet w o n) : h.SetOf (intKind prog w) a (inSmall n) (zsOf n).length := by
  refine Classical.byContradiction fun hg9 => ?_
  obtain ⟨hn, ep, mask, fin, mv, tok, hm, hnf, r98⟩ := hs
  subst r98
  refine hg9 ?_
  clear hg9
  refine ⟨_, esOf n tok, ep, _, ho, ⟨rfl, rfl, rfl⟩, rfl, es_elems n tok, fun k => ?_, by rw [es_size]; have := zs_le n; unfold scanBound; omega, fitsE hn hm tok fin (ledOf w) mv, es_size n tok⟩
  unfold inSmall
  rw [Bool.and_eq_true, decide_eq_true_eq]
  constructor
  · rintro ⟨h0, hb⟩
    have h5 : k.toNat < 5 := by
      rcases Nat.lt_or_ge k.toNat 5 with h | h
      · exact h
      · rw [Nat.testBit_lt_two_pow (Nat.lt_of_lt_of_le hn (Nat.pow_le_pow_right (n := 2) (by decide) h))] at hb; cases hb
    refine ⟨((k.toNat : Int), Value.int (k.toNat : Int) (tok k.toNat)), by simp only [esOf, List.mem_map]; exact ⟨k.toNat, mem_zs.mpr ⟨h5, hb⟩, rfl⟩, ?_⟩
    have : (k.toNat : Int) = k := Int.toNat_of_nonneg h0
    rw [this]; exact intKind_is _ _ _ _
  · rintro hJ90
    (refine xa_1_2 (hJ90) ?_; intro e he hp; (try clear hJ90))
    simp only [esOf, List.mem_map] at he
    refine Classical.byContradiction fun hg9 => ?_
    (refine xa_1_2 (he) ?_; intro z hz r92; (try clear he))
    subst r92
    refine hg9 ?_
    clear hg9
    have := (intKind prog w).inj _ _ _ hp (intKind_is prog w (z : Int) (tok z))
    subst this
    exact ⟨by omega, by rw [Int.toNat_natCast]; exact (mem_zs.mp hz).2⟩
theorem setFind_small {a : Addr} {o : Obj} {n z : Nat} {tk : Tok} {Q : Option Nat → Shared → Prop} (ho : s.heap.get? a = some o) (hs : SmallSet w o n) (hz : z < 5) (h : ∀ r : Option Nat, r.isSome = n.testBit z → Q r s) :
    wpAny (model prog w) A (setFind a (.int (z : Int) tk) (z : Int)) Q E s := by
  have e := wpAny_setFind_of (A := A) (E := E) (Q := Q) (intKind_is prog w (z : Int) tk) rfl (SmallSet.setOf ho hs) fun r hr => h r (by rw [hr]; unfold inSmall; rw [Int.toNat_natCast]; simp)
  rwa [hash_small hz] at e
theorem setWalk_small {a : Addr} {n ep mask fin mv : Nat} {tok : Nat → Tok} {Q : Array (Int × Value) → Shared → Prop} (hn : n < 32) (hm : mask = 7 ∨ mask = 15 ∨ mask = 31)
    (ho : s.heap.get? a = some { cls := .type "set", data := .set (esOf n tok) ep (tabOf mask n fin (ledOf w) mv) }) (h : Q (walkOf w a ep n tok) s) :
    wpAny (model prog w) A (setWalk a) Q E s := by
  have hf := fitsE hn hm tok fin (ledOf w) mv
  have mw : (model prog w).w = w := rfl
  unfold setWalk
  refine wpAny_bind (wpAny_setState_of ho rfl hf ?_)
  dsimp only
  unfold setsByText
  refine wpAny_bind (wpAny_bind (wpAny_askSetting (wpAny_pure ?_)))
  dsimp only
  rw [mw]
  cases hb : w.params.followText "set-order" with
  | true =>
    have e3 : walkOf w a ep n tok = pickOrder (w.params.setOrder a ep) (esOf n tok) := by unfold walkOf; rw [if_pos hb]
    rw [e3] at h
    simp only [if_true]
    exact wpAny_bind (wpAny_askSetting (wpAny_pure h))
  | false =>
    have e3 : walkOf w a ep n tok = esOf n tok := by unfold walkOf; rw [hb]; rfl
    rw [e3] at h
    have hl : ledOf w = true := by unfold ledOf; rw [hb]; rfl
    simp only [Bool.false_eq_true, if_false]
    rw [hl]
    refine wpAny_ite_false (show (!true && _) = false by simp) ?_
    exact wpAny_bind (wpAny_ite_false (c := (!true && decide ((esOf n tok).size > 1))) (by simp) (wpAny_pure (wpAny_pure h)))
theorem walkUnseen_small {a : Addr} {others : List Addr} {f : Option Addr} {n ep mask fin mv : Nat} {tok : Nat → Tok} {Q : Array (Int × Value) → Shared → Prop} (hn : n < 32) (hm : mask = 7 ∨ mask = 15 ∨ mask = 31)
    (ho : s.heap.get? a = some { cls := .type "set", data := .set (esOf n tok) ep (tabOf mask n fin (ledOf w) mv) }) (h : Q (walkOf w a ep n tok) s) :
    wpAny (model prog w) A (setWalkUnseen a others f) Q E s := by
  have hf := fitsE hn hm tok fin (ledOf w) mv
  unfold setWalkUnseen
  refine wpAny_bind (wpAny_setState_of ho rfl hf ?_)
  dsimp only
  unfold setsByText
  refine wpAny_bind (wpAny_bind (wpAny_askSetting (wpAny_pure ?_)))
  dsimp only
  have mw : (model prog w).w = w := rfl
  have e : (w.params.followText "set-order" || (tabOf mask n fin (ledOf w) mv).led && (tabOf mask n fin (ledOf w) mv).plain || decide ((esOf n tok).size ≤ 1)) = true := by
    show (w.params.followText "set-order" || (!(w.params.followText "set-order")) && true || decide ((esOf n tok).size ≤ 1)) = true
    cases w.params.followText "set-order" <;> rfl
  rw [mw, if_pos e]
  exact setWalk_small hn hm ho h
end
section
variable {prog : Program} {w : World} {A : Around} {E : Value → Shared → Prop} {s : Shared}
/-- what the walk of a set finds in another -/
noncomputable def meetUp (n : Nat) : List Nat → Nat → Nat
  | [], m => m
  | z :: r, m => meetUp n r (if n.testBit z then m ||| 2 ^ z else m)
theorem meet_cons (n z : Nat) (r : List Nat) (m : Nat) : meetUp n (z :: r) m = meetUp n r (if n.testBit z then m ||| 2 ^ z else m) := rfl
theorem meet_perm {n : Nat} : ∀ {l l' : List Nat}, List.Perm l l' → ∀ m, meetUp n l m = meetUp n l' m
  | _, _, .nil, m => rfl
  | _, _, .cons a p, m => by unfold meetUp; exact meet_perm p _
  | _, _, .swap a b l, m => by
    unfold meetUp; unfold meetUp
    congr 1
    split <;> split <;> first | rfl | (rw [Nat.or_assoc, Nat.or_comm (2 ^ _), ← Nat.or_assoc])
  | _, _, .trans p q, m => (meet_perm p m).trans (meet_perm q m)
theorem meet_and {n k : Nat} (hn : n < 32) (hk : k < 32) : meetUp n (zsOf k) 0 = n &&& k := by
  have a : ∀ n k : Fin 32, meetUp n.val (zsOf k.val) 0 = n.val &&& k.val := by decide +kernel
  exact a ⟨n, hn⟩ ⟨k, hk⟩
theorem inter_loop {x y S : Addr} {ox oy os : Obj} {nx ny was : Nat} {nm : String} {es : Array (Int × Value)} {Q : PUnit → Shared → Prop} (hx : s.heap.get? x = some ox) (hsx : SmallSet w ox nx) (hy : s.heap.get? y = some oy) (hsy : SmallSet w oy ny)
    (hwas : ∃ es t, oy.data = .set es was t) (hxS : x ≠ S) (hyS : y ≠ S) (hS : s.heap.get? S = some os) (hs0 : SmallSet w os 0) (hes : ∀ e ∈ es.toList, ∃ z t, z < 5 ∧ e = (((z : Nat) : Int), Value.int (z : Int) t))
    (h : ∀ h' o', h'.get? S = some o' → SmallSet w o' (meetUp nx (es.toList.map fun e => e.1.toNat) 0) → Heap.SameBut S s.heap h' → Q ⟨⟩ { s with heap := h' }) :
    wpAny (model prog w) A (forIn es PUnit.unit fun (e : Int × Value) (_ : PUnit) => (do
      holding [e.2] (do
        let r ← setFind x e.2 e.1
        if r.isSome = true then do
          let _ ← setAddHashed S e.2 e.1
          pure ()
        else pure ())
      Builtin.Frozenset.unchanged nm y was
      pure (ForInStep.yield PUnit.unit) : Sem (ForInStep PUnit))) Q E s := by
  refine wpAny_forIn_array' _ (fun rest _ s' => ∃ h' o' m, s' = { s with heap := h' } ∧ h'.get? S = some o' ∧ SmallSet w o' m ∧ Heap.SameBut S s.heap h' ∧ meetUp nx (rest.map fun e => e.1.toNat) m = meetUp nx (es.toList.map fun e => e.1.toNat) 0 ∧
    ∀ e ∈ rest, ∃ z t, z < 5 ∧ e = (((z : Nat) : Int), Value.int (z : Int) t)) _ ?_ ?_ es _ ⟨s.heap, os, 0, rfl, hS, hs0, Heap.SameBut.refl _ _, rfl, hes⟩
  · rintro e rest _ s' hJ94
    refine Classical.byContradiction fun hg9 => ?_
    (refine xa_3_6 (hJ94) ?_; intro h' o' m r93 hS' hs' sb hmt hr; (try clear hJ94))
    subst r93
    refine hg9 ?_
    clear hg9
    refine Classical.byContradiction fun hg9 => ?_
    (refine xa_2_2 (hr e (.head _)) ?_; intro z t h5 r93)
    subst r93
    refine hg9 ?_
    clear hg9
    have hr' : ∀ e ∈ rest, ∃ z t, z < 5 ∧ e = (((z : Nat) : Int), Value.int (z : Int) t) := fun e he => hr e (.tail _ he)
    rw [List.map_cons, Int.toNat_natCast] at hmt
    rw [meet_cons] at hmt
    have hx' : h'.get? x = some ox := sb.extBut x ox hxS hx
    have fin_ : ∀ h2, Heap.SameBut S s.heap h2 → ∀ o2 m2, h2.get? S = some o2 → SmallSet w o2 m2 → meetUp nx (rest.map fun e => e.1.toNat) m2 = meetUp nx (es.toList.map fun e => e.1.toNat) 0 →
        wpAny (model prog w) A (do Builtin.Frozenset.unchanged nm y was; pure (ForInStep.yield PUnit.unit)) (fun r s' => match r with
          | .yield b' => (fun rest _ s' => ∃ h' o' m, s' = { s with heap := h' } ∧ h'.get? S = some o' ∧ SmallSet w o' m ∧ Heap.SameBut S s.heap h' ∧ meetUp nx (rest.map fun e => e.1.toNat) m = meetUp nx (es.toList.map fun e => e.1.toNat) 0 ∧
              ∀ e ∈ rest, ∃ z t, z < 5 ∧ e = (((z : Nat) : Int), Value.int (z : Int) t)) rest b' s'
          | .done b' => Q b' s') E { s with heap := h2 } := fun h2 sb2 o2 m2 g2 hs2 hm2 => by
      unfold Builtin.Frozenset.unchanged
      (refine xa_2_1 (hwas) ?_; intro es' t' hd; (try clear hwas))
      refine Classical.byContradiction fun hg9 => ?_
      obtain ⟨hny, epy, masky, finy, mvy, toky, hmy, _, r98⟩ := id hsy
      subst r98
      refine hg9 ?_
      clear hg9
      have he : epy = was := by injection hd
      subst he
      refine wpAny_bind (wpAny_bind (wpAny_setEpoch_of (s := { s with heap := h2 }) (sb2.extBut y _ hyS hy) rfl (fitsE hny hmy toky finy (ledOf w) mvy) ?_))
      refine wpAny_ite_false (by simp) (wpAny_pure ?_)
      exact wpAny_pure ⟨h2, o2, m2, rfl, g2, hs2, sb2, hm2, hr'⟩
    refine wpAny_bind (wpAny_holding (wpAny_bind (setFind_small (s := { s with heap := h' }) hx' hsx h5 fun r hr2 => ?_)))
    cases hb : nx.testBit z with
    | true =>
      rw [hb] at hmt hr2
      rw [if_pos hr2]
      refine wpAny_bind (add_small (s := { s with heap := h' }) hS' hs' h5 fun h2 o2 sb2 g2 hs2 => ?_)
      exact wpAny_pure (wpAny_mono (fin_ h2 (sb.trans sb2) o2 _ g2 hs2 (by simpa using hmt)) (fun r s' hr => by cases r <;> exact hr) fun _ _ e => e)
    | false =>
      rw [hb] at hmt hr2
      rw [if_neg (by rw [hr2]; decide)]
      exact wpAny_pure (wpAny_mono (fin_ h' sb o' m hS' hs' (by simpa using hmt)) (fun r s' hr => by cases r <;> exact hr) fun _ _ e => e)
  · rintro _ s' hJ92
    refine Classical.byContradiction fun hg9 => ?_
    (refine xa_3_6 (hJ92) ?_; intro h' o' m r93 hS' hs' sb hmt _; (try clear hJ92))
    subst r93
    refine hg9 ?_
    clear hg9
    refine h h' o' hS' ?_ sb
    rw [← hmt]; exact hs'
theorem isAny_set {b : Addr} {Q : Bool → Shared → Prop} (hT : s.TypeIs (.ref b) "set") (h : Q true s) : wpAny (model prog w) A (Builtin.Frozenset.isAnySet (.ref b)) Q E s := by
  unfold Builtin.Frozenset.isAnySet
  refine wpAny_bind (wpAny_isInstance hT sub_set_self ?_)
  exact wpAny_pure h
theorem es_small {w : World} {a ep n : Nat} {tok : Nat → Tok} : ∀ e ∈ (walkOf w a ep n tok).toList, ∃ z t, z < 5 ∧ e = (((z : Nat) : Int), Value.int (z : Int) t) := by
  intro e he
  have h := (walk_perm w a ep n tok).mem_iff.mp he
  simp only [esOf, List.mem_map] at h
  refine Classical.byContradiction fun hg9 => ?_
  (refine xa_1_2 (h) ?_; intro z hz r92; (try clear h))
  subst r92
  refine hg9 ?_
  clear hg9
  exact ⟨z, tok z, (mem_zs.mp hz).1, rfl⟩
theorem inter_set {a b : Addr} {oa ob : Obj} {n k : Nat} {nm : String} {Q : Value → Shared → Prop} (ha : s.heap.get? a = some oa) (hb : s.heap.get? b = some ob) (hab : a ≠ b) (hsa : SmallSet w oa n) (hsb : SmallSet w ob k)
    (h : ∀ h' o', h'.get? s.heap.objs.size = some o' → SmallSet w o' (n &&& k) → (∀ c oc, s.heap.get? c = some oc → h'.get? c = some oc) → Q (.ref s.heap.objs.size) { s with heap := h' }) :
    wpAny (model prog w) A (Builtin.Frozenset.intersection nm a (.ref b)) Q E s := by
  refine Classical.byContradiction fun hg9 => ?_
  obtain ⟨hn, epa, maska, fina, mva, toka, hma, hnfa, r98⟩ := id hsa
  subst r98
  refine hg9 ?_
  clear hg9
  refine Classical.byContradiction fun hg9 => ?_
  obtain ⟨hk, epb, maskb, finb, mvb, tokb, hmb, hnfb, r98⟩ := id hsb
  subst r98
  refine hg9 ?_
  clear hg9
  have hsub := sub_set_self
  have hTa : s.TypeIs (.ref a) "set" := ⟨_, ha, rfl⟩
  unfold Builtin.Frozenset.intersection
  rw [if_neg (by rw [beq_iff_eq]; exact fun q => hab (by cases q; rfl))]
  unfold Builtin.Frozenset.baseOf
  refine wpAny_bind (wpAny_bind (wpAny_isInstance hTa sub_set_self ?_))
  simp only [if_true]
  refine wpAny_pure (wpAny_bind (newSet_small ?_))
  have keep : ∀ c oc, s.heap.get? c = some oc → (s.heap.push (freshSet w)).get? c = some oc := fun c oc e => Heap.get?_push_of_some _ e
  have hS : (s.heap.push (freshSet w)).get? s.heap.objs.size = some (freshSet w) := Heap.get?_push_size _ rfl
  have na : a ≠ s.heap.objs.size := Nat.ne_of_lt (Heap.lt_size ha)
  have nb : b ≠ s.heap.objs.size := Nat.ne_of_lt (Heap.lt_size hb)
  have ha' := keep _ _ ha
  have hb' := keep _ _ hb
  have fa := fitsE hn hma toka fina (ledOf w) mva
  have fb := fitsE hk hmb tokb finb (ledOf w) mvb
  refine wpAny_bind (wpAny_pure ?_)
  refine wpAny_bind (wpAny_holding (wpAny_bind (isAny_set ⟨_, hb', rfl⟩ ?_)))
  simp only [if_true]
  refine wpAny_bind (wpAny_pure ?_)
  unfold Builtin.Frozenset.sizeOf
  refine wpAny_bind (wpAny_bind (wpAny_setEntries_of hb' rfl fb (wpAny_pure ?_)))
  refine wpAny_bind (wpAny_bind (wpAny_setEntries_of ha' rfl fa (wpAny_pure ?_)))
  have out : ∀ h' o' m, m = n &&& k → h'.get? s.heap.objs.size = some o' → SmallSet w o' m → Heap.SameBut s.heap.objs.size (s.heap.push (freshSet w)) h' → Q (.ref s.heap.objs.size) { s with heap := h' } := fun h' o' m e g hs sb =>
    h h' o' g (e ▸ hs) fun c oc ec => sb.extBut c oc (Nat.ne_of_lt (Heap.lt_size ec)) (keep _ _ ec)
  by_cases hc : (esOf k tokb).size > (esOf n toka).size
  · rw [if_pos hc]
    dsimp only
    refine wpAny_bind (wpAny_setEpoch_of ha' rfl fa ?_)
    refine wpAny_bind (walkUnseen_small hn hma ha' ?_)
    refine wpAny_bind (inter_loop (s := { s with heap := s.heap.push (freshSet w) }) hb' hsb ha' hsa ⟨_, _, rfl⟩ nb na hS fresh_small es_small fun h' o' g hs sb => ?_)
    refine wpAny_pure (wpAny_pure (out h' o' _ ?_ g hs sb))
    exact (meet_perm (ord_perm w a epa n toka) 0).trans ((meet_and hk hn).trans (Nat.and_comm _ _))
  · rw [if_neg hc]
    dsimp only
    refine wpAny_bind (wpAny_setEpoch_of hb' rfl fb ?_)
    refine wpAny_bind (walkUnseen_small hk hmb hb' ?_)
    refine wpAny_bind (inter_loop (s := { s with heap := s.heap.push (freshSet w) }) ha' hsa hb' hsb ⟨_, _, rfl⟩ na nb hS fresh_small es_small fun h' o' g hs sb => ?_)
    refine wpAny_pure (wpAny_pure (out h' o' _ ?_ g hs sb))
    exact (meet_perm (ord_perm w b epb k tokb) 0).trans (meet_and hn hk)
end
end
section
section
variable {prog : Program} {w : World} {A : Around} {E : Value → Shared → Prop} {s : Shared}
theorem entry_set_intersection : entryFor table "set.intersection" = some Builtin.«frozenset.intersection» :=
  entryFor_alias (id' := "frozenset.intersection") (by kernel_rfl) rfl (by decide +kernel) (by kernel_rfl)
theorem call_inter {a : Addr} {v : Value} {Q : Value → Shared → Prop} (hT : s.TypeIs (.ref a) "set")
    (h : ∀ A' : Around, A'.handled = A.handled → wpAny (model prog w) A' (Builtin.Frozenset.intersection "frozenset.intersection" a v) Q E s) :
    wpAny (model prog w) A (call (.builtin "set.intersection") [.ref a, v]) Q E s := by
  refine wpAny_call_entry F.slot_set_intersection hT entry_set_intersection ?_ (F.args_set_intersection_2 _ _)
  unfold Builtin.«frozenset.intersection» Builtin.Frozenset.manyOthers Builtin.Frozenset.addrOf
  simp only [List.isEmpty_nil, Bool.not_true, Bool.false_eq_true, ↓reduceIte, bind_assoc]
  refine wpAny_bind (wpAny_pure (wpAny_bind (wpAny_pure ?_)))
  simp only [List.isEmpty_cons, Bool.false_eq_true, ↓reduceIte, List.forIn_cons, List.forIn_nil]
  refine wpAny_bind (wpAny_bind (wpAny_bind (wpAny_holding (wpAny_bind (wpAny_pure (wpAny_mono (h A.in1 (by simp)) (fun r s' hr => ?_) fun _ _ e => e))))))
  exact wpAny_pure (wpAny_pure (wpAny_pure ⟨_, rfl, hr⟩))
theorem getMethod_inter {a : Addr} {o : Obj} {n : Nat} {pl : Sem Bool} {Q : Value × List Value → Shared → Prop} (ho : s.heap.get? a = some o) (hs : SmallSet w o n) (h : Q (.builtin "set.intersection", [.ref a]) s) :
    wpAny (model prog w) A (getMethod (.ref a) "intersection" pl) Q E s :=
  getMethod_builtin (SmallSet.setOf (prog := prog) ho hs).typeIs F.plainAttrs_set F.slot_set_intersection F.type_set_intersection (SmallSet.setOf (prog := prog) ho hs).noDict h
theorem call_inter_set {a b : Addr} {oa ob : Obj} {n k : Nat} {Q : Value → Shared → Prop} (ha : s.heap.get? a = some oa) (hb : s.heap.get? b = some ob) (hab : a ≠ b) (hsa : SmallSet w oa n) (hsb : SmallSet w ob k)
    (h : ∀ h' o', h'.get? s.heap.objs.size = some o' → SmallSet w o' (n &&& k) → (∀ c oc, s.heap.get? c = some oc → h'.get? c = some oc) → Q (.ref s.heap.objs.size) { s with heap := h' }) :
    wpAny (model prog w) A (call (.builtin "set.intersection") [.ref a, .ref b]) Q E s :=
  call_inter (SmallSet.setOf (prog := prog) ha hsa).typeIs fun _ _ => inter_set ha hb hab hsa hsb h
end
end
section
section
variable {prog : Program} {w : World} {A : Around} {E : Value → Shared → Prop} {s : Shared} {R : Result → Shared → Prop} {I : Addr} {fp wr : List Addr} {len : Nat} {P : Nat → Value → Prop} {St : Nat → Heap → Prop}
theorem plain_inter_loop : plainId "frozenset.intersection.loop" = true := by decide +kernel
theorem entry_inter_loop : entryFor table "frozenset.intersection.loop" = some Builtin.«frozenset.intersection.loop» := entryFor_of_tree (by kernel_rfl)
theorem meet_full {n : Nat} (hn : n < 32) : ∀ l : List Nat, (∀ z ∈ l, z < 5) → meetUp n l n = n
  | [], _ => rfl
  | z :: r, h => by
    rw [meet_cons]
    have h5 := h z (.head _)
    cases hb : n.testBit z with
    | true => simp only [if_true]; rw [or_small hn h5 hb]; exact meet_full hn r fun y hy => h y (.tail _ hy)
    | false => simp only [Bool.false_eq_true, if_false]; exact meet_full hn r fun y hy => h y (.tail _ hy)
theorem sub_full {m n : Nat} (hm : m < 32) (hn : n < 32) (h : m &&& n = m) (hl : (zsOf n).length ≤ (zsOf m).length) : m = n := by
  have a : ∀ m n : Fin 32, m.val &&& n.val = m.val → (zsOf n.val).length ≤ (zsOf m.val).length → m.val = n.val := by decide +kernel
  exact a ⟨m, hm⟩ ⟨n, hn⟩ h hl
theorem sub_or {m n z : Nat} (hm : m < 32) (hn : n < 32) (hz : z < 5) (h : m &&& n = m) (hb : n.testBit z = true) : (m ||| 2 ^ z) &&& n = m ||| 2 ^ z := by
  rw [Nat.and_or_distrib_right, h]
  congr 1
  have a : ∀ n : Fin 32, ∀ z : Fin 5, n.val.testBit z.val = true → 2 ^ z.val &&& n.val = 2 ^ z.val := by decide +kernel
  exact a ⟨n, hn⟩ ⟨z, hz⟩ hb
theorem small_size {a : Addr} {o : Obj} {n : Nat} {Q : Nat → Shared → Prop} (ho : s.heap.get? a = some o) (hs : SmallSet w o n) (h : Q (zsOf n).length s) : wpAny (model prog w) A (Builtin.Frozenset.sizeOf a) Q E s := by
  refine Classical.byContradiction fun hg9 => ?_
  obtain ⟨hn, ep, mask, fin, mv, tok, hm, hnf, r98⟩ := hs
  subst r98
  refine hg9 ?_
  clear hg9
  unfold Builtin.Frozenset.sizeOf
  refine wpAny_bind (wpAny_setEntries_of ho rfl (fitsE hn hm tok fin (ledOf w) mv) (wpAny_pure ?_))
  rw [es_size]; exact h
theorem interL_loop (W : Walks prog w A.in1 I fp wr len P St) (a S : Addr) (haf : a ∉ wr) (hSf : S ∉ fp) (haS : a ≠ S) (zs : List Nat) (hzs : ∀ z ∈ zs, z < 5) (hlen : zs.length = len) (hval : ∀ i v, i < len → P i v → ∃ t, v = .int (zs.getD i 0 : Int) t) {n T : Nat} {oa : Obj} (hsa : SmallSet w oa n) :
    ∀ (k i m : Nat) (s : Shared) (o : Obj), len - i = k → i ≤ len → St i s.heap → s.heap.get? a = some oa → s.heap.get? S = some o → SmallSet w o m → m &&& n = m → meetUp n (zs.drop i) m = T →
      (∀ h' tk o', h'.get? S = some o' → SmallSet w o' T → (∀ b ob, b ≠ S → b ∉ wr → s.heap.get? b = some ob → h'.get? b = some ob) → R (.ok (.ret .none)) { s with heap := h', toks := tk }) →
      codeAny (model prog w) A (.builtin "frozenset.intersection.loop" ⟨[.ref a, .ref I, .ref S], []⟩) R s := by
  have hSw : S ∉ wr := fun h => hSf (W.sub _ h)
  intro k
  induction k with
  | zero =>
    intro i m s o hk hi hst ha ho hs hm hT hR
    obtain rfl : i = len := by omega
    refine codeAny_builtin entry_inter_loop ?_
    rw [Around.under_plainId plain_inter_loop _]
    refine wpAny_bind (m := pyNext (.ref I)) (W.done s _ _ hst fun h' tk hk => ?_)
    rw [List.drop_eq_nil_of_le (by omega)] at hT
    subst hT
    exact wpAny_pure (hR h' tk o (hk S o hSw ho) hs fun b ob _ hb e => hk b ob hb e)
  | succ k ih =>
    intro i m s o hk hi hst ha ho hs hm hT hR
    have hlt : i < len := by omega
    have hil : i < zs.length := by omega
    refine codeAny_builtin entry_inter_loop ?_
    rw [Around.under_plainId plain_inter_loop _]
    refine wpAny_bind (m := pyNext (.ref I)) (W.item i s _ _ hlt hst fun v h₁ tk hP hst₁ hk₁ => ?_)
    obtain ⟨t, rfl⟩ := hval i v hlt hP
    have hgz : zs.getD i 0 = zs[i] := by rw [List.getD_eq_getElem?_getD, List.getElem?_eq_getElem hil]; rfl
    rw [hgz]
    have h5 : zs[i] < 5 := hzs _ (List.getElem_mem hil)
    rw [List.drop_eq_getElem_cons hil, meet_cons] at hT
    refine wpAny_bind (m := holding _ _) (wpAny_holding ((intKind prog w).pyHash (k := (zs[i] : Int)) (intKind_is _ _ _ _) ?_))
    rw [hash_small h5]
    refine wpAny_bind (m := holding _ _) (wpAny_holding (setFind_small (s := { s with heap := h₁, toks := tk + 1 }) (hk₁ a oa haf ha) hsa h5 fun r hr => ?_))
    have again_ : ∀ (h₂ : Heap) (o₂ : Obj) (m₂ : Nat), (∀ b ob, b ≠ S → h₁.get? b = some ob → h₂.get? b = some ob) → h₂.get? S = some o₂ → SmallSet w o₂ m₂ → m₂ &&& n = m₂ → meetUp n (zs.drop (i + 1)) m₂ = T →
        codeAny (model prog w) A (.builtin "frozenset.intersection.loop" ⟨[.ref a, .ref I, .ref S], []⟩) R { s with heap := h₂, toks := tk + 1 } := fun h₂ o₂ m₂ hk₂ ho₂ hs₂ hm₂ hT₂ =>
      ih (i + 1) m₂ _ o₂ (by omega) hlt (W.frame _ h₁ _ hst₁ fun b hb ob e => hk₂ b ob (fun q => hSf (q ▸ hb)) e) (hk₂ a oa haS (hk₁ a oa haf ha)) ho₂ hs₂ hm₂ hT₂
        fun h' tk' o' ho' hs' hk' => hR h' tk' o' ho' hs' fun b ob hbS hbw e => hk' b ob hbS hbw (hk₂ b ob hbS (hk₁ b ob hbw e))
    cases hb : n.testBit zs[i] with
    | false =>
      rw [hb] at hr hT
      refine wpAny_ite_false hr ?_
      exact wpAny_pure ⟨plainId_quiet plain_inter_loop _, again_ h₁ o m (fun _ _ _ e => e) (hk₁ S o hSw ho) hs hm (by simpa using hT)⟩
    | true =>
      rw [hb] at hr hT
      rw [if_pos hr]
      refine wpAny_bind (m := holding _ _) (wpAny_holding (add_small (s := { s with heap := h₁, toks := tk + 1 }) (hk₁ S o hSw ho) hs h5 fun h₂ o₂ sb ho₂ hs₂ => ?_))
      have ha2 := sb.extBut a oa haS (hk₁ a oa haf ha)
      have hm2 := sub_or hs.1 hsa.1 h5 hm hb
      have hT2 : meetUp n (zs.drop (i + 1)) (m ||| 2 ^ zs[i]) = T := by simpa using hT
      refine wpAny_bind (small_size (s := { s with heap := h₂, toks := tk + 1 }) ho₂ hs₂ (wpAny_bind (small_size (s := { s with heap := h₂, toks := tk + 1 }) ha2 hsa ?_)))
      by_cases hc : (zsOf (m ||| 2 ^ zs[i])).length ≥ (zsOf n).length
      · rw [if_pos hc]
        have e := sub_full hs₂.1 hsa.1 hm2 hc
        rw [e, meet_full hsa.1 _ fun z hz => hzs z (List.mem_of_mem_drop hz)] at hT2
        refine wpAny_bind (wpAny_rule ?_)
        exact wpAny_pure (hR h₂ _ o₂ ho₂ (by rw [← hT2, ← e]; exact hs₂) fun b ob hbS hbw e => sb.extBut b ob hbS (hk₁ b ob hbw e))
      · rw [if_neg hc]
        exact wpAny_pure ⟨plainId_quiet plain_inter_loop _, again_ h₂ o₂ _ (fun b ob hb e => sb.extBut b ob hb e) ho₂ hs₂ hm2 hT2⟩
end
section
variable {prog : Program} {w : World} {A : Around} {E : Value → Shared → Prop} {s : Shared}
theorem inter_list {a l : Addr} {oa : Obj} {vs : List Value} {n k : Nat} {nm : String} {Q : Value → Shared → Prop} (hh : A.handled = none) (ha : s.heap.get? a = some oa) (hsa : SmallSet w oa n) (hl : s.heap.IsList l vs.toArray) (hi : IntsAre vs (intsOf k)) (hk : k < 32)
    (h : ∀ h' tk o', h'.get? s.heap.objs.size = some o' → SmallSet w o' (n &&& k) → (∀ c oc, s.heap.get? c = some oc → h'.get? c = some oc) → Q (.ref s.heap.objs.size) { s with heap := h', toks := tk }) :
    wpAny (model prog w) A (Builtin.Frozenset.intersection nm a (.ref l)) Q E s := by
  refine Classical.byContradiction fun hg9 => ?_
  obtain ⟨hn, epa, maska, fina, mva, toka, hma, hnfa, r98⟩ := id hsa
  subst r98
  refine hg9 ?_
  clear hg9
  have hTa : s.TypeIs (.ref a) "set" := ⟨_, ha, rfl⟩
  obtain ⟨ol, hol, hcl, nl, hdl⟩ := hl
  obtain ⟨ocls, odict, odata, oslots⟩ := ol
  simp only at hcl hdl
  subst hcl; subst hdl
  have hal : a ≠ l := fun q => by subst q; rw [ha] at hol; injection hol with e1; injection e1 with e2; injection e2 with e3; exact absurd e3 (by decide)
  unfold Builtin.Frozenset.intersection
  rw [if_neg (by rw [beq_iff_eq]; exact fun q => hal (by cases q; rfl))]
  unfold Builtin.Frozenset.baseOf
  refine wpAny_bind (wpAny_bind (wpAny_isInstance hTa sub_set_self ?_))
  simp only [if_true]
  refine wpAny_pure (wpAny_bind (newSet_small ?_))
  have hS : (s.heap.push (freshSet w)).get? s.heap.objs.size = some (freshSet w) := Heap.get?_push_size _ rfl
  have hol' : (s.heap.push (freshSet w)).get? l = some { cls := .type "list", dict := odict, data := .seq vs.toArray nl, slots := oslots } := Heap.get?_push_of_some _ hol
  have hl1 : (s.heap.push (freshSet w)).IsList l vs.toArray := ⟨_, hol', rfl, nl, rfl⟩
  have hTl : Shared.TypeIs { s with heap := s.heap.push (freshSet w) } (.ref l) "list" := ⟨_, hol', rfl⟩
  have hlS : l < s.heap.objs.size := Heap.lt_size hol
  have haS : a < s.heap.objs.size := Heap.lt_size ha
  refine wpAny_bind (wpAny_pure ?_)
  refine wpAny_bind (wpAny_holding (wpAny_bind ?_))
  unfold Builtin.Frozenset.isAnySet
  refine wpAny_bind (wpAny_isInstance hTl F.sub_list_set ?_)
  refine wpAny_isInstance hTl F.sub_list_frozenset ?_
  simp only [Bool.false_eq_true, if_false]
  refine wpAny_bind (wpAny_pyIter_list hl1 ?_)
  refine wpAny_bind (wpAny_runValue ?_)
  have hneI : l ≠ (s.heap.push (freshSet w)).objs.size := by
    rw [Heap.size_push]; exact Nat.ne_of_lt (Nat.lt_succ_of_lt hlS)
  have haI : a ≠ (s.heap.push (freshSet w)).objs.size := by
    rw [Heap.size_push]; exact Nat.ne_of_lt (Nat.lt_succ_of_lt haS)
  have W := Walks.list (prog := prog) (w := w) (A := A.in1) (by simp [hh]) (s.heap.push (freshSet w)).objs.size l hneI vs.toArray
  have hlen : vs.length = (zsOf k).length := by have := hi.length; unfold intsOf at this; rwa [List.length_map] at this
  refine interL_loop (T := n &&& k) W a s.heap.objs.size ?_ ?_ (Nat.ne_of_lt haS) (zsOf k) (fun z hz => (mem_zs.mp hz).1) ?_ ?_ hsa _ 0 0 _ (freshSet w) rfl (Nat.zero_le _) ?_ ?_ ?_ fresh_small (Nat.zero_and _) (by rw [List.drop_zero]; exact meet_and hn hk) ?_
  · rw [List.mem_singleton]; exact haI
  · rw [Heap.size_push]; simp only [List.mem_cons, List.not_mem_nil, or_false, not_or]
    exact ⟨Nat.ne_of_lt (Nat.lt_succ_self _), Nat.ne_of_gt hlS⟩
  · rw [List.size_toArray, hlen]
  · intro i v hlt hv
    rw [List.size_toArray, hlen] at hlt
    have e : vs[i]? = some v := by simpa using hv
    obtain ⟨t, e2⟩ := IntsAre.int_at hi i v e
    have hg : (intsOf k).getD i 0 = (((zsOf k).getD i 0 : Nat) : Int) := by
      unfold intsOf
      rw [List.getD_eq_getElem?_getD, List.getD_eq_getElem?_getD, List.getElem?_map, List.getElem?_eq_getElem hlt]; rfl
    exact ⟨t, by rw [e2, hg]⟩
  · exact ⟨⟨_, Heap.get?_push_size _ rfl, rfl, rfl⟩, hl1.push _⟩
  · exact Heap.get?_push_of_some _ (Heap.get?_push_of_some _ ha)
  · exact Heap.get?_push_of_some _ hS
  · intro h' tk' o' ho' hs' hk'
    refine wpAny_pure (wpAny_pure (h h' _ o' ho' hs' fun b ob e => hk' b ob ?_ ?_ (Heap.get?_push_of_some _ (Heap.get?_push_of_some _ e))))
    · exact Nat.ne_of_lt (Heap.lt_size e)
    · have := Heap.lt_size e
      simp only [List.mem_singleton]
      rw [Heap.size_push]
      exact Nat.ne_of_lt (Nat.lt_succ_of_lt this)
theorem call_inter_list {a l : Addr} {oa : Obj} {vs : List Value} {n k : Nat} {Q : Value → Shared → Prop} (hh : A.handled = none) (ha : s.heap.get? a = some oa) (hsa : SmallSet w oa n) (hl : s.heap.IsList l vs.toArray) (hi : IntsAre vs (intsOf k)) (hk : k < 32)
    (h : ∀ h' tk o', h'.get? s.heap.objs.size = some o' → SmallSet w o' (n &&& k) → (∀ c oc, s.heap.get? c = some oc → h'.get? c = some oc) → Q (.ref s.heap.objs.size) { s with heap := h', toks := tk }) :
    wpAny (model prog w) A (call (.builtin "set.intersection") [.ref a, .ref l]) Q E s :=
  call_inter (SmallSet.setOf (prog := prog) ha hsa).typeIs fun A' hA' => inter_list (hA'.trans hh) ha hsa hl hi hk h
end
end
section
section
variable {prog : Program} {w : World} {A : Around} {E : Value → Shared → Prop} {s : Shared}
theorem entry_set_and : entryFor table "set.__and__" = some Builtin.«frozenset.__and__» :=
  entryFor_alias (id' := "frozenset.__and__") (by kernel_rfl) rfl (by decide +kernel) (by kernel_rfl)
theorem set_and {a b : Addr} {oa ob : Obj} {n k : Nat} {Q : Value → Shared → Prop} (ha : s.heap.get? a = some oa) (hb : s.heap.get? b = some ob) (hab : a ≠ b) (hsa : SmallSet w oa n) (hsb : SmallSet w ob k)
    (h : ∀ h' o', h'.get? s.heap.objs.size = some o' → SmallSet w o' (n &&& k) → (∀ c oc, s.heap.get? c = some oc → h'.get? c = some oc) → Q (.ref s.heap.objs.size) { s with heap := h' }) :
    wpAny (model prog w) A (binaryOp .BitAnd (.ref a) (.ref b)) Q E s := by
  have hTa := (SmallSet.setOf (prog := prog) ha hsa).typeIs
  have hTb := (SmallSet.setOf (prog := prog) hb hsb).typeIs
  unfold binaryOp
  refine wpAny_holding (wpAny_bind (m := binaryOp1 "and" (.ref a) (.ref b)) ?_)
  unfold binaryOp1
  refine wpAny_bind (wpAny_typeOf hTa (wpAny_bind (wpAny_typeOf hTb (wpAny_bind (wpAny_of_eq F.fills_set_and ?_)))))
  refine wpAny_ite_true (decide_eq_true (beq_self_eq_true _)) (wpAny_bind (wpAny_pure ?_))
  repeat (first | refine wpAny_ite_false (by rfl) ?_ | refine wpAny_ite_true (by rfl) ?_ | refine wpAny_bind (wpAny_pure ?_))
  refine wpAny_bind (m := tryMethod (.ref a) _ (.ref b)) ?_
  unfold tryMethod
  refine wpAny_bind (wpAny_callSpecial?_slot hTa F.slot_set_and (wpAny_call_entry F.slot_set_and hTa entry_set_and ?_ (F.args_set_and_2 _ _)))
  unfold Builtin.«frozenset.__and__»
  refine wpAny_bind (m := Builtin.Frozenset.slot1 "__and__" _) (wpAny_pure ?_)
  refine wpAny_bind (wpAny_bind (isAny_set hTa ?_))
  refine isAny_set hTb ?_
  refine wpAny_ite_false (by rfl) ?_
  refine wpAny_bind (wpAny_pure (wpAny_bind (inter_set ha hb hab hsa hsb fun h' o' g hs k => ?_)))
  exact wpAny_pure ⟨_, rfl, wpAny_pure (wpAny_pure (wpAny_pure (h h' o' g hs k)))⟩
end
end
section
section
variable {prog : Program} {w : World} {A : Around} {E : Value → Shared → Prop} {s : Shared}
theorem inSmall_of {n z : Nat} : inSmall n (z : Int) = n.testBit z := by unfold inSmall; rw [Int.toNat_natCast]; simp
theorem in_small {a : Addr} {o : Obj} {n : Nat} {k : Int} {tk : Tok} {Q : Value → Shared → Prop} (ho : s.heap.get? a = some o) (hs : SmallSet w o n) (h : Q (.bool (inSmall n k)) { s with toks := s.toks + 1 }) :
    wpAny (model prog w) A (compareOp .In (.int k tk) (.ref a)) Q E s :=
  wpAny_inSet_of (intKind_is prog w k tk) rfl (SmallSet.setOf ho hs) h
theorem notIn_small {a : Addr} {o : Obj} {n : Nat} {k : Int} {tk : Tok} {Q : Value → Shared → Prop} (ho : s.heap.get? a = some o) (hs : SmallSet w o n) (h : Q (.bool (!inSmall n k)) { s with toks := s.toks + 1 }) :
    wpAny (model prog w) A (compareOp .NotIn (.int k tk) (.ref a)) Q E s :=
  wpAny_notInSet_of (intKind_is prog w k tk) rfl (SmallSet.setOf ho hs) h
theorem len_small_set {a : Addr} {o : Obj} {n : Nat} {Q : Value → Shared → Prop} (ho : s.heap.get? a = some o) (hs : SmallSet w o n) (h : Q (.int ((zsOf n).length : Int) (s.toks + 1)) { s with toks := s.toks + 1 + 1 }) :
    wpAny (model prog w) A (call (.builtin "len") [.ref a]) Q E s := by
  refine Classical.byContradiction fun hg9 => ?_
  obtain ⟨hn, ep, mask, fin, mv, tok, hm, hnf, r98⟩ := hs
  subst r98
  refine hg9 ?_
  clear hg9
  refine call_len_set ho ⟨rfl, rfl, rfl⟩ rfl (fitsE hn hm tok fin (ledOf w) mv) (by rw [es_size]; have := zs_le n; omega) ?_
  rw [es_size]; exact h
theorem slot_setiter_iter : Slot "set_iterator" "__iter__" "set_iterator.__iter__" :=
  .of (owner := "set_iterator") (n := "__iter__") (by rw [typeLookup_type, builtinLookup_eq_fast]; kernel_rfl) (by decide +kernel) (by decide +kernel) (by decide +kernel)
    (by first | exact .inl (by decide +kernel) | exact .inr (by decide +kernel)) (by rw [isSubtype_type]; kernel_rfl)
theorem entry_setiter_iter : entryFor table "set_iterator.__iter__" = some Builtin.«dict_keyiterator.__iter__» :=
  entryFor_alias (id' := "dict_keyiterator.__iter__") (by kernel_rfl) (by first | rfl | decide +kernel) (by decide +kernel) (by kernel_rfl)
theorem args_setiter_iter (a : Value) : argsOk "set_iterator.__iter__" ⟨[a], []⟩ := by unfold argsOk; kernel_rfl
theorem walks_set (hh : A.handled = none) (I a : Addr) (hne : a ≠ I) {n ep mask fin mv : Nat} {tok : Nat → Tok} (hn : n < 32) (hm : mask = 7 ∨ mask = 15 ∨ mask = 31) :
    Walks prog w A I [I, a] [I] (zsOf n).length (fun i v => ∃ z t, (ordOf w a ep n tok)[i]? = some z ∧ v = .int (z : Int) t)
      (fun i h => h.get? I = some (setIterObj (slotAt w n i) i a (zsOf n).length ep) ∧ h.get? a = some { cls := .type "set", data := .set (esOf n tok) ep (tabOf mask n fin (ledOf w) mv) }) where
  sub := fun b hb => by simp at hb; simp [hb]
  frame := fun _ _ _ st hk => ⟨hk I (by simp) _ st.1, hk a (by simp) _ st.2⟩
  item := fun i s Q E hi st k => (iter_set (prog := prog) (A := A) hh I a hn hm).next i s Q E hi st.1 st.2 fun v h' tk o hv st' _ sb => k v h' tk hv ⟨st', sb.extBut a _ hne st.2⟩ fun b ob hb e => sb.extBut b ob (fun q => hb (by simp [q])) e
  done := fun s Q E st k => pyNext_small_end hh hn hm st.2 st.1 rfl fun h' he => k h' s.toks fun b ob hb e => he b ob (fun q => hb (by simp [q])) e
  self := fun i s Q E st h => by
    have hT : s.TypeIs (.ref I) "set_iterator" := ⟨_, st.1, rfl⟩
    refine wpAny_pyIter_slot hT slot_setiter_iter (wpAny_call_entry slot_setiter_iter hT entry_setiter_iter ?_ (args_setiter_iter _))
    show wpAny _ _ (ret (.ref I)) _ _ s
    exact wpAny_pure ⟨_, rfl, "set_iterator", _, hT, slot_setiter_next.lookup, h⟩
end
end
section
section
variable {prog : Program} {w : World} {A : Around} {E : Value → Shared → Prop} {s : Shared} {h₀ : Heap} {L : Addr} {m : Str → Option Value} {news : List (Addr × Obj)} {Q : Value → Shared → Prop}
/-- what a set operation leaves, as a step of the walk -/
theorem made_k (F : Fr h₀ L s.heap m) (N : News h₀ L s.heap news) {h' : Heap} {tk : Nat} {o : Obj} (ho : h'.get? s.heap.objs.size = some o) (k : ∀ b ob, s.heap.get? b = some ob → h'.get? b = some ob)
    (h : ∀ S, Fr h₀ L h' m → News h₀ L h' ((S, o) :: news) → (∀ p ∈ news, p.1 ≠ S) → Q (.ref S) { s with heap := h', toks := tk }) : Q (.ref s.heap.objs.size) { s with heap := h', toks := tk } :=
  h _ (F.after k) (newsFresh1 F (newsAfter N k) (Nat.le_refl _) ho) fun p hp => Nat.ne_of_lt (Heap.lt_size (N p hp).1)
theorem set_list_k (F : Fr h₀ L s.heap m) (N : News h₀ L s.heap news) {l : Addr} {vs : List Value} {n : Nat} (hh : A.handled = none) (hl : s.heap.IsList l vs.toArray) (hi : IntsAre vs (intsOf n)) (hn : n < 32)
    (h : ∀ S h' tk o, Fr h₀ L h' m → News h₀ L h' ((S, o) :: news) → (∀ p ∈ news, p.1 ≠ S) → SmallSet w o n → Q (.ref S) { s with heap := h', toks := tk }) : wpAny (model prog w) A (call (.type "set") [.ref l]) Q E s :=
  set_list hh hl hi hn fun h' tk o ho hs k => made_k F N ho k fun S F' N' ne => h S h' tk o F' N' ne hs
theorem set_set_k (F : Fr h₀ L s.heap m) (N : News h₀ L s.heap news) {a : Addr} {oa : Obj} {n : Nat} (ha : s.heap.get? a = some oa) (hs : SmallSet w oa n)
    (h : ∀ S h' tk o, Fr h₀ L h' m → News h₀ L h' ((S, o) :: news) → (∀ p ∈ news, p.1 ≠ S) → SmallSet w o n → Q (.ref S) { s with heap := h', toks := tk }) : wpAny (model prog w) A (call (.type "set") [.ref a]) Q E s :=
  set_set ha hs fun h' tk o ho hs k => made_k F N ho k fun S F' N' ne => h S h' tk o F' N' ne hs
theorem inter_list_k (F : Fr h₀ L s.heap m) (N : News h₀ L s.heap news) {a l : Addr} {oa : Obj} {vs : List Value} {n k : Nat} (hh : A.handled = none) (ha : s.heap.get? a = some oa) (hsa : SmallSet w oa n) (hl : s.heap.IsList l vs.toArray) (hi : IntsAre vs (intsOf k)) (hk : k < 32)
    (h : ∀ S h' tk o, Fr h₀ L h' m → News h₀ L h' ((S, o) :: news) → (∀ p ∈ news, p.1 ≠ S) → SmallSet w o (n &&& k) → Q (.ref S) { s with heap := h', toks := tk }) :
    wpAny (model prog w) A (call (.builtin "set.intersection") [.ref a, .ref l]) Q E s :=
  call_inter_list hh ha hsa hl hi hk fun h' tk o ho hs k => made_k F N ho k fun S F' N' ne => h S h' tk o F' N' ne hs
theorem inter_set_k (F : Fr h₀ L s.heap m) (N : News h₀ L s.heap news) {a b : Addr} {oa ob : Obj} {n k : Nat} (ha : s.heap.get? a = some oa) (hb : s.heap.get? b = some ob) (hab : a ≠ b) (hsa : SmallSet w oa n) (hsb : SmallSet w ob k)
    (h : ∀ S h' tk o, Fr h₀ L h' m → News h₀ L h' ((S, o) :: news) → (∀ p ∈ news, p.1 ≠ S) → SmallSet w o (n &&& k) → Q (.ref S) { s with heap := h', toks := tk }) :
    wpAny (model prog w) A (call (.builtin "set.intersection") [.ref a, .ref b]) Q E s :=
  call_inter_set ha hb hab hsa hsb fun h' o ho hs k => made_k F N ho k fun S F' N' ne => h S h' _ o F' N' ne hs
theorem and_k (F : Fr h₀ L s.heap m) (N : News h₀ L s.heap news) {a b : Addr} {oa ob : Obj} {n k : Nat} (ha : s.heap.get? a = some oa) (hb : s.heap.get? b = some ob) (hab : a ≠ b) (hsa : SmallSet w oa n) (hsb : SmallSet w ob k)
    (h : ∀ S h' tk o, Fr h₀ L h' m → News h₀ L h' ((S, o) :: news) → (∀ p ∈ news, p.1 ≠ S) → SmallSet w o (n &&& k) → Q (.ref S) { s with heap := h', toks := tk }) :
    wpAny (model prog w) A (binaryOp .BitAnd (.ref a) (.ref b)) Q E s :=
  set_and ha hb hab hsa hsb fun h' o ho hs k => made_k F N ho k fun S F' N' ne => h S h' _ o F' N' ne hs
end
end
section
/-- the heap without the code table of CandidateSet (which its generator expressions grow) -/
noncomputable abbrev hid (h : Heap) : Heap := hideAll h [25]
theorem hid_of {h : Heap} {b : Addr} {o : Obj} (e : (hid h).get? b = some o) : h.get? b = some o := of_hideAll _ e
theorem hid_get {h : Heap} {b : Addr} {o : Obj} (e : h.get? b = some o) (hb : b ≠ 25) : (hid h).get? b = some o := hideAll_get _ e fun q => hb (List.mem_singleton.mp q)
theorem hid_ne {h : Heap} {b : Addr} {o : Obj} (e : (hid h).get? b = some o) : b ≠ 25 := fun q => by
  rw [q, hideAll_none [25] (.head _)] at e; cases e
theorem hid_none (h : Heap) : (hid h).get? 25 = none := hideAll_none [25] (.head _)
/-- what stands where such a call is made -/
structure GndP (w : World) (s : Shared) : Prop where
  gnd : Gnd w (hid s.heap)
  code : CodeHd (hid s.heap) 29 25
  tab : ∃ ps, s.heap.get? 25 = some (tabObj ps) ∧ TriplesOk ps.toList
  bare : AllBare s.gens
/-- what such a call leaves -/
structure DoneP (s s' : Shared) : Prop where
  keep : ∀ b o, b ≠ 25 → s.heap.get? b = some o → s'.heap.get? b = some o
  tab : ∃ ps, s'.heap.get? 25 = some (tabObj ps) ∧ TriplesOk ps.toList
  bare : AllBare s'.gens
  os : s'.os = s.os
theorem DoneP.hid {s s' : Shared} (D : DoneP s s') : ∀ b o, (hid s.heap).get? b = some o → (hid s'.heap).get? b = some o := fun b o e => hid_get (D.keep b o (hid_ne e) (hid_of e)) (hid_ne e)
theorem GndP.done {w : World} {s s' : Shared} (G : GndP w s) (D : DoneP s s') : GndP w s' := ⟨G.gnd.keep D.hid, G.code.keeps D.hid, D.tab, D.bare⟩
theorem GndP.refl {w : World} {s : Shared} (G : GndP w s) : DoneP s s := ⟨fun _ _ _ e => e, G.tab, G.bare, rfl⟩
theorem DoneP.trans {a b c : Shared} (x : DoneP a b) (y : DoneP b c) : DoneP a c := ⟨fun d o n e => y.keep d o n (x.keep d o n e), y.tab, y.bare, y.os.trans x.os⟩
theorem GndP.old {w : World} {s : Shared} (G : GndP w s) : Gnd w s.heap := G.gnd.keep fun _ _ e => hid_of e
theorem hid_list {h : Heap} {l : Addr} {vs : Array Value} {ps : Array Value} (ht : h.get? 25 = some (tabObj ps)) (hl : h.IsList l vs) : (hid h).IsList l vs := by
  (refine xa_1_3 (hl) ?_; intro o e hc r; (try clear hl))
  refine ⟨o, hid_get e fun q => ?_, hc, r⟩
  rw [q, ht] at e; cases e; cases hc
theorem hid_obj {h : Heap} {a : Addr} {o : Obj} {ps : Array Value} (ht : h.get? 25 = some (tabObj ps)) (e : h.get? a = some o) (hc : o.cls ≠ .none) : (hid h).get? a = some o :=
  hid_get e fun q => by rw [q, ht] at e; cases e; exact hc rfl
theorem hid_fresh {h : Heap} {b : Addr} (e : (hid h).get? b = none) (hb : b ≠ 25) : h.get? b = none := by
  cases q : h.get? b with
  | none => rfl
  | some o => rw [hid_get q hb] at e; cases e
/-- from the walk's facts -/
theorem gndP_of {w : World} {s : Shared} {h₀ : Heap} {L : Addr} {m mg mb : Str → Option Value} {news : List (Addr × Obj)} {p : Program} {loose : List Str} {mean : ExcName → Option Value} {ps : Array Value}
    (F : Fr h₀ L s.heap m) (N : News h₀ L s.heap news) (hm : (25, tabObj ps) ∈ news) (ht : TriplesOk ps.toList) (X : (hd.heap_1 w.params).In h₀) (T : Top p loose mean mg mb h₀) (C : CodeHd h₀ 29 25) (B : AllBare s.gens) : GndP w s := by
  have k : ∀ b o, h₀.get? b = some o → (hid s.heap).get? b = some o := fun b o e => hid_get (F.keep b o e) fun q => by
    have := (N _ hm).2.2
    rw [q] at e
    rw [this] at e; cases e
  exact ⟨⟨X.keeps k, p, loose, mean, mg, mb, T.keeps k⟩, C.keeps k, ⟨ps, (N _ hm).1, ht⟩, B⟩
theorem donePofFr {s s₂ : Shared} {L : Addr} {m : Str → Option Value} {news : List (Addr × Obj)} {ps : Array Value} (F : Fr (hid s.heap) L s₂.heap m) (N : News (hid s.heap) L s₂.heap news) (hm : (25, tabObj ps) ∈ news) (ht : TriplesOk ps.toList) (B : AllBare s₂.gens) (e : s₂.os = s.os) : DoneP s s₂ :=
  ⟨fun b o n q => F.keep b o (hid_get q n), ⟨ps, (N _ hm).1, ht⟩, B, e⟩
theorem frP {h₀ : Heap} {s s' : Shared} {L : Addr} {m : Str → Option Value} (F : Fr h₀ L s.heap m) (D : DoneP s s') (n0 : h₀.get? 25 = none) (nL : (25 : Addr) ≠ L) : Fr h₀ L s'.heap m :=
  ⟨F.ns.at' fun o e => D.keep L o (Ne.symm nL) e, fun b o e => D.keep b o (fun q => by rw [q, n0] at e; cases e) (F.keep b o e), F.above⟩
theorem newsP {h₀ : Heap} {s s' : Shared} {L : Addr} {news : List (Addr × Obj)} {g : Obj → List (Addr × Obj)} {ps ps' : Array Value} (N : News h₀ L s.heap news) (U : UpdF 25 (tabObj ps) news g) (D : DoneP s s') (e : s'.heap.get? 25 = some (tabObj ps')) : News h₀ L s'.heap (g (tabObj ps')) := by
  refine Classical.byContradiction fun hg9 => ?_
  (refine xa_2_4 (U.split) ?_; intro pre post r92 hg h1 h2)
  subst r92
  refine hg9 ?_
  clear hg9
  rw [hg]
  have h25 := N (25, tabObj ps) (List.mem_append_right _ (.head _))
  intro p hp
  rcases List.mem_append.mp hp with hp | hp
  · have := N p (List.mem_append_left _ hp)
    exact ⟨D.keep _ _ (h1 p hp) this.1, this.2⟩
  · rcases List.mem_cons.mp hp with rfl | hp
    · exact ⟨e, h25.2⟩
    · have := N p (List.mem_append_right _ (.tail _ hp))
      exact ⟨D.keep _ _ (h2 p hp) this.1, this.2⟩
theorem updF_mem {d : Addr} {o : Obj} {news : List (Addr × Obj)} {g : Obj → List (Addr × Obj)} (U : UpdF d o news g) : (d, o) ∈ news := by
  refine Classical.byContradiction fun hg9 => ?_
  (refine xa_2_2 (U.split) ?_; intro pre post r92 _)
  subst r92
  refine hg9 ?_
  clear hg9
  exact List.mem_append_right _ (.head _)
/-- a call of that kind as a step of the walk -/
theorem liftP {prog : Program} {w : World} {A : Around} {s : Shared} {h₀ : Heap} {L : Addr} {m mg mb : Str → Option Value} {news : List (Addr × Obj)} {p : Program} {loose : List Str} {mean : ExcName → Option Value} {Q : Value → Shared → Prop} {E : Value → Shared → Prop} {ps : Array Value} {g : Obj → List (Addr × Obj)} {f : Value} {vs : List Value} {kw : List (Str × Value)}
    (F : Fr h₀ L s.heap m) (N : News h₀ L s.heap news) (X : (hd.heap_1 w.params).In h₀) (T : Top p loose mean mg mb h₀) (C : CodeHd h₀ 29 25) (U : UpdF 25 (tabObj ps) news g) (ht : TriplesOk ps.toList) (B : AllBare s.gens) (P : Value → Shared → Prop)
    (Cd : GndP w s → ∀ R : Result → Shared → Prop, (∀ v s', DoneP s s' → P v s' → R (.ok (.ret v)) s') → codeAny (model prog w) A (.call f ⟨vs, kw⟩) R s)
    (h : ∀ v s' ps', Fr h₀ L s'.heap m → News h₀ L s'.heap (g (tabObj ps')) → TriplesOk ps'.toList → AllBare s'.gens → s'.os = s.os → DoneP s s' → P v s' → Q v s') :
    wpAny (model prog w) A (call f vs kw) Q E s := by
  refine call_of (Cd (gndP_of F N (updF_mem U) ht X T C B) _ fun v s' D hp => ?_)
  (refine xa_1_2 (D.tab) ?_; intro ps' e ht')
  have h25 := N _ (updF_mem U)
  exact h v s' ps' (frP F D h25.2.2 h25.2.1) (newsP N U D e) ht' D.bare D.os D hp
/-- what a call made stands apart: new items onto the ledger -/
theorem newsOn {h₀ h h' : Heap} {L a : Addr} {o : Obj} {m : Str → Option Value} {news : List (Addr × Obj)} (F : Fr h₀ L h m) (N : News h₀ L h' news) (ha : h.objs.size ≤ a) (ho : h'.get? a = some o) : News h₀ L h' ((a, o) :: news) := newsFresh1 F N ha ho

section
variable {prog : Program} {w : World} {A : Around} {s : Shared} {K : Frag} {R : Result → Shared → Prop}
theorem enterP {ps : Array Value} {name qual : Str} {params : Arguments} {body : List Stmt} {scope : Scope} {dV kV doc pm cdv ct oc : Value} {an od : Option Addr} {osl : Array (Option Value)} {f : Addr} {args : Args} {binds : List (Str × Value)}
    (ht : s.heap.get? 25 = some (tabObj ps)) (X : K.In (hid s.heap)) (hlim : (hid s.heap).NoLimit) (ho : K.lookup f = some ⟨oc, od, .func (fnOf name qual params body scope dV kV doc pm an cdv ct), osl⟩) (hcd : codeIn K cdv qual = true)
    (hbind : BindsTo s (fnOf name qual params body scope dV kV doc pm an cdv ct) args binds) (hloc : ∀ y ∈ binds, scope.names.lookup y.1 = some .local)
    {k : Nat} (hA : Room A (k + 1))
    (h : ∀ L h₁, Fr (hid s.heap) L h₁ (fun y => binds.reverse.lookup y) → News (hid s.heap) L h₁ [(25, tabObj ps)] → @LT.lt Nat _ 25 L → AtA k fun A' =>
      wpAny (model prog w) A' (execs body (envOf qual scope L f cdv))
        (fun fl s' => R (.ok (.ret (match fl with | .ret v => v | _ => .none))) s') (fun _ _ => False)
        { s with heap := h₁, toks := s.toks + binds.length })
    (hco : scope.isCoroutine = false) (hgen : scope.isGenerator = false) (hk : scope.kind = .function)
    (hcell : ∀ x ∈ scope.names, x.2 ≠ .cell) : codeAny (model prog w) A (.call (.ref f) args) R s := by
  refine enterN (g := hid s.heap) (news := [(25, tabObj ps)]) (fun b o e => hid_of e) (Nat.le_of_eq (hideAll_size _ _)) ?_ X hlim ho hcd hA.lim hbind hloc (fun L h₁ F N l => (h L h₁ F N (l _ (.head _))).use (hA.deeper _)) hco hgen hk hcell
  intro p hp
  rw [List.mem_singleton.mp hp]
  exact ⟨ht, hid_none _⟩
/-- as enterN, where the def has cells -/
theorem enterCN {g : Heap} {news : List (Addr × Obj)} {name qual : Str} {params : Arguments} {body : List Stmt} {scope : Scope} {dV kV doc pm cdv ct oc : Value} {an od : Option Addr} {osl : Array (Option Value)} {f : Addr} {args : Args} {binds : List (Str × Value)}
    (st : ∀ b o, g.get? b = some o → s.heap.get? b = some o) (hz : g.objs.size ≤ s.heap.objs.size) (N : ∀ p ∈ news, s.heap.get? p.1 = some p.2 ∧ g.get? p.1 = none)
    (X : K.In g) (hlim : g.NoLimit) (ho : K.lookup f = some ⟨oc, od, .func (fnOf name qual params body scope dV kV doc pm an cdv ct), osl⟩) (hcd : codeIn K cdv qual = true) (hroom : A.depth < recursionLimit)
    (hbind : BindsTo s (fnOf name qual params body scope dV kV doc pm an cdv ct) args binds) (hkind : (binds.all fun y => scope.names.lookup y.1 == some .local || scope.names.lookup y.1 == some .cell) = true)
    (hnd : ((cellsFrom 0 scope.names []).map (·.1)).Nodup)
    (h : ∀ L h₁ tk cells, Fr g L h₁ (bindL (envOfC qual scope L f cdv).kindOf binds fun _ => none) → News g L h₁ (cells ++ news) → CellsAre (bindC (envOfC qual scope L f cdv).kindOf binds fun _ => none) (cellsFrom (L + 1) scope.names []) cells → (∀ p ∈ news, p.1 < L) →
      wpAny (model prog w) (A.deeper (envOfC qual scope L f cdv)) (execs body (envOfC qual scope L f cdv))
        (fun fl s' => R (.ok (.ret (match fl with | .ret v => v | _ => .none))) s') (fun _ _ => False)
        { s with heap := h₁, toks := tk })
    (hco : scope.isCoroutine = false) (hgen : scope.isGenerator = false) (hk : scope.kind = .function) : codeAny (model prog w) A (.call (.ref f) args) R s := by
  refine codeAny_call_function hroom (st _ _ (X _ _ ho)) rfl hco hgen rfl (codeRec_of (X.keeps st) hcd) (hbind _ _ _ _ ?_)
  refine wpAny_newFunctionEnv_cells hk (kindsX hkind _) fun env' he s' x => ?_
  subst he
  refine ⟨(hlim.keeps st).keeps x.toInCall.keep, codeAny_func ?_⟩
  refine Classical.byContradiction fun hg9 => ?_
  (refine xa_2_2 (x.done) ?_; intro h₁ tk r92 _)
  subst r92
  refine hg9 ?_
  clear hg9
  have hk₁ := x.toInCall.keep
  (refine xa_1_2 (Cl.news (h₀ := s.heap) (Nat.le_refl _) fun n c hm => ⟨x.cell n c (lookup_of_mem_nodup (cellsFrom_names scope.names 0 (s.heap.objs.size + 1) [] [] rfl ▸ hnd) hm), x.above n c hm⟩) ?_; intro cells NC Y)
  have ln : ∀ p ∈ news, p.1 < s.heap.objs.size := fun p hp => Heap.lt_size (N p hp).1
  refine wpAny_mono (h s.heap.objs.size h₁ tk cells ⟨x.toInCall.ns, fun b o e => hk₁ b o (st b o e), hz⟩ (fun p hp => ?_) Y ln) (fun _ _ y => y) (fun _ _ y => y.elim)
  rcases List.mem_append.mp hp with hp | hp
  · refine ⟨(NC p hp).1, (NC p hp).2.1, ?_⟩
    cases q : g.get? p.1 with
    | none => rfl
    | some o => have := st _ _ q; rw [(NC p hp).2.2] at this; cases this
  · exact ⟨hk₁ _ _ (N p hp).1, Nat.ne_of_lt (ln p hp), (N p hp).2⟩
theorem enterPC {ps : Array Value} {name qual : Str} {params : Arguments} {body : List Stmt} {scope : Scope} {dV kV doc pm cdv ct oc : Value} {an od : Option Addr} {osl : Array (Option Value)} {f : Addr} {args : Args} {binds : List (Str × Value)}
    (ht : s.heap.get? 25 = some (tabObj ps)) (X : K.In (hid s.heap)) (hlim : (hid s.heap).NoLimit) (ho : K.lookup f = some ⟨oc, od, .func (fnOf name qual params body scope dV kV doc pm an cdv ct), osl⟩) (hcd : codeIn K cdv qual = true)
    (hbind : BindsTo s (fnOf name qual params body scope dV kV doc pm an cdv ct) args binds) (hkind : (binds.all fun y => scope.names.lookup y.1 == some .local || scope.names.lookup y.1 == some .cell) = true)
    (hnd : ((cellsFrom 0 scope.names []).map (·.1)).Nodup) {k : Nat} (hA : Room A (k + 1))
    (h : ∀ L h₁ tk cells, Fr (hid s.heap) L h₁ (bindL (envOfC qual scope L f cdv).kindOf binds fun _ => none) → News (hid s.heap) L h₁ (cells ++ [(25, tabObj ps)]) → CellsAre (bindC (envOfC qual scope L f cdv).kindOf binds fun _ => none) (cellsFrom (L + 1) scope.names []) cells → @LT.lt Nat _ 25 L → AtA k fun A' =>
      wpAny (model prog w) A' (execs body (envOfC qual scope L f cdv))
        (fun fl s' => R (.ok (.ret (match fl with | .ret v => v | _ => .none))) s') (fun _ _ => False)
        { s with heap := h₁, toks := tk })
    (hco : scope.isCoroutine = false) (hgen : scope.isGenerator = false) (hk : scope.kind = .function) : codeAny (model prog w) A (.call (.ref f) args) R s := by
  refine enterCN (g := hid s.heap) (news := [(25, tabObj ps)]) (fun b o e => hid_of e) (Nat.le_of_eq (hideAll_size _ _)) ?_ X hlim ho hcd hA.lim hbind hkind hnd (fun L h₁ tk cells F N Y l => (h L h₁ tk cells F N Y (l _ (.head _))).use (hA.deeper _)) hco hgen hk
  intro p hp
  rw [List.mem_singleton.mp hp]
  exact ⟨ht, hid_none _⟩
theorem made_two {hh : Heap} {C : Addr} : (∀ b o, hh.get? b = some o → ((hh.push emptyDict).push (instObj C hh.objs.size)).get? b = some o) ∧ ((hh.push emptyDict).push (instObj C hh.objs.size)).get? (hh.objs.size + 1) = some (instObj C hh.objs.size) ∧ ((hh.push emptyDict).push (instObj C hh.objs.size)).get? hh.objs.size = some emptyDict ∧
    hh.get? (hh.objs.size + 1) = none ∧ hh.get? hh.objs.size = none ∧ ((hh.push emptyDict).push (instObj C hh.objs.size)).objs.size = hh.objs.size + 2 := by
  refine ⟨fun b o e => Heap.get?_push_of_some _ (Heap.get?_push_of_some _ e), ?_, Heap.get?_push_of_some _ (Heap.get?_push_size _ rfl), ?_, ?_, ?_⟩
  · have := Heap.get?_push_size (hh.push emptyDict) (o := instObj C hh.objs.size) rfl
    rwa [Heap.size_push] at this
  · cases q : hh.get? (hh.objs.size + 1) with
    | none => rfl
    | some o => exact absurd (Heap.lt_size q) (Nat.not_lt.mpr (Nat.le_succ _))
  · cases q : hh.get? hh.objs.size with
    | none => rfl
    | some o => exact absurd (Heap.lt_size q) (Nat.lt_irrefl _)
  · rw [Heap.size_push, Heap.size_push]
/-- a class is called, its __init__ has a cell -/
theorem makeC {C fI : Addr} {rest : List Value} {kw : List (Str × Value)} {name qual : Str} {params : Arguments} {body : List Stmt} {scope : Scope} {dV kV doc pm cdv ct oc : Value} {an od : Option Addr} {osl : Array (Option Value)} {binds : Addr → List (Str × Value)}
    (X : K.In s.heap) (hlim : s.heap.NoLimit) (hm : makesIn K C = true) (hi : findIn K (.ref C) "__init__" = some (some (.ref fI))) (hf : typeIn K (.ref fI) = some (.type "function"))
    (ho : K.lookup fI = some ⟨oc, od, .func (fnOf name qual params body scope dV kV doc pm an cdv ct), osl⟩) (hcd : codeIn K cdv qual = true) {k : Nat} (hA : Room A (k + 2))
    (hbind : ∀ x (s' : Shared), K.In s'.heap → BindsTo s' (fnOf name qual params body scope dV kV doc pm an cdv ct) ⟨.ref x :: rest, kw⟩ (binds x))
    (hkind : ∀ x, ((binds x).all fun y => scope.names.lookup y.1 == some .local || scope.names.lookup y.1 == some .cell) = true) (hnd : ((cellsFrom 0 scope.names []).map (·.1)).Nodup)
    (h : ∀ x dx L h₁ tk cells, Fr s.heap L h₁ (bindL (envOfC qual scope L fI cdv).kindOf (binds x) fun _ => none) → News s.heap L h₁ (cells ++ [(x, instObj C dx), (dx, dictOf [] 0)]) → CellsAre (bindC (envOfC qual scope L fI cdv).kindOf (binds x) fun _ => none) (cellsFrom (L + 1) scope.names []) cells → @LE.le Nat _ s.heap.objs.size dx → @LT.lt Nat _ dx x → @LT.lt Nat _ x L → AtA k fun A' =>
      wpAny (model prog w) A' (execs body (envOfC qual scope L fI cdv))
        (fun fl s' => (match fl with | .ret v => v | _ => .none) = .none ∧ R (.ok (.ret (.ref x))) s') (fun _ _ => False)
        { s with heap := h₁, toks := tk })
    (hco : scope.isCoroutine = false) (hgen : scope.isGenerator = false) (hk : scope.kind = .function) : codeAny (model prog w) A (.call (.ref C) ⟨rest, kw⟩) R s := by
  obtain ⟨hh, gg, d, t, os⟩ := s
  refine make_core (makes_of X hm) (looks_findIn X hi) (fun self => bind_fn X self hf) (.inl rfl) ?_
  (refine an_6 (made_two (hh := hh) (C := C)) ?_; intro k1 hx hdx n1 n2 sz)
  have hM := hA.make C rest kw
  refine enterCN (s := ⟨(hh.push emptyDict).push (instObj C hh.objs.size), gg, d, t, os⟩) (K := K) (g := hh) (news := [(hh.objs.size + 1, instObj C hh.objs.size), (hh.objs.size, dictOf [] 0)]) k1 (by rw [sz]; exact Nat.le_add_right _ _) ?_ X hlim ho hcd (Room.lim hM) (hbind _ _ (X.keeps k1)) (hkind _) hnd (fun L h₁ tk cells F N Y l => ?_) hco hgen hk
  · refine fmc (⟨hx, n1⟩) ?_
    intro p hp
    · rw [List.mem_singleton.mp hp]; exact ⟨hdx, n2⟩
  · exact wpAny_mono ((h _ _ L h₁ tk cells F N Y (Nat.le_refl _) (Nat.lt_succ_self _) (l _ (.head _))).use (hM.deeper _)) (fun fl s' z => ⟨z.1, z.2⟩) fun _ _ z => z
/-- a class is called, its __init__ comes to CandidateSet -/
theorem makeP {ps : Array Value} {C fI : Addr} {rest : List Value} {kw : List (Str × Value)} {name qual : Str} {params : Arguments} {body : List Stmt} {scope : Scope} {dV kV doc pm cdv ct oc : Value} {an od : Option Addr} {osl : Array (Option Value)} {binds : Addr → List (Str × Value)}
    (ht : s.heap.get? 25 = some (tabObj ps)) (X : K.In (hid s.heap)) (hlim : (hid s.heap).NoLimit) (hm : makesIn K C = true) (hi : findIn K (.ref C) "__init__" = some (some (.ref fI))) (hf : typeIn K (.ref fI) = some (.type "function"))
    (ho : K.lookup fI = some ⟨oc, od, .func (fnOf name qual params body scope dV kV doc pm an cdv ct), osl⟩) (hcd : codeIn K cdv qual = true) {k : Nat} (hA : Room A (k + 2))
    (hbind : ∀ x (s' : Shared), K.In s'.heap → BindsTo s' (fnOf name qual params body scope dV kV doc pm an cdv ct) ⟨.ref x :: rest, kw⟩ (binds x)) (hloc : ∀ x, ∀ y ∈ binds x, scope.names.lookup y.1 = some .local)
    (h : ∀ x dx L h₁, Fr (hid s.heap) L h₁ (fun y => (binds x).reverse.lookup y) → News (hid s.heap) L h₁ [(x, instObj C dx), (dx, dictOf [] 0), (25, tabObj ps)] → @LE.le Nat _ s.heap.objs.size dx → @LT.lt Nat _ dx x → @LT.lt Nat _ x L → @LT.lt Nat _ 25 dx → AtA k fun A' =>
      wpAny (model prog w) A' (execs body (envOf qual scope L fI cdv))
        (fun fl s' => (match fl with | .ret v => v | _ => .none) = .none ∧ R (.ok (.ret (.ref x))) s') (fun _ _ => False)
        { s with heap := h₁, toks := s.toks + (binds x).length })
    (hco : scope.isCoroutine = false) (hgen : scope.isGenerator = false) (hk : scope.kind = .function)
    (hcell : ∀ x ∈ scope.names, x.2 ≠ .cell) : codeAny (model prog w) A (.call (.ref C) ⟨rest, kw⟩) R s := by
  obtain ⟨hh, gg, d, t, os⟩ := s
  have st : ∀ b o, (hid hh).get? b = some o → hh.get? b = some o := fun b o e => hid_of e
  have X' : K.In hh := X.keeps st
  refine make_core (makes_of X' hm) (looks_findIn X' hi) (fun self => bind_fn X' self hf) (.inl rfl) ?_
  (refine an_6 (made_two (hh := hh) (C := C)) ?_; intro k1 hx hdx n1 n2 sz)
  have no : ∀ b, hh.get? b = none → (hid hh).get? b = none := fun b e => by
    cases q : (hid hh).get? b with
    | none => rfl
    | some o => rw [st b o q] at e; cases e
  have hM := hA.make C rest kw
  refine enterN (s := ⟨(hh.push emptyDict).push (instObj C hh.objs.size), gg, d, t, os⟩) (K := K) (g := hid hh) (news := [(hh.objs.size + 1, instObj C hh.objs.size), (hh.objs.size, dictOf [] 0), (25, tabObj ps)]) (fun b o e => k1 b o (st b o e)) (by rw [show (hid hh).objs.size = hh.objs.size from hideAll_size _ _]; show hh.objs.size ≤ ((hh.push emptyDict).push (instObj C hh.objs.size)).objs.size; rw [sz]; exact Nat.le_add_right _ _) ?_ X hlim ho hcd (Room.lim hM) (hbind _ _ (X'.keeps k1)) (hloc _) (fun L h₁ F N l => ?_) hco hgen hk hcell
  · refine fmc (⟨hx, no _ n1⟩) ?_
    intro p hp
    · rcases List.mem_cons.mp hp with rfl | hp
      · exact ⟨hdx, no _ n2⟩
      · rw [List.mem_singleton.mp hp]; exact ⟨k1 _ _ ht, hid_none _⟩
  · exact wpAny_mono ((h _ _ L h₁ F N (Nat.le_refl _) (Nat.lt_succ_self _) (l _ (.head _)) (Heap.lt_size ht)).use (hM.deeper _)) (fun fl s' z => ⟨z.1, z.2⟩) fun _ _ z => z
end
end
section
section
variable {prog : Program} {w : World} {A : Around} {s : Shared} {env : Env}
/-- a comprehension's scope whose variable is a cell -/
noncomputable def compEnvK (scope : Scope) (cl : List (Str × Addr)) (x : Str) (C K : Addr) (env : Env) : Env :=
  { scope := relabel scope env, locals := C, globals := env.globals, cells := (x, K) :: cl, qual := env.qual, func := none, code := env.code, frame := env.frame, builtins := env.builtins }

/-- what the loop of a comprehension of lists keeps -/
structure CInv (C K I D : Addr) (n : Nat) (F : Nat → Obj → Prop) (s₂ : Shared) (h' : Heap) (Ts : List (Addr × Obj)) : Prop where
  acc : h'.PlainList D (Ts.map fun p => Value.ref p.1).toArray
  ns : h'.Ns C fun _ => none
  cell : ∃ v, h'.IsCell K v
  got : ∀ p ∈ Ts, h'.get? p.1 = some p.2 ∧ s₂.heap.get? p.1 = none ∧ p.1 ≠ C ∧ p.1 ≠ K ∧ p.1 ≠ I ∧ p.1 ≠ D
  items : ∀ j p, Ts[j]? = some p → F j p.2
  len : Ts.length ≤ n
  keep : ∀ b o, b ≠ I → s₂.heap.get? b = some o → h'.get? b = some o

/-- one turn's element -/
noncomputable def CElt (prog : Program) (w : World) (A : Around) (env : Env) (scope : Scope) (cl : List (Str × Addr)) (x : Str) (elt : Expr) (n : Nat) (I : Addr) (P : Nat → Value → Prop) (F : Nat → Obj → Prop) (s₂ : Shared) : Prop :=
  ∀ C K i v s₃ E', i < n → P i v → s₂.heap.objs.size ≤ C → s₂.heap.objs.size ≤ K → K ≠ C → s₃.heap.Ns C (fun _ => none) → s₃.heap.IsCell K (some v) → (∀ b o, b ≠ I → s₂.heap.get? b = some o → s₃.heap.get? b = some o) →
    wpAny (model prog w) A (eval elt (compEnvK scope cl x C K env)) (fun y s₄ => (∃ T o, y = .ref T ∧ s₃.heap.get? T = none ∧ s₄.heap.get? T = some o ∧ F i o) ∧ Keeps s₃ s₄) E' s₃

theorem compC_loop {elt iter : Expr} {x : Str} {px : Pos} {scope : Scope} {cl : List (Str × Addr)} {pos : Pos} {R : Result → Shared → Prop} {s₂ : Shared} {C K I D : Addr} {n : Nat} {P : Nat → Value → Prop} {St : Nat → Heap → Prop} (F : Nat → Obj → Prop)
    (W : Walks prog w A I [I] [I] n P St) (hsz : n ≤ sizeLine) (hx : (relabel scope env).names.lookup x = some .cell) (hkind : scope.kind = .function)
    (hKC : K ≠ C) (hIC : I ≠ C) (hIK : I ≠ K) (hDC : D ≠ C) (hDK : D ≠ K) (hDI : D ≠ I) (hC : s₂.heap.objs.size ≤ C) (hK : s₂.heap.objs.size ≤ K) (hD : s₂.heap.objs.size ≤ D)
    (hStI : ∀ i h, St i h → h.get? I ≠ none) (he : CElt prog w A env scope cl x elt n I P F s₂)
    (s₃ : Shared) (h₃ : Heap) (e₃ : ∃ tk, s₃ = { s₂ with heap := h₃, toks := tk }) (st : St 0 h₃) (inv : CInv C K I D n F s₂ h₃ [])
    (hR : ∀ h' tk Ts, CInv C K I D n F s₂ h' Ts → Ts.length = n → R (.ok .next) { s₂ with heap := h', toks := tk }) :
    codeAny (model prog w) A (.compLoop (.ListComp elt [⟨.Name x px, iter, [], 0⟩] scope pos) 0 (.ref I) (.ref D) (compEnvK scope cl x C K env)) R s₃ := by
  obtain ⟨tk₃, rfl⟩ := e₃
  have fresh : ∀ a, s₂.heap.objs.size ≤ a → s₂.heap.get? a = none := fun a ha => by
    cases e : s₂.heap.get? a with
    | none => rfl
    | some o' => exact absurd (Heap.lt_size e) (Nat.not_lt.mpr ha)
  refine codeAny_compLoop_tests (fun k s' => ∃ h' tk Ts, s' = { s₂ with heap := h', toks := tk } ∧ St Ts.length h' ∧ CInv C K I D n F s₂ h' Ts ∧ k = n + 1 - Ts.length) ?_ (n + 1)
    ⟨h₃, tk₃, [], rfl, st, inv, rfl⟩
  rintro k s' hJ92
  refine Classical.byContradiction fun hg9 => ?_
  (refine xa_3_4 (hJ92) ?_; intro H tk Ts r93 hst hi r96; (try clear hJ92))
  subst r93
  subst r96
  refine hg9 ?_
  clear hg9
  by_cases hlt : Ts.length < n
  · refine W.item Ts.length _ _ _ hlt hst fun v h₁ tk₁ hPv hst₁ hk₁ => ?_
    have kI : ∀ b o, b ≠ I → H.get? b = some o → h₁.get? b = some o := fun b o hb e => hk₁ b o (fun q => hb (List.mem_singleton.mp q)) e
    (refine xa_2_2 (hi.cell) ?_; intro v₀ c hc hd)
    have hc₁ : h₁.IsCell K v₀ := ⟨c, kI K c (Ne.symm hIK) hc, hd⟩
    refine wpAny_assign_Name (wpAny_storeName_cell (env := compEnvK scope cl x C K env) (by simp [compEnvK, relabel, hkind]) hx (c := K) (by simp [compEnvK]) hc₁ fun h₂ hc₂ hs₂ => ?_)
    have up₂ : ∀ b o, b ≠ I → b ≠ K → H.get? b = some o → h₂.get? b = some o := fun b o hbI hbK e => hs₂.extBut b o hbK (kI b o hbI e)
    have hst₂ : St (Ts.length + 1) h₂ := W.frame _ _ _ hst₁ fun b hb o e => hs₂.extBut b o (by rw [List.mem_singleton.mp hb]; exact hIK) e
    have hns₂ : h₂.Ns C fun _ => none := hi.ns.at' fun o e => up₂ C o (Ne.symm hIC) (Ne.symm hKC) e
    refine wpAny_tests_nil ?_
    simp only [if_true]
    refine wpAny_mono (he C K Ts.length v _ _ hlt hPv hC hK hKC hns₂ hc₂ fun b o hb e => up₂ b o hb (fun q => by rw [q, fresh K hK] at e; cases e) (hi.keep b o hb e)) (fun y s₄ h₄ => ?_) fun _ _ e => e
    refine Classical.byContradiction fun hg9 => ?_
    obtain ⟨n90, h₄, tk₄, r93, hk₄⟩ := h₄
    subst r93
    (refine xa_2_4 (n90) ?_; intro T o r92 hT0 hT hF; (try clear n90))
    subst r92
    refine hg9 ?_
    clear hg9
    obtain ⟨np, hacc⟩ := hi.acc
    have hacc₂ := up₂ D _ hDI hDK hacc
    refine wpAny_list_append_plain (hsz := by simp only [List.size_toArray, List.length_map]; omega) ⟨np, hk₄ _ _ hacc₂⟩ fun h₅ hl₅ hs₅ => ?_
    have up₅ : ∀ b o, b ≠ I → b ≠ K → b ≠ D → H.get? b = some o → h₅.get? b = some o := fun b o hbI hbK hbD e => hs₅.extBut b o hbD (hk₄ b o (up₂ b o hbI hbK e))
    (refine xa_1_2 (hc₂) ?_; intro cK hcK _; (try clear hc₂))
    have hI₂ : h₂.get? I ≠ none := hStI _ _ hst₂
    have nT : T ≠ C ∧ T ≠ K ∧ T ≠ I ∧ T ≠ D := by
      (refine xa_3_2 (hns₂) ?_; intro oC _ _ hoC _; (try clear hns₂))
      refine ⟨fun q => ?_, fun q => ?_, fun q => ?_, fun q => ?_⟩
      · subst q; rw [hT0] at hoC; cases hoC
      · subst q; rw [hT0] at hcK; cases hcK
      · subst q; exact hI₂ hT0
      · subst q; rw [hT0] at hacc₂; cases hacc₂
    have sT : s₂.heap.get? T = none := by
      cases q : s₂.heap.get? T with
      | none => rfl
      | some o' => have := up₂ T o' nT.2.2.1 nT.2.1 (hi.keep T o' nT.2.2.1 q); rw [hT0] at this; cases this
    refine ⟨n + 1 - (Ts.length + 1), by omega, h₅, tk₄, Ts ++ [(T, o)], rfl, ?_, ⟨?_, ?_, ?_, ?_, ?_, ?_, ?_⟩, by rw [List.length_append, List.length_singleton]⟩
    · rw [List.length_append, List.length_singleton]
      exact W.frame _ _ _ hst₂ fun b hb o e => hs₅.extBut b o (by rw [List.mem_singleton.mp hb]; exact Ne.symm hDI) (hk₄ b o e)
    · simpa using hl₅
    · exact (hns₂.keeps hk₄).sameBut hs₅ (Ne.symm hDC)
    · exact ⟨_, cK, hs₅.extBut _ _ (Ne.symm hDK) (hk₄ _ _ hcK), by assumption⟩
    · intro p hp
      rcases List.mem_append.mp hp with hp | hp
      · (refine an_6 (hi.got p hp) ?_; intro g1 g2 g3 g4 g5 g6)
        exact ⟨up₅ _ _ g5 g4 g6 g1, g2, g3, g4, g5, g6⟩
      · rw [List.mem_singleton.mp hp]
        exact ⟨hs₅.extBut _ _ nT.2.2.2 hT, sT, nT.1, nT.2.1, nT.2.2.1, nT.2.2.2⟩
    · intro j p hj
      rcases Nat.lt_trichotomy j Ts.length with h | h | h
      · exact hi.items j p (by rwa [List.getElem?_append_left h] at hj)
      · subst h; simp at hj; subst hj; exact hF
      · have hnone : (Ts ++ [(T, o)])[j]? = none := List.getElem?_eq_none (by rw [List.length_append, List.length_singleton]; omega)
        rw [hnone] at hj; cases hj
    · rw [List.length_append, List.length_singleton]; exact hlt
    · exact fun b o hb e => up₅ b o hb (fun q => by rw [q, fresh K hK] at e; cases e) (fun q => by rw [q, fresh D hD] at e; cases e) (hi.keep b o hb e)
  · have hin : Ts.length = n := by have := hi.len; omega
    refine W.done _ _ _ (hin ▸ hst) fun h₁ tk₁ hk₁ => ?_
    have kI : ∀ b o, b ≠ I → H.get? b = some o → h₁.get? b = some o := fun b o hb e => hk₁ b o (fun q => hb (List.mem_singleton.mp q)) e
    obtain ⟨np, hacc⟩ := hi.acc
    (refine xa_2_2 (hi.cell) ?_; intro v₀ c hc hd)
    exact hR h₁ tk₁ Ts ⟨⟨np, kI _ _ hDI hacc⟩, hi.ns.at' fun o e => kI C o (Ne.symm hIC) e, ⟨v₀, c, kI _ _ (Ne.symm hIK) hc, hd⟩, fun p hp => let ⟨g1, g⟩ := hi.got p hp; ⟨kI _ _ g.2.2.2.1 g1, g⟩, hi.items, hi.len,
      fun b o hb e => kI b o hb (hi.keep b o hb e)⟩ hin

noncomputable def CompAtC (prog : Program) (w : World) (A : Around) (env : Env) (scope : Scope) (cl : List (Str × Addr)) (x : Str) (elt : Expr) (Q : Value → Shared → Prop) (it : Value) (s₂ : Shared) : Prop :=
  ∃ (F : Nat → Obj → Prop) (I : Addr) (n : Nat) (P : Nat → Value → Prop) (St : Nat → Heap → Prop), it = .ref I ∧ Walks prog w A I [I] [I] n P St ∧ n ≤ sizeLine ∧ St 0 s₂.heap ∧ I < s₂.heap.objs.size ∧ (∀ i h, St i h → h.get? I ≠ none) ∧
      CElt prog w A env scope cl x elt n I P F s₂ ∧
      (∀ D C K h' tk Ts, D ≠ C → K ≠ D → s₂.heap.get? D = none → s₂.heap.get? C = none → CInv C K I D n F s₂ h' Ts → Ts.length = n → ∀ h'', Heap.SameBut C h' h'' → Q (.ref D) { s₂ with heap := h'', toks := tk })

theorem compC_at {elt iter : Expr} {x : Str} {px : Pos} {scope : Scope} (cl : List (Str × Addr)) {pos : Pos} {Q : Value → Shared → Prop} {E : Value → Shared → Prop}
    (hclos : closureFor scope env = pure cl) (hcell : ∀ b, cellsFrom b scope.names cl = (x, b) :: cl) (hpc : ∀ h, pushCells h scope.names = h.push { cls := .type "cell", data := .cell none }) (hkind : scope.kind = .function)
    (hnames : ∀ y ∈ scope.names, y.2 = .local → scope.names.lookup y.1 = some .local) (hx : (relabel scope env).names.lookup x = some .cell)
    (h : wpAny (model prog w) A (eval iter env) (fun xv s₁ => wpAny (model prog w) A (pyIter xv) (fun it s₂ => CompAtC prog w A env scope cl x elt Q it s₂) E s₁) E s)
    (hs : ∀ x, foldedSetIterable iter env x = pure x := by intro _; rfl) :
    wpAny (model prog w) A (eval (.ListComp elt [⟨.Name x px, iter, [], 0⟩] scope pos) env) Q E s := by
  rw [eval_ListComp]
  refine wpAny_comprehension_free (use := none) rfl hs hclos hkind hnames (wpAny_mono h (fun xv s₁ h₁ => wpAny_mono h₁ (fun it s₂ h₂ => ?_) fun _ _ e => e) fun _ _ e => e)
  refine Classical.byContradiction fun hg9 => ?_
  (refine xa_5_8 (h₂) ?_; intro F I n P St r95 W hsz hst hI hStI he hQ; (try clear h₂))
  subst r95
  refine hg9 ?_
  clear hg9
  refine wpAny_newObj_type ?_
  simp only [newFunctionEnv, Option.isSome_some, if_true]
  refine wpAny_bind (wpAny_alloc ?_)
  refine wpAny_bind (wpAny_layCells _ (fun name kind cells => by cases hkc : kind == NameKind.cell <;> simp [hkc]) _ _ _ _ ?_)
  dsimp only
  rw [hcell, hpc]
  simp only [List.forIn_nil]
  refine wpAny_bind (wpAny_pure (wpAny_pure ?_))
  generalize hH1 : s₂.heap.push { cls := .type "list", dict := none, data := .seq ([] : List Value).toArray } = H1
  generalize hH2 : H1.push { cls := .type "dict", data := .dict #[] } = H2
  generalize hH3 : H2.push { cls := .type "cell", data := .cell none } = H3
  have hI' : @LT.lt Nat _ I s₂.heap.objs.size := hI
  have z1 : H1.objs.size = s₂.heap.objs.size + 1 := by rw [← hH1, Heap.size_push]
  have z2 : H2.objs.size = s₂.heap.objs.size + 2 := by rw [← hH2, Heap.size_push, z1]
  have k1 : ∀ b o, s₂.heap.get? b = some o → H3.get? b = some o := fun b o e => by rw [← hH3]; refine Heap.get?_push_of_some _ ?_; rw [← hH2]; refine Heap.get?_push_of_some _ ?_; rw [← hH1]; exact Heap.get?_push_of_some _ e
  have k2 : ∀ b o, H1.get? b = some o → H3.get? b = some o := fun b o e => by rw [← hH3]; refine Heap.get?_push_of_some _ ?_; rw [← hH2]; exact Heap.get?_push_of_some _ e
  have k3 : ∀ b o, H2.get? b = some o → H3.get? b = some o := fun b o e => by rw [← hH3]; exact Heap.get?_push_of_some _ e
  have hD : H3.get? s₂.heap.objs.size = some { cls := .type "list", dict := none, data := .seq ([] : List Value).toArray } := k2 _ _ (by rw [← hH1]; exact Heap.get?_push_size _ rfl)
  have hC : H3.Ns H1.objs.size fun _ => none := (hH2 ▸ Heap.Ns.new H1 (.type "dict")).keeps k3
  have hK : H3.IsCell H2.objs.size none := ⟨_, by rw [← hH3]; exact Heap.get?_push_size _ rfl, rfl⟩
  have fresh : ∀ a, s₂.heap.objs.size ≤ a → s₂.heap.get? a = none := fun a ha => by
    cases e : s₂.heap.get? a with
    | none => rfl
    | some o' => exact absurd (Heap.lt_size e) (Nat.not_lt.mpr ha)
  have loop : ∀ tk, codeAny (model prog w) A (.compLoop (.ListComp elt [⟨.Name x px, iter, [], 0⟩] scope pos) 0 (.ref I) (.ref s₂.heap.objs.size) (compEnvK scope cl x H1.objs.size H2.objs.size env))
      (compPost (model prog w) A E none Q (.ref s₂.heap.objs.size) H1.objs.size) { s₂ with heap := H3, toks := tk } := fun tk => by
    refine compC_loop F W hsz hx hkind (neN (by omega)) (neN (by omega)) (neN (by omega)) (neN (by omega)) (neN (by omega)) (neN (by omega)) (Nat.le_of_lt (by omega)) (Nat.le_of_lt (by omega)) (Nat.le_refl _) hStI he _ H3 ⟨tk, rfl⟩ (W.frame _ _ _ hst fun b _ o e => k1 b o e)
      ⟨⟨_, hD⟩, hC, ⟨_, hK⟩, fun p hp => absurd hp List.not_mem_nil, fun j p hj => (by simp at hj), Nat.zero_le _, fun b o _ e => k1 b o e⟩ fun h' tk Ts inv hl => ?_
    exact ⟨_, inv.ns, fun h'' hs => hQ _ _ _ h' tk Ts (neN (by omega)) (neN (by omega)) (fresh _ (Nat.le_refl _)) (fresh _ (Nat.le_of_lt (by omega))) inv hl h'' hs⟩
  exact codeAny_compStart_list (loop _) (W.self 0 _ _ _ (W.frame _ _ _ hst fun b _ o e => k1 b o e) (loop _))
end
section
variable {prog : Program} {w : World} {A : Around} {s : Shared} {env : Env}
theorem comp_rangeC {h₀ : Heap} {L r : Addr} {m : Str → Option Value} {news : List (Addr × Obj)} {scope : Scope} {cl : List (Str × Addr)} {x : Str} {elt : Expr} {Q : Value → Shared → Prop} {E : Value → Shared → Prop} {b' : Int} {t u v : Tok} (n : Nat) (Fo : Nat → Obj → Prop)
    (hh : A.handled = none) (F : Fr h₀ L s.heap m) (N : News h₀ L s.heap news) (hr : IsRange s.heap r 0 b' 1 t u v) (hz : Builtin.Range.small 0 b' 1 = true) (hz2 : Builtin.Range.rangeSize 0 b' 1 = (n : Int)) (hn : n ≤ 1000)
    (he : ∀ C K i t s₃ E' oK, i < n → Fr s.heap C s₃.heap (fun _ => none) → News s.heap C s₃.heap [(K, oK)] → oK.data = .cell (some (.int ((0 : Int) + (i : Nat) * 1) t)) →
      wpAny (model prog w) A (eval elt (compEnvK scope cl x C K env)) (fun y s₄ => (∃ T o, y = .ref T ∧ s₃.heap.get? T = none ∧ s₄.heap.get? T = some o ∧ Fo i o) ∧ Keeps s₃ s₄) E' s₃)
    (hQ : ∀ D h' tk (Ts : List (Addr × Obj)) ep, Fr h₀ L h' m → News h₀ L h' ((D, listOf (Ts.map fun p => Value.ref p.1).toArray ep) :: (Ts ++ news)) → Ts.length = n → (∀ j p, Ts[j]? = some p → Fo j p.2) → (∀ p ∈ Ts, s.heap.get? p.1 = none) → s.heap.get? D = none →
      (∀ b o, s.heap.get? b = some o → h'.get? b = some o) → Q (.ref D) { s with heap := h', toks := tk }) :
    wpAny (model prog w) A (pyIter (.ref r)) (fun it s₂ => CompAtC prog w A env scope cl x elt Q it s₂) E s := by
  refine wpAny_pyIter_range hr hz ?_
  have W := walks_lt (Walks.range (prog := prog) (w := w) hh s.heap.objs.size 0 1 n)
  have nI : ∀ b o, s.heap.get? b = some o → b ≠ s.heap.objs.size := fun b o e q => absurd (Heap.lt_size (q ▸ e)) (Nat.lt_irrefl _)
  refine ⟨Fo, s.heap.objs.size, n, _, _, rfl, W, ?_, ?_, ?_, ?_, ?_, ?_⟩
  · rw [sizeLine_eq]; omega
  · rw [hz2]; simp only [Int.ofNat_zero, Int.zero_mul, Int.add_zero, Int.sub_zero]; exact Heap.get?_push_size _ rfl
  · show s.heap.objs.size < (s.heap.push _).objs.size; rw [Heap.size_push]; exact Nat.lt_succ_self _
  · intro i h e q; rw [show h.get? s.heap.objs.size = _ from e] at q; cases q
  · intro C K i v s₃ E' hi hP hC hK hKC hns hcell hk
    refine Classical.byContradiction fun hg9 => ?_
    obtain ⟨_, t, r92⟩ := hP
    subst r92
    refine hg9 ?_
    clear hg9
    (refine xa_1_2 (hcell) ?_; intro oK hoK hdK; (try clear hcell))
    have hC' : s.heap.objs.size + 1 ≤ C := by have := hC; rw [Heap.size_push] at this; exact this
    have hK' : s.heap.objs.size + 1 ≤ K := by have := hK; rw [Heap.size_push] at this; exact this
    refine he C K i t s₃ E' oK hi ⟨hns, fun b o e => hk b o (nI b o e) (Heap.get?_push_of_some _ e), Nat.le_of_succ_le hC'⟩ ?_ hdK
    intro p hp
    rw [List.mem_singleton.mp hp]
    refine ⟨hoK, hKC, ?_⟩
    cases q : s.heap.get? K with
    | none => rfl
    | some o' => exact absurd (Heap.lt_size q) (Nat.not_lt.mpr (Nat.le_of_succ_le hK'))
  · intro D C K h' tk Ts hDC hKD hD hC inv hl h'' hs
    obtain ⟨ep, hacc⟩ := inv.acc
    have k : ∀ b o, s.heap.get? b = some o → h''.get? b = some o := fun b o e => by
      have e1 := Heap.get?_push_of_some { cls := .type "range_iterator", data := .fields #[rawInt 0, rawInt (Builtin.Range.rangeSize 0 b' 1), rawInt 1] } e
      exact hs.extBut b o (fun q => by rw [q, hC] at e1; cases e1) (inv.keep b o (nI b o e) e1)
    have nD : s.heap.get? D = none := by
      cases q : s.heap.get? D with
      | none => rfl
      | some o => have := Heap.get?_push_of_some { cls := .type "range_iterator", data := .fields #[rawInt 0, rawInt (Builtin.Range.rangeSize 0 b' 1), rawInt 1] } q; rw [hD] at this; cases this
    have nT : ∀ p ∈ Ts, s.heap.get? p.1 = none := fun p hp => by
      cases q : s.heap.get? p.1 with
      | none => rfl
      | some o => have := Heap.get?_push_of_some { cls := .type "range_iterator", data := .fields #[rawInt 0, rawInt (Builtin.Range.rangeSize 0 b' 1), rawInt 1] } q; rw [(inv.got p hp).2.1] at this; cases this
    refine hQ D h'' tk Ts ep (F.after k) (newsFresh0 F ?_ nD (hs.extBut _ _ hDC hacc)) hl inv.items nT nD k
    intro p hp
    rcases List.mem_append.mp hp with hp | hp
    · (refine an_4 (inv.got p hp) ?_; intro g1 _ g3 _)
      exact newsFresh0 F (newsAfter N k) (nT p hp) (hs.extBut _ _ g3 g1) p (.head _)
    · exact newsAfter N k p hp
end
end
section
section
variable {prog : Program} {w : World} {A : Around} {s : Shared} {env : Env}
/-- what is left of an assignment to a local, told before the store -/
noncomputable def StoreThen (L : Addr) (y : Str) (Q : Flow → Shared → Prop) (v : Value) (s' : Shared) : Prop :=
  ∃ m', s'.heap.Ns L m' ∧ ∀ h3 tk3, h3.Ns L (fun z => if z = y then some v else m' z) → Heap.SameBut L s'.heap h3 → Q .next { s' with heap := h3, toks := tk3 }
theorem sameBut_mid {L C : Addr} {h' h₂ h3 : Heap} {oL o2 : Obj} (hL : h'.get? L = some oL) (h2 : h₂.get? L = some o2) (hf : oL.isFreed = false) (hCL : C ≠ L) (a : Heap.SameBut L h' h₂) (b : Heap.SameBut C h₂ h3) : ∃ hv, Heap.SameBut C h' hv ∧ Heap.SameBut L hv h3 := by
  have e3 : h3.get? L = some o2 := (b.2 L (Ne.symm hCL)).trans h2
  refine ⟨h3.update L (fun _ => oL), ⟨?_, fun x hx => ?_⟩, ⟨?_, fun x hx => ?_⟩⟩
  · rw [Heap.size_update, b.1, a.1]
  · by_cases q : x = L
    · subst q
      rw [Heap.get?_update_self _ e3 hf, hL]
    · rw [Heap.get?_update_other _ _ (Ne.symm q), b.2 x hx, a.2 x q]
  · rw [Heap.size_update]
  · rw [Heap.get?_update_other _ _ (Ne.symm hx)]
theorem compU_at {elt iter : PySem.Expr} {x y : Str} {px py : Pos} {ifs : List PySem.Expr} {scope : Scope} (cl : List (Str × Addr)) {pos spos : Pos} {Q : Flow → Shared → Prop} {E : Value → Shared → Prop}
    (hsw : swapsWith (.ListComp elt [⟨.Name x px, iter, ifs, 0⟩] scope pos) (some (.Name y py)) spos.line env = pure true)
    (hclos : closureFor scope env = pure cl) (hcell : ∀ y ∈ scope.names, y.2 ≠ .cell) (hkind : scope.kind = .function)
    (hnames : ∀ y ∈ scope.names, y.2 = .local → scope.names.lookup y.1 = some .local) (hx : scope.names.lookup x = some .local)
    (hy : env.kindOf y = some .local) (hp : (env.scope.kind == .class || (env.scope.kind == .module && env.locals != env.globals)) = false)
    (h : wpAny (model prog w) A (eval iter env) (fun xv s₁ => wpAny (model prog w) A (pyIter xv) (fun it s₂ => (∃ o, s₂.heap.get? env.locals = some o) ∧ CompAt prog w A env scope cl x ifs elt (StoreThen env.locals y Q) it s₂) E s₁) E s)
    (hs : ∀ x, foldedSetIterable iter env x = pure x := by intro _; rfl) :
    wpAny (model prog w) A (exec (.Assign [.Name y py] (.ListComp elt [⟨.Name x px, iter, ifs, 0⟩] scope pos) spos) env) Q E s := by
  rw [exec_Assign_Name_used _ _ _ _ hsw]
  refine wpAny_bind (wpAny_standAt (wpAny_bind ?_))
  show wpAny _ A (do let _ ← comprehension (.ListComp elt [⟨.Name x px, iter, ifs, 0⟩] scope pos) scope env _ (newList []) false (eval iter env) (some (assign (.Name y py) env))) _ _ s
  refine wpAny_bind (wpAny_mono (wpAny_comprehension_free (use := some (assign (.Name y py) env)) (Q := fun _ s' => Q .next s') rfl hs hclos hkind hnames
    (wpAny_mono h (fun xv s₁ h₁ => wpAny_mono h₁ (fun it s₂ h₂ => ?_) fun _ _ e => e) fun _ _ e => e)) (fun _ s' hq => wpAny_pure (wpAny_pure hq)) fun _ _ e => e)
  refine Classical.byContradiction fun hg9 => ?_
  obtain ⟨n90, p, F, I, fp, wr, n, P, St, r99, W, hsz, hst, hfp, hq, hQ⟩ := h₂
  subst r99
  obtain ⟨oS, hoS⟩ := n90
  refine hg9 ?_
  clear hg9
  refine comp_block_walkC (RR := fun acc C => compPost (model prog w) A E (some (assign (.Name y py) env)) (fun _ s' => Q .next s') acc C) W hsz p F hcell hkind hx hst hfp hq ?_
  intro D C h' tk m' ys vs hD hC hDC hn hl hpl hlen hP hF hk
  have hCL : C ≠ env.locals := fun z => by rw [z, hoS] at hC; cases hC
  (refine xa_1_2 (hQ D h' tk ys vs hD hl hpl hlen hP hF hk) ?_; intro mL hnL _)
  show wpAny _ A (assign (.Name y py) env (.ref D)) _ _ _
  refine wpAny_assign_Name (wpAny_storeName_local hy hnL (fun h₂ hn₂ hs₂ => ?_) hp)
  refine ⟨m', hn.sameBut hs₂ hCL, fun h3 hs3 => ?_⟩
  (refine xa_3_3 (id hnL) ?_; intro oL _ _ hoL hdL _)
  (refine xa_3_2 (id hn₂) ?_; intro o2 _ _ ho2 _)
  (refine xa_1_2 (sameBut_mid hoL ho2 (Heap.get?_some_iff.mp hoL).2 hCL hs₂ hs3) ?_; intro hv a b)
  obtain ⟨mv, hnv, fin⟩ := hQ D hv tk ys vs hD (hl.extBut a.extBut hDC) (hpl.extBut a.extBut hDC) hlen hP hF fun b' o hbf e => a.extBut b' o (by rintro rfl; rw [hC] at e; cases e) (hk b' o hbf e)
  have em : mv = mL := funext fun z => hnv.agree (hnL.sameBut a (Ne.symm hCL)) z
  subst em
  exact fin h3 _ (hn₂.sameBut hs3 (Ne.symm hCL)) b
theorem storeThen_fr {h₀ : Heap} {L : Addr} {m : Str → Option Value} {news : List (Addr × Obj)} {y : Str} {Q : Flow → Shared → Prop} {v : Value} {s' : Shared} (F : Fr h₀ L s'.heap m) (N : News h₀ L s'.heap news)
    (k : ∀ h3 tk3, Fr h₀ L h3 (fun z => if z = y then some v else m z) → News h₀ L h3 news → Q .next { s' with heap := h3, toks := tk3 }) : StoreThen L y Q v s' := by
  refine ⟨m, F.ns, fun h3 tk3 hn hs => k h3 tk3 (F.set hn hs) fun p hp => ⟨(hs.2 p.1 (N p hp).2.1).trans (N p hp).1, (N p hp).2⟩⟩
/-- comp_range for an assignment to a local -/
theorem comp_rangeU {h₀ : Heap} {L r : Addr} {m : Str → Option Value} {news : List (Addr × Obj)} {scope : Scope} {cl : List (Str × Addr)} {x : Str} {ifs : List Expr} {elt : Expr} {Q : Value → Shared → Prop} {E : Value → Shared → Prop} {b : Int} {t u v : Tok} (n : Nat) (pz : Int → Bool) (fz : Int → Int)
    (hh : A.handled = none) (F : Fr h₀ L s.heap m) (N : News h₀ L s.heap news) (hr : IsRange s.heap r 0 b 1 t u v) (hz : Builtin.Range.small 0 b 1 = true) (hz2 : Builtin.Range.rangeSize 0 b 1 = (n : Int)) (hn : n ≤ 1000)
    (ht : CompTest prog w A env scope cl x ifs s (fun k => 0 ≤ k ∧ k < n) pz) (he : CompElt prog w A env scope cl x elt s (fun k => 0 ≤ k ∧ k < n) fz)
    (hQ : ∀ D h' tk ws ep, Fr h₀ L h' m → News h₀ L h' ((D, listOf ws.toArray ep) :: news) → (∀ p ∈ news, p.1 ≠ D) → s.heap.get? D = none → (∀ b o, s.heap.get? b = some o → h'.get? b = some o) →
      IntsAre ws ((((List.range n).map Int.ofNat).filter pz).map fz) → Q (.ref D) { s with heap := h', toks := tk }) :
    wpAny (model prog w) A (pyIter (.ref r)) (fun it s₂ => (∃ o, s₂.heap.get? L = some o) ∧ CompAt prog w A env scope cl x ifs elt Q it s₂) E s := by
  refine wpAny_pyIter_range hr hz ?_
  have W := walks_lt (Walks.range (prog := prog) (w := w) hh s.heap.objs.size 0 1 n)
  refine ⟨by obtain ⟨o, _, _, e, _⟩ := F.ns; exact ⟨o, Heap.get?_push_of_some _ e⟩, _, _, s.heap.objs.size, _, _, n, _, _, rfl, W, ?_, ?_, ?_, quiet_ints (s := s) (o := _) (dom := fun k => 0 ≤ k ∧ k < n) (pz := pz) (fz := fz) ?_ rfl rfl ht he, ?_⟩
  · rw [sizeLine_eq]; omega
  · rw [hz2]; simp only [Int.ofNat_zero, Int.zero_mul, Int.add_zero, Int.sub_zero]; exact Heap.get?_push_size _ rfl
  · intro b hb; rw [List.mem_singleton.mp hb]; show s.heap.objs.size < (s.heap.push _).objs.size; rw [Heap.size_push]; exact Nat.lt_succ_self _
  · rintro i v hJ92
    refine Classical.byContradiction fun hg9 => ?_
    obtain ⟨hi, t, r92⟩ := hJ92
    subst r92
    refine hg9 ?_
    clear hg9
    exact ⟨_, t, rfl, by omega, by omega⟩
  · intro D h' tk ys vs hD hl hpl hlen hP hF hk
    obtain ⟨ep, hpl⟩ := hpl
    have k : ∀ b o, s.heap.get? b = some o → h'.get? b = some o := fun b o e => hk b o (fun q => by rw [List.mem_singleton.mp q] at e; exact absurd (Heap.lt_size e) (Nat.lt_irrefl _)) (Heap.get?_push_of_some _ e)
    have nD : s.heap.get? D = none := by
      cases q : s.heap.get? D with
      | none => rfl
      | some o => have := Heap.get?_push_of_some { cls := .type "range_iterator", data := .fields #[rawInt 0, rawInt (Builtin.Range.rangeSize 0 b 1), rawInt 1] } q; rw [hD] at this; cases this
    obtain ⟨yl⟩ := ys
    exact hQ D h' tk yl ep (F.after k) (newsFresh0 F (newsAfter N k) nD hpl) (fun p hp e => by have := (N p hp).1; rw [e, nD] at this; cases this) nD k (paired_out (ints_range hlen fun j v q => (hP j v q).2) hF)

end
end
section
/-- where a generator expression of CandidateSet walks -/
noncomputable def SrcAt (prog : Program) (w : World) (s : Shared) (a : Addr) (n₀ : Nat) (P : Nat → Value → Prop) : Prop :=
  a ≠ 25 ∧ a < s.heap.objs.size ∧ ∀ (A : Around) (Q : Value → Shared → Prop) (E : Value → Shared → Prop), A.handled = none →
    (∀ o St₀, (∀ A' : Around, A'.handled = none → Walks prog w A' s.heap.objs.size [s.heap.objs.size, a] [s.heap.objs.size] n₀ P St₀) → St₀ 0 (s.heap.push o) → Q (.ref s.heap.objs.size) { s with heap := s.heap.push o }) →
    wpAny (model prog w) A (pyIter (.ref a)) Q E s
theorem src_list {prog : Program} {w : World} {s : Shared} {l : Addr} {vs : List Value} {ps : Array Value} (ht : s.heap.get? 25 = some (tabObj ps)) (hl : s.heap.IsList l vs.toArray) : SrcAt prog w s l vs.length (fun i v => vs[i]? = some v) := by
  (refine xa_1_3 (id hl) ?_; intro ol hol hcl _)
  refine ⟨fun q => ?_, Heap.lt_size hol, fun A Q E hh h => ?_⟩
  · rw [q, ht] at hol; cases hol; cases hcl
  · have hne : l ≠ s.heap.objs.size := Nat.ne_of_lt (Heap.lt_size hol)
    refine wpAny_pyIter_list hl (h _ (fun i (h : Heap) => h.IsListIter s.heap.objs.size l i ∧ h.IsList l vs.toArray) (fun A' hA => ?_) ⟨⟨_, Heap.get?_push_size _ rfl, rfl, rfl⟩, hl.push _⟩)
    have W := Walks.list (prog := prog) (w := w) hA s.heap.objs.size l hne vs.toArray
    have e : vs.toArray.size = vs.length := by simp
    rw [e] at W
    have e2 : (fun (i : Nat) (v : Value) => vs.toArray[i]? = some v) = fun i v => vs[i]? = some v := by funext i v; simp
    rw [e2] at W
    exact W
theorem src_set {prog : Program} {w : World} {s : Shared} {a : Addr} {o : Obj} {n : Nat} {ps : Array Value} (ht : s.heap.get? 25 = some (tabObj ps)) (ho : s.heap.get? a = some o) (hs : SmallSet w o n) : SrcAt prog w s a (zsOf n).length (fun _ v => ∃ z t, z ∈ zsOf n ∧ v = .int (z : Nat) t) := by
  refine Classical.byContradiction fun hg9 => ?_
  obtain ⟨hn, ep, mask, fin, mv, tok, hm, hnf, r98⟩ := hs
  subst r98
  refine hg9 ?_
  clear hg9
  refine ⟨fun q => ?_, Heap.lt_size ho, fun A Q E hh h => ?_⟩
  · rw [q, ht] at ho; cases ho
  · have hne : a ≠ s.heap.objs.size := Nat.ne_of_lt (Heap.lt_size ho)
    refine pyIter_small hn hm ho (h _ (fun i h => h.get? s.heap.objs.size = some (setIterObj (slotAt w n i) i a (zsOf n).length ep) ∧ h.get? a = some { cls := .type "set", data := .set (esOf n tok) ep (tabOf mask n fin (ledOf w) mv) }) (fun A' hA => ?_) ⟨?_, Heap.get?_push_of_some _ ho⟩)
    · have W := walks_set (prog := prog) (w := w) (A := A') (ep := ep) (fin := fin) (mv := mv) (tok := tok) hA s.heap.objs.size a hne hn hm
      refine ⟨W.sub, W.frame, fun i s Q E hi st k => W.item i s Q E hi st fun v h' tk hv => k v h' tk ?_, W.done, W.self⟩
      refine Classical.byContradiction fun hg9 => ?_
      (refine xa_2_2 (hv) ?_; intro z t hz r93; (try clear hv))
      subst r93
      refine hg9 ?_
      clear hg9
      exact ⟨z, t, (ord_perm w a ep n tok).mem_iff.mp (List.mem_of_getElem? hz), rfl⟩
    · have e : slotAt w n 0 = 0 := by unfold slotAt; split <;> rfl
      rw [e]; exact Heap.get?_push_size _ rfl
theorem newsUp {h₀ h h' : Heap} {L L' : Addr} {news : List (Addr × Obj)} {g : Obj → List (Addr × Obj)} {ps ps' : Array Value} (N : News h₀ L h news) (U : UpdF 25 (tabObj ps) news g) (k : ∀ p ∈ news, p.1 ≠ 25 → h'.get? p.1 = some p.2) (e : h'.get? 25 = some (tabObj ps')) (nL : ∀ p ∈ news, p.1 ≠ L') : News h₀ L' h' (g (tabObj ps')) := by
  refine Classical.byContradiction fun hg9 => ?_
  (refine xa_2_4 (U.split) ?_; intro pre post r92 hg h1 h2)
  subst r92
  refine hg9 ?_
  clear hg9
  rw [hg]
  have m25 : (25, tabObj ps) ∈ pre ++ (25, tabObj ps) :: post := List.mem_append_right _ (.head _)
  have h25 := N _ m25
  intro p hp
  rcases List.mem_append.mp hp with hp | hp
  · have m := List.mem_append_left ((25, tabObj ps) :: post) hp
    exact ⟨k p m (h1 p hp), nL p m, (N p m).2.2⟩
  · rcases List.mem_cons.mp hp with rfl | hp
    · exact ⟨e, nL (25, tabObj ps) m25, h25.2.2⟩
    · have m : p ∈ pre ++ (25, tabObj ps) :: post := List.mem_append_right pre (List.Mem.tail _ hp)
      exact ⟨k p m (h2 p hp), nL p m, (N p m).2.2⟩
theorem updF_addr {d : Addr} {o o' : Obj} {news : List (Addr × Obj)} {g : Obj → List (Addr × Obj)} (U : UpdF d o news g) : ∀ p ∈ g o', ∃ q ∈ news, q.1 = p.1 := by
  refine Classical.byContradiction fun hg9 => ?_
  (refine xa_2_3 (U.split) ?_; intro pre post r92 hg _)
  subst r92
  refine hg9 ?_
  clear hg9
  rw [hg]
  intro p hp
  rcases List.mem_append.mp hp with hp | hp
  · exact ⟨p, List.mem_append_left _ hp, rfl⟩
  · rcases List.mem_cons.mp hp with rfl | hp
    · exact ⟨(d, o), List.mem_append_right _ (.head _), rfl⟩
    · exact ⟨p, List.mem_append_right _ (.tail _ hp), rfl⟩
section
variable {prog : Program} {w : World} {A : Around} {E : Value → Shared → Prop} {s : Shared} {h₀ : Heap} {L : Addr} {m mg mb : Str → Option Value} {news : List (Addr × Obj)} {p : Program} {loose : List Str} {mean : ExcName → Option Value} {ps : Array Value} {g : Obj → List (Addr × Obj)}
theorem genCode_k {env : Env} {pos : Pos} {q : Str} {scope : Scope} {Q : Value → Shared → Prop} (F : Fr h₀ L s.heap m) (N : News h₀ L s.heap news) (C : CodeHd h₀ 29 25) (U : UpdF 25 (tabObj ps) news g) (ht : TriplesOk ps.toList) (hcode : env.code = .ref 29)
    (h : ∀ code h₃ tk ps', Heap.ExtBut 25 s.heap h₃ → s.heap.objs.size ≤ h₃.objs.size → h₃.get? 25 = some (tabObj ps') → TriplesOk ps'.toList → Q code { s with heap := h₃, toks := tk }) : wpAny (model prog w) A (genexprCode env pos q scope) Q E s := by
  have h25 := (N _ (updF_mem U)).1
  have Cs := C.keeps F.keep
  have ic := Cs.code h25 ht
  cases e : codeAmong pos ps.toList with
  | some c' => exact wpAny_genexprCode_hit hcode ic e (h c' s.heap s.toks ps (Heap.ExtBut.refl _ _) (Nat.le_refl _) h25 ht)
  | none =>
    refine wpAny_genexprCodeX hcode ic (Cs.tab h25) e fun c' h' tk hx hge hlt hc' _ htb _ => h _ h' tk _ hx (Nat.le_trans hge (Nat.le_of_lt hlt)) htb.2 ?_
    (refine xa_10_11 (hc') ?_; intro o vs file tf flags tg inF text tt op _ _ _ _ _ _ _ _ _ htr _; (try clear hc'))
    exact htr
/-- a generator expression of CandidateSet as a step of the walk -/
theorem genexp_k {env : Env} {elt : Expr} {x y : Str} {px py pos : Pos} {scope : Scope} {cl : List (Str × Addr)} {a : Addr} {n₀ : Nat} {P : Nat → Value → Prop} {Q : Value → Shared → Prop} (Fv : Value → Prop)
    (hh : A.handled = none) (hroom : A.depth < recursionLimit) (F : Fr h₀ L s.heap m) (N : News h₀ L s.heap news) (T : Top p loose mean mg mb h₀) (C : CodeHd h₀ 29 25) (U : UpdF 25 (tabObj ps) news g) (ht : TriplesOk ps.toList) (B : AllBare s.gens)
    (hcode : env.code = .ref 29) (hgl : env.globals = mainGlobals) (hco : scope.isCoroutine = false) (hclos : closureFor scope env = pure cl) (hcell : ∀ y ∈ scope.names, y.2 ≠ .cell) (h0 : scope.names.lookup (".0" : Str) = some NameKind.local)
    (hx : scope.names.lookup x = some .local) (hkind : scope.kind = .function)
    (he : env.locals = L) (hm : m y = some (.ref a)) (hke : env.scope.kind = .function) (hky : env.kindOf y = some .local) (hdy : (y == ("__debug__" : Str)) = false)
    (src : SrcAt prog w s a n₀ P)
    (helt : ∀ C' code ps' (A' : Around) E' v (u : Shared) m₂, A'.handled = none → A'.depth ≤ A.depth + 1 → A'.units ≤ A.units + 8 → (∃ i, P i v) → Fr h₀ C' u.heap m₂ → News h₀ C' u.heap (g (tabObj ps')) → m₂ x = some v →
      wpAny (model prog w) A' (eval elt (genEnv scope cl C' code builtinsNs env)) (fun y s₃ => Fv y ∧ Keeps u s₃) E' u)
    (h : ∀ Kb G s₅ ps', Fr h₀ L s₅.heap m → News h₀ L s₅.heap (g (tabObj ps')) → TriplesOk ps'.toList → AllBare s₅.gens → s₅.os = s.os → Gen prog w A Kb G n₀ (fun _ y => Fv y) s₅ → (∀ p ∈ g (tabObj ps'), p.1 ≤ Kb) → L ≤ Kb → h₀.objs.size ≤ Kb + 1 → Q (.ref G) s₅)
    (hs : ∀ x, genFold (.Name y py) env x = pure x := by intro _; rfl) :
    wpAny (model prog w) A (eval (.GeneratorExp elt [⟨.Name x px, .Name y py, [], 0⟩] scope pos) env) Q E s := by
  (refine an_3 (src) ?_; intro a25 ha hit; (try clear src))
  have h25 := N _ (updF_mem U)
  have L0 : L < s.heap.objs.size := F.ns.lt
  refine wpAny_GeneratorExp_walksQD hh hco hclos hcell h0 hx hkind hroom ?_ hs
  refine nmL F he hm ?_ hke hky hdy
  refine hit _ _ _ hh fun o St₀ W st => ?_
  have F₂ := F.push o
  have N₂ := newsPush' N o
  refine ⟨T.nolimit.keeps F₂.keep, ?_⟩
  refine genCode_k (s := { s with heap := s.heap.push o }) F₂ N₂ C U ht hcode fun code h₃ tk ps' hx₃ hsz hP' ht' => ?_
  have sz2 : s.heap.objs.size + 1 ≤ h₃.objs.size := by have := hsz; rwa [show (({ s with heap := s.heap.push o } : Shared).heap.objs.size) = s.heap.objs.size + 1 from Heap.size_push ..] at this
  have k₃ : ∀ b ob, b ≠ 25 → s.heap.get? b = some ob → h₃.get? b = some ob := fun b ob hb e => hx₃ b ob hb (Heap.get?_push_of_some _ e)
  have n25 : ∀ b ob, h₀.get? b = some ob → b ≠ 25 := fun b ob e q => by rw [q, h25.2.2] at e; cases e
  have F₃ : Fr h₀ L h₃ m := ⟨F.ns.at' fun ob e => k₃ L ob (Ne.symm h25.2.1) e, fun b ob e => k₃ b ob (n25 b ob e) (F.keep b ob e), F.above⟩
  have N₃ : News h₀ L h₃ (g (tabObj ps')) := newsUp N U (fun q hq hb => k₃ _ _ hb (N q hq).1) hP' fun q hq => (N q hq).2.1
  have hl₃ : h₃.NoLimit := T.nolimit.keeps F₃.keep
  (refine xa_2_6 (T.bmain) ?_; intro bm ob b1 b2 b3 b4 b5 b6)
  refine wpAny_builtinsFor (by rw [hgl]; exact T.g.keeps F₃.keep) b1 b2 (F₃.keep _ _ b3) b4 b5 b6 ?_
  have hpn : (passing (fun _ => true) n₀ 0).length = n₀ := by
    unfold passing
    rw [List.drop_zero, List.filter_eq_self.mpr (by simp), List.length_range]
  have hIne : ∀ b ob, h₀.get? b = some ob → b ≠ s.heap.objs.size := fun b ob e => Nat.ne_of_lt (Heap.lt_size (F.keep b ob e))
  refine ⟨s.heap.objs.size, [s.heap.objs.size, a], [s.heap.objs.size], n₀, P, St₀, (fun _ => true), (fun _ y => Fv y), rfl, W, ?_, ?_, hl₃, ?_, ?_, ?_⟩
  · refine (W A hh).frame _ _ _ st fun b hb ob e => hx₃ b ob (fun q => ?_) e
    rcases List.mem_cons.mp hb with rfl | hb
    · rw [← q] at h25; exact absurd (Heap.lt_size h25.1) (Nat.lt_irrefl _)
    · exact a25 ((List.mem_singleton.mp hb).symm.trans q)
  · refine fmc (Nat.lt_of_lt_of_le (Nat.lt_succ_self _) sz2) ?_
    intro b hb
    · rw [List.mem_singleton.mp hb]; exact Nat.lt_trans ha (Nat.lt_of_lt_of_le (Nat.lt_succ_self _) sz2)
  · intro hb
    (refine xa_1_2 (T.nolimit) ?_; intro _ hns _)
    (refine xa_3_2 (hns) ?_; intro oc _ _ e _; (try clear hns))
    exact hIne _ _ e (List.mem_singleton.mp hb)
  · intro href hhref
    have kk : ∀ (u : Shared), (∀ b ∈ List.range h₃.objs.size, b ∉ [s.heap.objs.size] → ∀ o, href.get? b = some o → u.heap.get? b = some o) → ∀ b ob, b ≠ s.heap.objs.size → h₃.get? b = some ob → u.heap.get? b = some ob :=
      fun u hk b ob hb e => hk b (List.mem_range.mpr (Heap.lt_size e)) (fun q => hb (List.mem_singleton.mp q)) ob (hhref b ob e)
    refine ⟨fun A' E' i v u m₂ hA' hD hU hP _ hm₂ hk => wpAny_tests_nil ⟨rfl, keeps_refl _⟩, fun A' E' i v u m₂ hA' hD hU hP _ hns hm₂ hk => ?_⟩
    have k' := kk u hk
    refine helt h₃.objs.size code ps' A' E' v u m₂ hA' hD hU ⟨i, hP⟩ ⟨hns, fun b ob e => k' b ob (hIne b ob e) (F₃.keep b ob e), Nat.le_trans F.above (Nat.le_of_lt (Nat.lt_of_lt_of_le (Nat.lt_trans L0 (Nat.lt_succ_self _)) sz2))⟩ (fun q hq => ?_) hm₂
    (refine xa_1_2 (updF_addr U q hq) ?_; intro r hr e)
    have lt : q.1 < s.heap.objs.size := by rw [← e]; exact Heap.lt_size (N r hr).1
    exact ⟨k' _ _ (Nat.ne_of_lt lt) (N₃ q hq).1, Nat.ne_of_lt (Nat.lt_trans lt (Nat.lt_of_lt_of_le (Nat.lt_succ_self _) sz2)), (N₃ q hq).2.2⟩
  · intro G h₅ tk₅ gs hgb hag hsz₅ hk₅ W' hat
    have ls : 0 < s.heap.objs.size := Nat.lt_of_le_of_lt (Nat.zero_le _) L0
    refine h (s.heap.objs.size - 1) G _ ps' (F₃.keeps hk₅) (newsAfter N₃ hk₅) ht' (B.push hgb) rfl ?_ (fun q hq => ?_) (Nat.le_sub_one_of_lt L0) ?_
    · have X : Gen prog w A (s.heap.objs.size - 1) G (passing (fun _ => true) n₀ 0).length (fun j y => ∃ i, (passing (fun _ => true) n₀ 0)[j]? = some i ∧ Fv y) { s with gens := s.gens.push gs, toks := tk₅, heap := h₅ } := by
        refine ⟨_, _, _, _, W', hat, (fun i s' st => st.1.typeIs), List.mem_cons_self, ?_, ?_⟩
        · intro b hb
          show b < h₅.objs.size
          rw [hsz₅]
          rcases List.mem_cons.mp hb with rfl | hb
          · exact Nat.lt_succ_self _
          · rcases List.mem_cons.mp hb with rfl | hb
            · exact Nat.lt_succ_of_lt hag
            · exact Nat.lt_succ_of_lt (Nat.lt_trans (List.mem_range.mp hb) hag)
        · intro b hb
          rcases List.mem_cons.mp hb with rfl | hb
          · show s.heap.objs.size - 1 < h₃.objs.size; omega
          · rw [List.mem_singleton.mp hb]; exact Nat.sub_lt ls (by decide)
      have X' := X.imp (F' := fun _ y => Fv y) fun j y hy => hy.choose_spec.2
      rwa [hpn] at X'
    · (refine xa_1_2 (updF_addr U q hq) ?_; intro r hr e)
      have lt : q.1 < s.heap.objs.size := by rw [← e]; exact Heap.lt_size (N r hr).1
      show (q.1 : Nat) ≤ _
      exact Nat.le_sub_one_of_lt lt
    · rw [Nat.sub_add_cancel ls]
      exact Nat.le_trans F.above (Nat.le_of_lt L0)
theorem all_k {Kb G : Addr} {n₀ : Nat} {Q : Value → Shared → Prop} (F : Fr h₀ L s.heap m) (N : News h₀ L s.heap news) (B : AllBare s.gens) (X : Gen prog w A Kb G n₀ (fun _ y => y = .bool true) s) (hk : ∀ p ∈ news, p.1 ≤ Kb) (hL : L ≤ Kb)
    (h : ∀ s', Fr h₀ L s'.heap m → News h₀ L s'.heap news → AllBare s'.gens → s'.os = s.os → Q (.bool true) s') : wpAny (model prog w) A (call (.builtin "all") [.ref G]) Q E s := by
  refine all_rowsK F B X hL (fun _ => true) (fun i v s Q E hP hQ => by subst hP; exact wpAny_truthy_bool hQ) fun s' F' B' ho k => ?_
  have e : (List.range n₀).all (fun _ => true) = true := by simp
  rw [e]
  exact h s' F' (fun q hq => ⟨k _ _ (hk q hq) (N q hq).1, (N q hq).2⟩) B' ho
theorem any_k {Kb G : Addr} {n₀ : Nat} {Q : Value → Shared → Prop} (F : Fr h₀ L s.heap m) (N : News h₀ L s.heap news) (B : AllBare s.gens) (X : Gen prog w A Kb G n₀ (fun _ y => y = .bool false) s) (hk : ∀ p ∈ news, p.1 ≤ Kb) (hL : L ≤ Kb)
    (h : ∀ s', Fr h₀ L s'.heap m → News h₀ L s'.heap news → AllBare s'.gens → s'.os = s.os → Q (.bool false) s') : wpAny (model prog w) A (call (.builtin "any") [.ref G]) Q E s := by
  refine any_rowsK F B X hL (fun _ => false) (fun i v s Q E hP hQ => by subst hP; exact wpAny_truthy_bool hQ) fun s' F' B' ho k => ?_
  have e : (List.range n₀).any (fun _ => false) = false := by simp
  rw [e]
  exact h s' F' (fun q hq => ⟨k _ _ (hk q hq) (N q hq).1, (N q hq).2⟩) B' ho
end
end
section
theorem cmpBack_ref {Q : Value → Shared → Prop} {a : Addr} {s : Shared} (h : Q (.ref a) s) : W.CmpBack Q (.ref a) s := h
section
variable {prog : Program} {w : World} {A : Around} {E : Value → Shared → Prop} {s : Shared} {K : Frag} {x C L f : Addr} {h₀ : Heap} {m : Str → Option Value} {ox : Obj} {od : Option Obj}
theorem fillsI_none {M : Model} {h : Heap} {nm : String} {add : Bool} (X : K.In h) (hc : (clsIn K C).map (·.mro) = some [.ref C, .type "object"]) (h1 : findIn K (.ref C) (dunderI nm) = some none) (h2 : findIn K (.type "object") (dunderI nm) = some none) :
    Looks M h (fillsInplaceSlot (.ref C) nm add) false := by
  intro A Q E s k q
  (refine xa_1_2 (Option.map_eq_some_iff.mp hc) ?_; intro cd hcd hm)
  unfold fillsInplaceSlot
  refine wpAny_bind ((looks_clsIn X hcd).andThen (f := fun cd => pure cd.mro) .now A _ E s k ?_)
  rw [hm, List.anyM_cons]
  refine wpAny_bind (wpAny_bind (looks_findIn X h1 A _ E s k ?_))
  refine wpAny_pure ?_
  rw [if_neg (by decide), List.anyM_cons]
  refine wpAny_bind (wpAny_bind (looks_findIn X h2 A _ E s k ?_))
  refine wpAny_pure ?_
  rw [if_neg (by decide), List.anyM_nil]
  exact wpAny_pure q
/-- x op= b, where the class has no method of its own for it, both of one class -/
theorem inplace_K {cd' : ClassData} {op : Operator} {b : Value} {Q : Value → Shared → Prop} (F : Fr h₀ L s.heap m) (X₀ : K.In h₀) (I : InstAt s.heap x ox C od) (hb : Looks (model prog w) s.heap (typeOf b) (.ref C)) (hc : selfFirst K C = true)
    (hcls : clsIn K C = some cd') (hmro : cd'.mro = [.ref C, .type "object"]) (h1 : findIn K (.ref C) (dunderI op.info.2) = some none) (h2 : findIn K (.type "object") (dunderI op.info.2) = some none)
    (hs : findIn K (.ref C) (PySem.dunder op.info.2) = some (some (.ref f))) (hf : isFn K (.ref f) = true)
    (h : wpAny (model prog w) A (call (.ref f) [.ref x, b]) (W.CmpBack Q) E s) : wpAny (model prog w) A (inplaceOp op (.ref x) b) Q E s := by
  have X := X₀.keeps F.keep
  (refine xa_1_2 (any_some hc) ?_; intro cd hcd hm)
  obtain ⟨rest, hm⟩ : ∃ rest, cd.mro = .ref C :: rest := by
    cases q : cd.mro with
    | nil => rw [q] at hm; cases hm
    | cons a r => rw [q] at hm; exact ⟨r, by rw [List.head?_cons] at hm; cases (beq_iff_eq.mp hm); rfl⟩
  have L2 : Looks (model prog w) s.heap (fillsInplaceSlot (.ref C) op.info.2 (op == .Add)) false := fillsI_none X (by rw [hcls, Option.map_some, hmro]) h1 h2
  unfold inplaceOp
  refine wpAny_holding (wpAny_bind (I.type.here ?_))
  refine wpAny_bind (L2.here ?_)
  refine wpAny_ite_false (by rfl) ?_
  refine wpAny_bind ?_
  unfold binaryOp1
  refine wpAny_bind ((I.type.here (wpAny_bind (hb.here (wpAny_bind ((fills_K X hcd hm hs).here ?_))))))
  refine wpAny_ite_true (decide_eq_true (beq_self_eq_true _)) ?_
  repeat (first | refine wpAny_ite_false (by rfl) ?_ | refine wpAny_ite_true (by rfl) ?_ | refine wpAny_bind (wpAny_pure ?_))
  refine wpAny_bind (m := tryMethod (.ref x) _ b) ?_
  unfold tryMethod
  refine wpAny_bind (special_fn X I hs (beq_iff_eq.mp hf) (wpAny_mono h (fun v s' hv => ?_) fun _ _ e => e))
  cases v <;> first | exact hv.elim | exact wpAny_pure (wpAny_pure (wpAny_pure hv))
end
theorem frac_add_eq {a b n₁ d₁ n d N D g₁ g₂ : Int} (hb : 0 < b) (hd : 0 < d₁) (e : n * (b * d₁) = (a * d₁ + n₁ * b) * d) (e1 : a * D = N * b) (e2 : n₁ * g₂ = g₁ * d₁) : n * (D * g₂) = (N * g₂ + g₁ * D) * d := by
  have hne : b * d₁ ≠ 0 := Int.ne_of_gt (Int.mul_pos hb hd)
  refine Int.eq_of_mul_eq_mul_right hne ?_
  have h1 : n * (D * g₂) * (b * d₁) = (n * (b * d₁)) * (D * g₂) := by grind
  have h2 : (N * g₂ + g₁ * D) * d * (b * d₁) = ((N * b) * (d₁ * g₂) + (g₁ * d₁) * (b * D)) * d := by grind
  rw [h1, h2, e, ← e1, ← e2]
  grind
theorem headFrac {h₀ h : Heap} {L x dx : Addr} {hs1 hs2 n d : Int} {t1 t2 t3 t4 : Tok} {rest : List (Addr × Obj)} (N : News h₀ L h ((x, instObj 182 dx) :: (dx, fracD hs1 hs2 n d t1 t2 t3 t4) :: rest)) :
    ∃ y dy ks1 ks2 a b u1 u2 u3 u4, News h₀ L h ((y, instObj 182 dy) :: (dy, fracD ks1 ks2 a b u1 u2 u3 u4) :: rest) ∧ y = x ∧ dy = dx ∧ a = n ∧ b = d := ⟨_, _, _, _, _, _, _, _, _, _, N, rfl, rfl, rfl, rfl⟩
end
theorem words22 : True := by
  (k_with "eval Name" => ((k_dflt (first | (refine' nmL ?F_q ?e_q ?v_q ?_ ?a_q ?b_q ?d_q; (case F_q => with_reducible assumption); (case e_q => exact rfl); (case v_q => first | with_reducible assumption | ((try dsimp only); first | exact (if_neg (by decide)).trans (by with_reducible assumption) | exact (if_neg (by decide)).trans ((if_neg (by decide)).trans (by with_reducible assumption)) | exact (if_neg (by decide)).trans ((if_neg (by decide)).trans ((if_neg (by decide)).trans (by with_reducible assumption)))) | exact rfl); (case a_q => exact rfl); (case b_q => exact rfl); (case d_q => decide); k_whole) | (refine' nmC ?F_q ?c_q ?o_q ?d_q ?_ ?a_q ?b_q ?g_q; (case F_q => with_reducible assumption); (case a_q => exact rfl); (case b_q => exact rfl); (case c_q => exact rfl); (case o_q => with_reducible assumption); (case d_q => with_reducible assumption); (case g_q => decide); k_whole) | (refine' nameG_K ?F_q ?X_q ?T_q ?e_q ?_ ?g_q ?a_q ?b_q ?d_q; (case F_q => with_reducible assumption); (case X_q => k_asm); (case T_q => k_asm); (case a_q => exact rfl); (case b_q => exact rfl); (case e_q => k_is); (case g_q => exact rfl); (case d_q => decide); k_whole) | (refine' nmB ?F_q ?X_q ?T_q ?e_q ?v_q ?n_q ?_ ?g_q ?h_q ?a_q ?b_q ?d_q; (case F_q => with_reducible assumption); (case X_q => k_asm); (case T_q => k_asm); (case a_q => exact rfl); (case b_q => exact rfl); (case e_q => k_is); (case v_q => boot_fast); (case n_q => decide); (case g_q => exact rfl); (case h_q => exact rfl); (case d_q => decide); k_whole)))))
  (k_with "call ref" => (((with_reducible show wpAny _ _ (call (Value.ref 492) [Value.ref _, Value.int _ _]) _ _ _); k_dflt (refine' liftI ?F_q ?N_q ?X_q ?T_q (cellZ _ _) (fun R hR => cell_code ⟨Frag.In.keeps (by k_asm) (Fr.keep (by k_asm)), _, _, _, _, _, Top.keeps (by k_asm) (Fr.keep (by k_asm))⟩ (Room.le (by assumption) (by decide)) (stays_list (Fr.keep (by with_reducible assumption)) (by with_reducible assumption)) (by with_reducible assumption) (by with_reducible assumption) (by omega) (by omega) hR) ?_; (case F_q => k_asm); (case N_q => k_asm); (case X_q => k_asm); (case T_q => k_asm)); intro _ _ _ _ _ _)))
  (k_with "exec For" => ((with_unfolding_all refine for_at ?_)))
  (k_with "pyIter ref" => (first | (with_reducible refine hold_pyF ?_) | (with_reducible refine hold_pyC ?_)))
  (k_with "call builtin:len" => (((with_reducible show wpAny _ _ (call (Value.builtin "len") [Value.ref _]) _ _ _); k_dflt (refine' len_old ?F_q ?l_q ?f_q ?_; (case F_q => with_reducible assumption); (case l_q => with_reducible assumption); (case f_q => omega)))))
  (k_with "subscriptTail Name Name ref int" => (((with_reducible show wpAny _ _ (subscriptTail _ _ (Value.ref _) (Value.int _ _)) _ _ _); k_dflt (refine' item_at ?l_q ?a_q ?b_q ?x_q ?_ ?s_q; (case l_q => with_reducible assumption); (case x_q => with_reducible assumption); (case a_q => omega); (case b_q => omega); (case s_q => with_unfolding_all rfl)))))
  (k_with "compareOp In int ref" => ((k_dflt (refine' in_list_ints ?l_q ?i_q ?_; (case l_q => with_reducible assumption); (case i_q => with_reducible assumption)))))
  (k_with "call builtin:len" => (((with_reducible show wpAny _ _ (call (Value.builtin "len") [Value.ref _]) _ _ _); k_dflt (refine' len_cur ?l_q ?f_q ?_; (case l_q => with_reducible assumption); (case f_q => omega)))))
  (k_with "exec For Name Call cons nil" => ((with_unfolding_all refine for_at ?_)))
  (k_with "exec For Name Name cons nil" => ((with_unfolding_all refine for_at ?_)))
  trivial
section
theorem words23 : True := by
  (k_with "eval ListComp Name cons" => ((k_dflt (refine' comp_at _ ?c1_q ?c2_q ?c3_q ?c4_q ?c5_q ?_ ?c6_q; (case c1_q => with_unfolding_all rfl); (case c2_q => decide); (case c3_q => exact rfl); (case c4_q => decide); (case c5_q => exact rfl); (case c6_q => (intro _; exact rfl))))))
  (k_with "eval ListComp ListComp cons" => ((k_dflt (refine' compC_at _ ?c1_q ?c7_q ?c8_q ?c3_q ?c4_q ?c5_q ?_ ?c6_q; (case c1_q => with_unfolding_all rfl); (case c7_q => (intro _; exact rfl)); (case c8_q => (intro _; exact rfl)); (case c3_q => exact rfl); (case c4_q => decide); (case c5_q => exact rfl); (case c6_q => (intro _; exact rfl))))))
  trivial
noncomputable def IntListObj (o : Obj) (b : List Int) : Prop := ∃ (ws : List Value) (ep : Nat), o = listOf ws.toArray ep ∧ IntsAre ws b
/-- the ballots in a ledger -/
noncomputable def BallotsIn (imm : List (Addr × Obj)) (l : Addr) (bs : List (List Int)) : Prop :=
  ∃ (vs : List Value) (ep : Nat), (l, listOf vs.toArray ep) ∈ imm ∧ vs.length = bs.length ∧ ∀ (i : Nat) (b : List Int), bs[i]? = some b → ∃ T o, vs[i]? = some (Value.ref T) ∧ (T, o) ∈ imm ∧ IntListObj o b
noncomputable def Made (h h' : Heap) (imm : List (Addr × Obj)) : Prop := ∀ p ∈ imm, h.get? p.1 = none ∧ h'.get? p.1 = some p.2
noncomputable def ballotZ (ns : List Int) (nc i : Nat) : List Int := ((List.range nc).map Int.ofNat).filter fun c => cellZ ns (2 + 2 * (i : Int)) / 2 ^ c.toNat % 2 == 1
theorem pow_nonneg2 (n : Nat) : (0 : Int) ≤ 2 ^ n := Int.pow_nonneg (by decide)
theorem ballots_code {prog : Program} {w : World} {A : Around} {s : Shared} {R : Result → Shared → Prop} (G : Gnd w s.heap) (hA : Room A 9) {l : Addr} {vs : List Value} {ns : List Int} (hl : s.heap.IsList l vs.toArray) (hi : IntsAre vs ns) (hn : ns.length < 2 ^ 62) {nv nc : Nat} {tv tc : Tok} (hv : nv ≤ 4) (hc : nc ≤ 6)
    (hR : ∀ l imm s', Done s s' → Made s.heap s'.heap imm → BallotsIn imm l ((List.range nv).map (ballotZ ns nc)) → R (.ok (.ret (.ref l))) s') :
    codeAny (model prog w) A (.call (.ref 497) ⟨[.ref l, .int (nv : Int) tv, .int (nc : Int) tc], []⟩) R s := by
  obtain ⟨X, p, loose, mean, mg, mb, T⟩ := G
  w_on
  w_strict (k_dflt (refine' enterC (K := hd.heap_1 w.params) (binds := [(Str.ofString "script", .ref l), (Str.ofString "voters", .int (nv : Int) tv), (Str.ofString "count", .int (nc : Int) tc)]) X T.nolimit ?o ?c ?b ?l ?d hA (fun L h₁ tk cells F N Y dp un fr gd hA' => ?_) ?c2 ?c3 ?c4; (case o => k_is); (case c => k_is); (case b => first | exact BindsTo.of_eq rfl | exact binds_K X rfl (by k_is) rfl rfl rfl); (case l => exact rfl); (case d => decide +kernel); (case c2 => exact rfl); (case c3 => exact rfl); (case c4 => exact rfl)))
  dsimp only
  w_strict (k_fold)
  (refine xa_2_3 (CellsAre.two Y) ?_; intro o1 o2 hE d1 d2)
  subst hE
  clear Y
  have d1b : o1.data = .cell (some (.int (nc : Int) tc)) := d1
  have d2b : o2.data = .cell (some (.ref l)) := d2
  clear d1 d2
  w_strict (k_steps)
  rename IsRange _ _ _ _ _ _ _ _ => hr
  rename Fr _ _ _ _ => F1
  rename News _ _ _ _ => N1
  rename IntsAre vs ns => hi
  have c1 := (N1 _ (.head _)).1
  have c2 := (N1 _ (.tail _ (.head _))).1
  dsimp only at c1 c2
  have ro := range_ok (a := 0) (b := (nv : Int)) (n := nv) ⟨by decide, by decide⟩ (by omega) (by omega)
  refine comp_rangeC nv (fun i o => IntListObj o (ballotZ ns nc i)) rfl F1 N1 hr ro.1 ro.2 (by omega) ?_ ?_
  · intro C K i ti s₃ E' oK hlt F3 N3 dK
    have q1 := stays_list F3.keep (stays_list F1.keep hl)
    have X3 := (X.keeps F1.keep)
    have T3 := (T.keeps F1.keep)
    w_strict (k_steps)
    unfold Hold
    rename IsRange _ _ _ _ _ _ _ _ => hr4
    rename Fr _ _ _ _ => F4
    rename News _ _ _ _ => N4
    rename ∀ (b : Addr) (o : Obj), s₃.heap.get? b = some o → _ => k4
    have c3 := (N4 _ (.head _)).1
    have c4 := F4.keep _ _ c1
    have c5 := F4.keep _ _ c2
    dsimp only at c3 c4 c5
    have X4 := X3.keeps F4.keep
    have T4 := T3.keeps F4.keep
    have ro4 := range_ok (a := 0) (b := (nc : Int)) (n := nc) ⟨by decide, by decide⟩ (by omega) (by omega)
    refine comp_range nc (fun c => cellZ ns (2 + 2 * (i : Int)) / 2 ^ c.toNat % 2 == 1) (fun c => c) rfl F4 N4 hr4 ro4.1 ro4.2 (by omega) ?_ ?_ ?_
    · intro C2 c tc2 s₅ m₅ E5 hcm F5 e5
      have N5 := newsNil F5
      have q2 := stays_list k4 q1
      have q3 := stays_list F5.keep q2
      refine wpAny_tests_one ?_
      w_strict (k_steps)
      · rw [Int.fdiv_eq_ediv_of_nonneg _ (pow_nonneg2 _), Int.fmod_eq_emod_of_nonneg _ (by decide)]
        simp only [Int.zero_add, Int.mul_one]
      · exact ⟨_, _, rfl, by assumption⟩
    · intro C c tc s₃ m₃ E' hcm F3 e5
      have N3 := newsNil F3
      w_strict (k_steps)
      all_goals first | exact ⟨_, rfl⟩ | exact keeps_refl _ | exact keeps_tok _ _
    · intro D h₅ tk₅ cw ep F5 N5 nD nn kk iw
      exact ⟨⟨D, _, rfl, (by
        cases q : s₃.heap.get? D with
        | none => rfl
        | some o => have := k4 _ _ q; rw [nn] at this; cases this), (N5 _ (.head _)).1, cw, ep, rfl, by rw [show (fun c : Int => c) = id from rfl, List.map_id] at iw; exact iw⟩, h₅, _, rfl, fun b o e => kk b o (k4 b o e)⟩
  · intro D h' tk' Ts ep F5 N5 hlen hit nT nD kk
    w_strict (k_steps)
    refine hR D ((D, listOf (Ts.map fun p => Value.ref p.1).toArray ep) :: Ts) _ (Done.ofFr (by assumption) rfl) ?_ ?_
    · intro p hp
      rename Fr _ _ _ _ => F6
      refine ⟨?_, (N5 p (by simp only [List.mem_cons, List.mem_append] at hp ⊢; rcases hp with h | h; exact .inl h; exact .inr (.inl h))).1⟩
      cases q : s.heap.get? p.1 with
      | none => rfl
      | some o =>
        have e := F1.keep _ _ q
        rcases List.mem_cons.mp hp with rfl | hp
        · rw [nD] at e; cases e
        · rw [nT p hp] at e; cases e
    · refine ⟨_, ep, .head _, by rw [List.length_map, List.length_map, List.length_range, hlen], fun i b e => ?_⟩
      have hlt : i < nv := by
        have := (List.getElem?_eq_some_iff.mp e).1
        rwa [List.length_map, List.length_range] at this
      have hb : b = ballotZ ns nc i := by
        rw [List.getElem?_map, List.getElem?_range hlt] at e
        exact (Option.some.inj e).symm
      have g : Ts[i]? = some Ts[i] := List.getElem?_eq_getElem (by omega)
      refine ⟨Ts[i].1, Ts[i].2, by rw [List.getElem?_map, g]; rfl, .tail _ (List.getElem_mem _), ?_⟩
      rw [hb]
      exact hit i _ g
end
theorem words24 : True := by
  k_with_none
  (k_with "ite" => (first | (refine ite_pos (by ((try simp only [beq_iff_eq, bne_iff_ne, decide_eq_true_eq, Bool.not_eq_true', decide_eq_false_iff_not, beq_eq_false_iff_ne, ne_eq]); omega)) ?_) | (refine ite_neg (by ((try simp only [beq_iff_eq, bne_iff_ne, decide_eq_true_eq, Bool.not_eq_true', decide_eq_false_iff_not, beq_eq_false_iff_ne, ne_eq]); omega)) ?_)))
  (k_with "binaryOp FloorDiv int int" => ((k_dflt (refine' floordiv_int ?h1_q ?_ (Or.inl (PyProof.noPylong_of_log2 ?h2_q)); (case h1_q => omega); (case h2_q => first | assumption | exact Sz.log (by assumption))))))
  (k_with "binaryOp Mult int int" => ((k_dflt (refine' mul_int ?_ ?hm_q; (case hm_q => exact Sz.ok (by with_reducible assumption) (by with_reducible assumption) (by omega))))))
  (k_with "call ref" => (((with_reducible show wpAny _ _ (call (Value.ref 182) [Value.int _ _, Value.int _ _]) _ _ _); k_dflt (refine' frac_k ?F_q ?N_q ?X_q ?T_q ?A_q ?b_q ?z_q ?k_q ?_; (case F_q => k_asm); (case N_q => k_asm); (case X_q => k_asm); (case T_q => k_asm); (case A_q => exact Room.le (by assumption) (by decide)); (case b_q => first | assumption | omega | (exact Int.mul_pos (by assumption) (by assumption))); (case z_q => first | assumption | exact Sz.mul (by assumption) (by assumption)); (case k_q => omega)); intro _ _ _ _ _ _ _ _ _ _ _ _ _ _ _ _ _ _ _ _ _)))
  (k_with "binaryOp Pow int int" => ((k_dflt (refine' pow_int_small ?h1_q ?h2_q ?h3_q ?_; (case h1_q => omega); (case h2_q => omega); (case h3_q => omega)))))
  (k_with "call ref" => (((with_reducible show wpAny _ _ (call (Value.ref 182) [Value.int _ _]) _ _ _); k_dflt (refine' frac1_k ?F_q ?N_q ?X_q ?T_q ?A_q ?_; (case F_q => k_asm); (case N_q => k_asm); (case X_q => k_asm); (case T_q => k_asm); (case A_q => exact Room.le (by assumption) (by decide))); intro _ _ _ _ _ _ _ _ _ _ _ _ _ _ _)))
  (k_with "eval Name" => ((k_dflt (first | (refine' nmL ?F_q ?e_q ?v_q ?_ ?a_q ?b_q ?d_q; (case F_q => with_reducible assumption); (case e_q => exact rfl); (case v_q => first | with_reducible assumption | ((try dsimp only); first | exact (if_neg (by decide)).trans (by with_reducible assumption) | exact (if_neg (by decide)).trans ((if_neg (by decide)).trans (by with_reducible assumption)) | exact (if_neg (by decide)).trans ((if_neg (by decide)).trans ((if_neg (by decide)).trans (by with_reducible assumption)))) | exact rfl); (case a_q => exact rfl); (case b_q => exact rfl); (case d_q => decide); k_whole) | (refine' nmC ?F_q ?c_q ?o_q ?d_q ?_ ?a_q ?b_q ?g_q; (case F_q => with_reducible assumption); (case a_q => exact rfl); (case b_q => exact rfl); (case c_q => exact rfl); (case o_q => with_reducible assumption); (case d_q => with_reducible assumption); (case g_q => decide); k_whole) | (refine' nameG_K ?F_q ?X_q ?T_q ?e_q ?_ ?g_q ?a_q ?b_q ?d_q; (case F_q => with_reducible assumption); (case X_q => k_asm); (case T_q => k_asm); (case a_q => exact rfl); (case b_q => exact rfl); (case e_q => k_is); (case g_q => exact rfl); (case d_q => decide); k_whole) | (refine' nmB ?F_q ?X_q ?T_q ?e_q ?v_q ?n_q ?_ ?g_q ?h_q ?a_q ?b_q ?d_q; (case F_q => with_reducible assumption); (case X_q => k_asm); (case T_q => k_asm); (case a_q => exact rfl); (case b_q => exact rfl); (case e_q => k_is); (case v_q => boot_fast); (case n_q => decide); (case g_q => exact rfl); (case h_q => exact rfl); (case d_q => decide); k_whole)))))
  (k_with "call ref" => (((with_reducible show wpAny _ _ (call (Value.ref 492) [Value.ref _, Value.int _ _]) _ _ _); k_dflt (refine' liftI ?F_q ?N_q ?X_q ?T_q (cellZ _ _) (fun R hR => cell_code ⟨Frag.In.keeps (by k_asm) (Fr.keep (by k_asm)), _, _, _, _, _, Top.keeps (by k_asm) (Fr.keep (by k_asm))⟩ (Room.le (by assumption) (by decide)) (stays_list (Fr.keep (by with_reducible assumption)) (by with_reducible assumption)) (by with_reducible assumption) (by with_reducible assumption) (by omega) (by omega) hR) ?_; (case F_q => k_asm); (case N_q => k_asm); (case X_q => k_asm); (case T_q => k_asm)); intro _ _ _ _ _ _)))
  (k_with "exec For" => ((with_unfolding_all refine for_at ?_)))
  (k_with "pyIter ref" => (first | (with_reducible refine hold_pyF ?_) | (with_reducible refine hold_pyC ?_)))
  (k_with "call builtin:len" => (((with_reducible show wpAny _ _ (call (Value.builtin "len") [Value.ref _]) _ _ _); k_dflt (refine' len_old ?F_q ?l_q ?f_q ?_; (case F_q => with_reducible assumption); (case l_q => with_reducible assumption); (case f_q => omega)))))
  (k_with "subscriptTail Name Name ref int" => (((with_reducible show wpAny _ _ (subscriptTail _ _ (Value.ref _) (Value.int _ _)) _ _ _); k_dflt (refine' item_at ?l_q ?a_q ?b_q ?x_q ?_ ?s_q; (case l_q => with_reducible assumption); (case x_q => with_reducible assumption); (case a_q => omega); (case b_q => omega); (case s_q => with_unfolding_all rfl)))))
  (k_with "compareOp In int ref" => ((k_dflt (refine' in_list_ints ?l_q ?i_q ?_; (case l_q => with_reducible assumption); (case i_q => with_reducible assumption)))))
  (k_with "call builtin:len" => (((with_reducible show wpAny _ _ (call (Value.builtin "len") [Value.ref _]) _ _ _); k_dflt (refine' len_cur ?l_q ?f_q ?_; (case l_q => with_reducible assumption); (case f_q => omega)))))
  (k_with "exec For Name Call cons nil" => ((with_unfolding_all refine for_at ?_)))
  (k_with "exec For Name Name cons nil" => ((with_unfolding_all refine for_at ?_)))
  (k_with "call ref" => (((with_reducible show wpAny _ _ (call (Value.ref 511) [Value.str (nameAt _) _, Value.int _ _]) _ _ _); k_dflt (refine' liftPair ?F_q ?N_q ?X_q ?T_q (gN (fnAt _) _) (gD (fnAt _) _) (fun R hR => gain_code ⟨Frag.In.keeps (by k_asm) (Fr.keep (by k_asm)), _, _, _, _, _, Top.keeps (by k_asm) (Fr.keep (by k_asm))⟩ (Room.le (by assumption) (by decide)) (by assumption) (by omega) (by omega) hR) ?_; (case F_q => k_asm); (case N_q => k_asm); (case X_q => k_asm); (case T_q => k_asm)); intro _ _ _ _ _ _ _ l9q; replace l9q := allNe_of l9q; simp only [AllNe, and_true] at l9q)))
  (k_with "call ref" => (((with_reducible show wpAny _ _ (call (Value.ref 518) [Value.ref _, Value.ref _]) _ _ _); k_dflt (refine' liftPair ?F_q ?N_q ?X_q ?T_q _ _ (fun R hR => add_code ⟨Frag.In.keeps (by k_asm) (Fr.keep (by k_asm)), _, _, _, _, _, Top.keeps (by k_asm) (Fr.keep (by k_asm))⟩ (Room.le (by assumption) (by decide)) (pairOfNews (by k_asm) (by k_mem)) (pairOfNews (by k_asm) (by k_mem)) (by with_reducible assumption) (by with_reducible assumption) (by with_reducible assumption) (by with_reducible assumption) (by omega) hR) ?_; (case F_q => k_asm); (case N_q => k_asm); (case X_q => k_asm); (case T_q => k_asm)); intro _ _ _ _ _ _ _ l9q; replace l9q := allNe_of l9q; simp only [AllNe, and_true] at l9q)))
  trivial
section
theorem words25 : True := by
  (k_with "eval ListComp Name cons" => ((k_dflt (refine' comp_at _ ?c1_q ?c2_q ?c3_q ?c4_q ?c5_q ?_ ?c6_q; (case c1_q => with_unfolding_all rfl); (case c2_q => decide); (case c3_q => exact rfl); (case c4_q => decide); (case c5_q => exact rfl); (case c6_q => (intro _; exact rfl))))))
  trivial
/-- the ballots: a list of lists of ints -/
noncomputable def BallotsIs (h : Heap) (l : Addr) (bs : List (List Int)) : Prop := ∃ vs : List Value, h.IsList l vs.toArray ∧ vs.length = bs.length ∧ ∀ (i : Nat) (b : List Int), bs[i]? = some b → ∃ T ws, vs[i]? = some (Value.ref T) ∧ h.IsList T ws.toArray ∧ IntsAre ws b
theorem BallotsIs.keep {h h' : Heap} {l : Addr} {bs : List (List Int)} (x : BallotsIs h l bs) (k : ∀ b o, h.get? b = some o → h'.get? b = some o) : BallotsIs h' l bs := by
  (refine xa_1_3 (x) ?_; intro vs h1 h2 h3; (try clear x))
  refine ⟨vs, stays_list k h1, h2, fun i b e => ?_⟩
  (refine xa_2_3 (h3 i b e) ?_; intro T ws e1 e2 e3)
  exact ⟨T, ws, e1, stays_list k e2, e3⟩
noncomputable def addP (p q : Int × Int) : Int × Int := (p.1 * q.2 + q.1 * p.2, p.2 * q.2)
noncomputable def gainP (f : Fn) (w : Int) (place : Int) : Int × Int := (gN f place * w, gD f place)
/-- the places 1 .. n of one voter -/
noncomputable def placesP (f : Fn) (w : Int) (p : Int × Int) : Nat → Int × Int
  | 0 => p
  | n + 1 => addP (placesP f w p n) (gainP f w (n + 1))
noncomputable def cnt (b com : List Int) : Nat := (com.filter fun c => b.contains c).length
/-- the first i voters -/
noncomputable def scoreP (f : Fn) (bs : List (List Int)) (ws com : List Int) : Nat → Int × Int
  | 0 => (0, 1)
  | i + 1 => placesP f (ws.getD i 0) (scoreP f bs ws com i) (cnt (bs.getD i []) com)

theorem headPair {h₀ h : Heap} {L x : Addr} {a b : Int} {t1 t2 : Tok} {rest : List (Addr × Obj)} (N : News h₀ L h ((x, { cls := .type "tuple", data := .seq #[.int a t1, .int b t2] }) :: rest)) :
    ∃ y u1 u2, News h₀ L h ((y, { cls := .type "tuple", data := .seq #[.int a u1, .int b u2] }) :: rest) ∧ y = x := ⟨_, _, _, N, rfl⟩
theorem gN_sz (f : Fn) (i : Int) : Sz 1 (gN f i) := by
  unfold Sz gN
  split <;> (try split) <;> decide
theorem gD_sz {k : Nat} (hk : k < 11) {i : Int} (h1 : 1 ≤ i) (h2 : i ≤ 8) : Sz 40 (gD (fnAt k) i) := by
  have a : ∀ k : Fin 11, ∀ i : Fin 9, (gD (fnAt k.val) (i.val : Int)).natAbs < 2 ^ 40 := by decide +kernel
  have e := a ⟨k, hk⟩ ⟨i.toNat, by omega⟩
  dsimp only at e
  rwa [Int.toNat_of_nonneg (by omega)] at e
theorem w_sz {ws : List Int} (h : ∀ x ∈ ws, 1 ≤ x ∧ x ≤ 1000) (n : Nat) : Sz 10 (ws.getD n 0) := by
  unfold Sz
  rw [List.getD_eq_getElem?_getD]
  rcases e : ws[n]? with _ | x
  · decide
  · have := h x (List.mem_of_getElem? e)
    simp only [Option.getD_some]
    omega

theorem score_code {prog : Program} {w : World} {A : Around} {s : Shared} {R : Result → Shared → Prop} (G : Gnd w s.heap) (hA : Room A 9) {k : Nat} (hk : k < 11) {t : Tok} {lb lw lc : Addr} {bs : List (List Int)} {ws com : List Int} {wv cv : List Value}
    (hb : BallotsIs s.heap lb bs) (hw : s.heap.IsList lw wv.toArray) (hwi : IntsAre wv ws) (hc : s.heap.IsList lc cv.toArray) (hci : IntsAre cv com)
    (hbw : bs.length = ws.length) (hb4 : bs.length ≤ 4) (hc6 : com.length ≤ 6) (hw1 : ∀ x ∈ ws, 1 ≤ x ∧ x ≤ 1000)
    (hR : ∀ v s', Done s s' → NewPair s.heap s'.heap v (scoreP (fnAt k) bs ws com bs.length).1 (scoreP (fnAt k) bs ws com bs.length).2 → R (.ok (.ret v)) s') :
    codeAny (model prog w) A (.call (.ref 523) ⟨[.str (nameAt k) t, .ref lb, .ref lw, .ref lc], []⟩) R s := by
  obtain ⟨X, p, loose, mean, mg, mb, T⟩ := G
  (refine xa_1_3 (hb) ?_; intro bv hbl hbn hbi; (try clear hb))
  w_on
  w_strict (k_dflt (refine' enterC (K := hd.heap_1 w.params) (binds := [(Str.ofString "name", .str (nameAt k) t), (Str.ofString "ballots", .ref lb), (Str.ofString "weights", .ref lw), (Str.ofString "committee", .ref lc)]) X T.nolimit ?o ?c ?b ?l ?d hA (fun L h₁ tk cells F N Y dp un fr gd hA' => ?_) ?c2 ?c3 ?c4; (case o => k_is); (case c => k_is); (case b => first | exact BindsTo.of_eq rfl | exact binds_K X rfl (by k_is) rfl rfl rfl); (case l => exact rfl); (case d => decide +kernel); (case c2 => exact rfl); (case c3 => exact rfl); (case c4 => exact rfl)))
  dsimp only
  w_strict (k_fold)
  (refine xa_2_3 (CellsAre.two Y) ?_; intro o1 o2 hE d1 d2)
  subst hE
  clear Y
  have d1b : o1.data = .cell none := d1
  have d2b : o2.data = .cell (some (.ref lb)) := d2
  clear d1 d2
  w_strict (k_steps)
  unfold Hold
  rename IsRange _ _ _ _ _ _ _ _ => hr
  rename Fr _ _ _ _ => F1
  rename News _ _ _ _ => N1
  refine for_rangeN (fix := []) bs.length rfl F1 N1 hr ⟨by decide, by decide⟩ (by omega) (by omega)
    (fun i m₁ news₁ => E5 fun x t1 t2 oi v => A9 (news₁ = [(x, { cls := .type "tuple", data := .seq #[.int (scoreP (fnAt k) bs ws com i).1 t1, .int (scoreP (fnAt k) bs ws com i).2 t2] }), (L + 1 + 1, oi), (L + 1, o2)]) (oi.data = .cell v) (x ≠ L + 1 + 1) (m₁ (Str.ofString "name") = some (.str (nameAt k) t)) (m₁ (Str.ofString "weights") = some (.ref lw)) (m₁ (Str.ofString "committee") = some (.ref lc)) (m₁ (Str.ofString "worth") = some (.ref x)) (Sz (250 * i + 1) (scoreP (fnAt k) bs ws com i).1) (Sz (250 * i + 1) (scoreP (fnAt k) bs ws com i).2)) ?_ ?_ ?_
  · refine ⟨_, _, _, o1, _, rfl, d1b, ?_, rfl, rfl, rfl, rfl, by unfold Sz; simp only [scoreP]; decide, by unfold Sz; simp only [scoreP]; decide⟩
    exact neN (by omega)
  · clear F1 N1 hr
    rintro i ti m₁ _ h₂ tk₂ I oI hi hJ99 F1 N1 hn
    refine Classical.byContradiction fun hg9 => ?_
    obtain ⟨x, t1, t2, oi, v, r95, di, nx, e1, e2, e3, e4, z1, z2⟩ := hJ99
    subst r95
    refine hg9 ?_
    clear hg9
    have n2 : I ≠ x := fun q => hn _ (.head _) q.symm
    have n3 : I ≠ L + 1 + 1 := fun q => hn _ (.tail _ (.head _)) q.symm
    have n1 : I ≠ L + 1 := fun q => hn _ (.tail _ (.tail _ (.head _))) q.symm
    replace N1 : News s.heap L h₂ [(I, oI), (x, { cls := .type "tuple", data := .seq #[.int (scoreP (fnAt k) bs ws com i).1 t1, .int (scoreP (fnAt k) bs ws com i).2 t2] }), (L + 1 + 1, oi), (L + 1, o2)] := N1
    clear hn
    w_strict (k_steps)
    unfold Hold
    rename Fr _ _ _ _ => F2
    rename News _ _ _ _ => N2
    rename Obj.data _ = Data.cell (some (Value.int _ _)) => d3
    rename Obj => o'
    obtain ⟨b, hbe⟩ : ∃ b, bs[i]? = some b := ⟨_, List.getElem?_eq_getElem hi⟩
    (refine xa_2_3 (hbi i b hbe) ?_; intro T' bw hb1 hb2 hb3)
    have c1 := (N2 _ (.tail _ (.tail _ (.head _)))).1
    have c2 := (N2 _ (.tail _ (.tail _ (.tail _ (.head _))))).1
    dsimp only at c1 c2
    rename IntsAre cv com => hci
    refine comp_list (ns := com) (pz := fun c => b.contains c) (fz := fun c => c) rfl F2 N2 (stays_list F2.keep hc) hci (by omega) ?_ ?_ ?_
    · intro C c tc s₃ m₃ E' hcm F3 e5
      have N3 := newsNil F3
      have q1 := stays_list F3.keep (stays_list F2.keep hbl)
      have q2 := stays_list F3.keep (stays_list F2.keep hb2)
      have q3 : bv[((0 : Int) + (i : Nat)).toNat]? = some (.ref T') := by simpa using hb1
      have X3 := X.keeps F2.keep
      have T3 := T.keeps F2.keep
      refine wpAny_tests_one ?_
      w_strict (k_steps)
      · exact any_contains b c
      · first | exact keeps_refl _ | exact keeps_tok _ _
    · intro C c tc s₃ m₃ E' hcm F3 e5
      have N3 := newsNil F3
      w_strict (k_steps)
      all_goals first | exact ⟨_, rfl⟩ | exact keeps_refl _ | exact keeps_tok _ _
    · intro D h₃ tk₃ cw ep F3 N3 nD nn kk iw
      have ex := allNe_of nD
      simp only [AllNe, and_true] at ex
      have q4 : h₃.IsList D cw.toArray := ⟨_, (N3 _ (.head _)).1, rfl, _, rfl⟩
      have q5 : cw.length = cnt b com := by have := iw.length; simpa [cnt] using this
      have q6 : cnt b com ≤ com.length := List.length_filter_le _ _
      w_strict (k_steps)
      unfold Hold
      rename IsRange _ _ _ _ _ _ _ _ => hr
      rename Fr _ _ _ _ => F4
      rename News _ _ _ _ => N4
      have N5 : News s.heap L _ [(x, { cls := .type "tuple", data := .seq #[.int (scoreP (fnAt k) bs ws com i).1 t1, .int (scoreP (fnAt k) bs ws com i).2 t2] }), (I, oI), (L + 1 + 1, o'), (L + 1, o2)] := newsSub N4 (by first | ((try dsimp only [List.cons_append, List.nil_append]); (repeat (refine List.forall_mem_cons.mpr ⟨(by k_mem), ?_⟩)); first | exact List.forall_mem_nil _ | (intro p9 h9; (repeat (first | exact h9 | (refine List.Mem.tail _ ?_))); done)) | ((first | (((try dsimp only [List.cons_append, List.nil_append]); repeat' (first | exact List.forall_mem_nil _ | (refine fmc (by (first | k_mem | ((repeat (first | (with_reducible exact List.Mem.head _) | exact List.mem_append_left _ (by with_reducible assumption) | exact List.mem_append_left _ (List.Mem.head _) | (with_reducible assumption) | (refine List.Mem.tail _ ?_) | (refine List.mem_append_right _ ?_))); done))) ?_) | (refine fma ?_ ?_) | (intro p9 h9; ((repeat (first | exact h9 | exact List.mem_append_left _ h9 | exact List.mem_append_left _ (List.mem_append_left _ h9) | (refine List.Mem.tail _ ?_) | (refine List.mem_append_right _ ?_))); done)))); done) | (intro p9 h9; simp only [List.mem_append, List.mem_cons, List.not_mem_nil, or_false, List.cons_append, List.nil_append] at h9 ⊢; grind))))
      clear N4
      refine for_rangeN (fix := []) (cnt b com) rfl F4 N5 hr ⟨by decide, by decide⟩ (by omega) (by omega)
        (fun j m₁ news₁ => E3 fun x t1 t2 => A9 (news₁ = [(x, { cls := .type "tuple", data := .seq #[.int (placesP (fnAt k) (ws.getD i 0) (scoreP (fnAt k) bs ws com i) j).1 t1, .int (placesP (fnAt k) (ws.getD i 0) (scoreP (fnAt k) bs ws com i) j).2 t2] }), (I, oI), (L + 1 + 1, o'), (L + 1, o2)]) (x ≠ L + 1 + 1) (x ≠ I) (m₁ (Str.ofString "name") = some (.str (nameAt k) t)) (m₁ (Str.ofString "weights") = some (.ref lw)) (m₁ (Str.ofString "committee") = some (.ref lc)) (m₁ (Str.ofString "worth") = some (.ref x)) (Sz (250 * i + 1 + 41 * j) (placesP (fnAt k) (ws.getD i 0) (scoreP (fnAt k) bs ws com i) j).1) (Sz (250 * i + 1 + 41 * j) (placesP (fnAt k) (ws.getD i 0) (scoreP (fnAt k) bs ws com i) j).2)) ?_ ?_ ?_
      · exact ⟨x, t1, t2, rfl, nx, Ne.symm n2, e1, e2, e3, e4, z1, z2⟩
      · clear F4 N5 hr
        rintro j tj m₂ _ h₅ tk₅ I₂ oI₂ hj hJ99 F4 N4 hn
        refine Classical.byContradiction fun hg9 => ?_
        obtain ⟨y, u1, u2, r93, ny, nyI, e1, e2, e3, e4, z1, z2⟩ := hJ99
        subst r93
        refine hg9 ?_
        clear hg9
        have n4 : I₂ ≠ y := fun q => hn _ (.head _) q.symm
        have n5 : I₂ ≠ I := fun q => hn _ (.tail _ (.head _)) q.symm
        have n6 : I₂ ≠ L + 1 + 1 := fun q => hn _ (.tail _ (.tail _ (.head _))) q.symm
        have n7 : I₂ ≠ L + 1 := fun q => hn _ (.tail _ (.tail _ (.tail _ (.head _)))) q.symm
        replace N4 : News s.heap L h₅ [(I₂, oI₂), (y, { cls := .type "tuple", data := .seq #[.int (placesP (fnAt k) (ws.getD i 0) (scoreP (fnAt k) bs ws com i) j).1 u1, .int (placesP (fnAt k) (ws.getD i 0) (scoreP (fnAt k) bs ws com i) j).2 u2] }), (I, oI), (L + 1 + 1, o'), (L + 1, o2)] := N4
        clear hn
        have y1 : Sz 1 (gN (fnAt k) (1 + (j : Int))) := gN_sz _ _
        have y2 : Sz 40 (gD (fnAt k) (1 + (j : Int))) := gD_sz hk (by omega) (by omega)
        have y3 : Sz 10 (ws.getD ((0 : Int) + (i : Int)).toNat 0) := w_sz hw1 _
        have y4 : Sz 40 (gN (fnAt k) (1 + (j : Int)) * ws.getD ((0 : Int) + (i : Int)).toNat 0) := (y1.mul y3).mono (by decide)
        w_strict (k_steps)
        have ei : ((0 : Int) + (i : Nat)).toNat = i := by omega
        have ej : (1 : Int) + (j : Nat) = (j : Int) + 1 := by omega
        simp only [ei, ej] at *
        rename Fr _ _ _ _ => F6
        rename News _ _ _ _ => N6
        rename _ ∧ _ ∧ _ ∧ _ ∧ _ ∧ _ ∧ _ => l6
        (refine an_7 (l6) ?_; intro l60 l61 l62 l63 l64 l65 l66; (try clear l6))
        refine Classical.byContradiction fun hg9 => ?_
        (refine xa_3_2 (headPair N6) ?_; intro y6 u61 u62 N7 r94)
        subst r94
        refine hg9 ?_
        clear hg9
        clear N6
        refine ⟨rfl, _, _, _, [(y6, { cls := .type "tuple", data := .seq #[.int (placesP (fnAt k) (ws.getD i 0) (scoreP (fnAt k) bs ws com i) (j + 1)).1 u61, .int (placesP (fnAt k) (ws.getD i 0) (scoreP (fnAt k) bs ws com i) (j + 1)).2 u62] }), (I, oI), (L + 1 + 1, o'), (L + 1, o2)], rfl, F6, newsSub N7 ?sub, ?ne, _, _, _, rfl, Ne.symm l65, Ne.symm l64, ?m1, ?m2, ?m3, rfl, ?z1, ?z2⟩
        case sub => ((first | (((try dsimp only [List.cons_append, List.nil_append]); repeat' (first | exact List.forall_mem_nil _ | (refine fmc (by (first | k_mem | ((repeat (first | (with_reducible exact List.Mem.head _) | exact List.mem_append_left _ (by with_reducible assumption) | exact List.mem_append_left _ (List.Mem.head _) | (with_reducible assumption) | (refine List.Mem.tail _ ?_) | (refine List.mem_append_right _ ?_))); done))) ?_) | (refine fma ?_ ?_) | (intro p9 h9; ((repeat (first | exact h9 | exact List.mem_append_left _ h9 | exact List.mem_append_left _ (List.mem_append_left _ h9) | (refine List.Mem.tail _ ?_) | (refine List.mem_append_right _ ?_))); done)))); done) | (intro p9 h9; simp only [List.mem_append, List.mem_cons, List.not_mem_nil, or_false, List.cons_append, List.nil_append, placesP, addP, gainP] at h9 ⊢; grind)))
        case ne =>
          simp only [List.mem_cons, List.not_mem_nil, or_false]
          rintro p (rfl | rfl | rfl | rfl)
          · exact Ne.symm l62
          · exact Ne.symm n5
          · exact Ne.symm n6
          · exact Ne.symm n7
        case m1 => exact e1
        case m2 => exact e2
        case m3 => exact e3
        case z1 => exact Sz.mono ((z1.mul y2).add (y4.mul z2)) (by omega)
        case z2 => exact Sz.mono (z2.mul y2) (by omega)
      · clear F4 N5 hr
        rintro m₂ _ h₅ tk₅ hJ94 F5 N5
        refine Classical.byContradiction fun hg9 => ?_
        obtain ⟨y, u1, u2, r93, ny, nyI, e1, e2, e3, e4, z1, z2⟩ := hJ94
        subst r93
        refine hg9 ?_
        clear hg9
        w_strict (k_steps)
        have eb : scoreP (fnAt k) bs ws com (i + 1) = placesP (fnAt k) (ws.getD i 0) (scoreP (fnAt k) bs ws com i) (cnt b com) := by
          have q : bs.getD i [] = b := by rw [List.getD_eq_getElem?_getD, hbe]; rfl
          rw [← q]; rfl
        rw [← eb] at N5 z1 z2
        refine ⟨rfl, _, _, _, [(y, { cls := .type "tuple", data := .seq #[.int (scoreP (fnAt k) bs ws com (i + 1)).1 u1, .int (scoreP (fnAt k) bs ws com (i + 1)).2 u2] }), (L + 1 + 1, o'), (L + 1, o2)], rfl, F5, newsSub N5 ?sub, ?ne, _, _, _, o', _, rfl, d3, ny, e1, e2, e3, e4, Sz.mono z1 (by omega), Sz.mono z2 (by omega)⟩
        case sub => (first | ((try dsimp only [List.cons_append, List.nil_append]); (repeat (refine List.forall_mem_cons.mpr ⟨(by k_mem), ?_⟩)); first | exact List.forall_mem_nil _ | (intro p9 h9; (repeat (first | exact h9 | (refine List.Mem.tail _ ?_))); done)) | ((first | (((try dsimp only [List.cons_append, List.nil_append]); repeat' (first | exact List.forall_mem_nil _ | (refine fmc (by (first | k_mem | ((repeat (first | (with_reducible exact List.Mem.head _) | exact List.mem_append_left _ (by with_reducible assumption) | exact List.mem_append_left _ (List.Mem.head _) | (with_reducible assumption) | (refine List.Mem.tail _ ?_) | (refine List.mem_append_right _ ?_))); done))) ?_) | (refine fma ?_ ?_) | (intro p9 h9; ((repeat (first | exact h9 | exact List.mem_append_left _ h9 | exact List.mem_append_left _ (List.mem_append_left _ h9) | (refine List.Mem.tail _ ?_) | (refine List.mem_append_right _ ?_))); done)))); done) | (intro p9 h9; simp only [List.mem_append, List.mem_cons, List.not_mem_nil, or_false, List.cons_append, List.nil_append] at h9 ⊢; grind))))
        case ne =>
          simp only [List.mem_cons, List.not_mem_nil, or_false]
          rintro p (rfl | rfl | rfl)
          · exact nyI
          · exact Ne.symm n3
          · exact Ne.symm n1
  · clear F1 N1 hr
    rintro m₁ _ h₂ tk₂ hJ94 F1 N1
    refine Classical.byContradiction fun hg9 => ?_
    obtain ⟨x, t1, t2, oi, v, r95, di, nx, e1, e2, e3, e4, z1, z2⟩ := hJ94
    subst r95
    refine hg9 ?_
    clear hg9
    w_strict (k_steps)
    exact hR _ _ (Done.ofFr (by assumption) rfl) ⟨_, _, _, rfl, (N1 _ (.head _)).2.2, (N1 _ (.head _)).1⟩
end
section
theorem words26 : True := by
  k_with_none
  (k_with "ite" => (first | (refine ite_pos (by ((try simp only [beq_iff_eq, bne_iff_ne, decide_eq_true_eq, Bool.not_eq_true', decide_eq_false_iff_not, beq_eq_false_iff_ne, ne_eq]); omega)) ?_) | (refine ite_neg (by ((try simp only [beq_iff_eq, bne_iff_ne, decide_eq_true_eq, Bool.not_eq_true', decide_eq_false_iff_not, beq_eq_false_iff_ne, ne_eq]); omega)) ?_)))
  (k_with "binaryOp FloorDiv int int" => ((k_dflt (refine' floordiv_int ?h1_q ?_ (Or.inl (PyProof.noPylong_of_log2 ?h2_q)); (case h1_q => omega); (case h2_q => first | assumption | exact Sz.log (by assumption))))))
  (k_with "binaryOp Mult int int" => ((k_dflt (refine' mul_int ?_ ?hm_q; (case hm_q => exact Sz.ok (by with_reducible assumption) (by with_reducible assumption) (by omega))))))
  (k_with "call ref" => (((with_reducible show wpAny _ _ (call (Value.ref 182) [Value.int _ _, Value.int _ _]) _ _ _); k_dflt (refine' frac_k ?F_q ?N_q ?X_q ?T_q ?A_q ?b_q ?z_q ?k_q ?_; (case F_q => k_asm); (case N_q => k_asm); (case X_q => k_asm); (case T_q => k_asm); (case A_q => exact Room.le (by assumption) (by decide)); (case b_q => first | assumption | omega | (exact Int.mul_pos (by assumption) (by assumption))); (case z_q => first | assumption | exact Sz.mul (by assumption) (by assumption)); (case k_q => omega)); intro _ _ _ _ _ _ _ _ _ _ _ _ _ _ _ _ _ _ _ _ _)))
  (k_with "binaryOp Pow int int" => ((k_dflt (refine' pow_int_small ?h1_q ?h2_q ?h3_q ?_; (case h1_q => omega); (case h2_q => omega); (case h3_q => omega)))))
  (k_with "call ref" => (((with_reducible show wpAny _ _ (call (Value.ref 182) [Value.int _ _]) _ _ _); k_dflt (refine' frac1_k ?F_q ?N_q ?X_q ?T_q ?A_q ?_; (case F_q => k_asm); (case N_q => k_asm); (case X_q => k_asm); (case T_q => k_asm); (case A_q => exact Room.le (by assumption) (by decide))); intro _ _ _ _ _ _ _ _ _ _ _ _ _ _ _)))
  (k_with "eval Name" => ((k_dflt (first | (refine' nmL ?F_q ?e_q ?v_q ?_ ?a_q ?b_q ?d_q; (case F_q => with_reducible assumption); (case e_q => exact rfl); (case v_q => first | with_reducible assumption | ((try dsimp only); first | exact (if_neg (by decide)).trans (by with_reducible assumption) | exact (if_neg (by decide)).trans ((if_neg (by decide)).trans (by with_reducible assumption)) | exact (if_neg (by decide)).trans ((if_neg (by decide)).trans ((if_neg (by decide)).trans (by with_reducible assumption)))) | exact rfl); (case a_q => exact rfl); (case b_q => exact rfl); (case d_q => decide); k_whole) | (refine' nmC ?F_q ?c_q ?o_q ?d_q ?_ ?a_q ?b_q ?g_q; (case F_q => with_reducible assumption); (case a_q => exact rfl); (case b_q => exact rfl); (case c_q => exact rfl); (case o_q => with_reducible assumption); (case d_q => with_reducible assumption); (case g_q => decide); k_whole) | (refine' nameG_K ?F_q ?X_q ?T_q ?e_q ?_ ?g_q ?a_q ?b_q ?d_q; (case F_q => with_reducible assumption); (case X_q => k_asm); (case T_q => k_asm); (case a_q => exact rfl); (case b_q => exact rfl); (case e_q => k_is); (case g_q => exact rfl); (case d_q => decide); k_whole) | (refine' nmB ?F_q ?X_q ?T_q ?e_q ?v_q ?n_q ?_ ?g_q ?h_q ?a_q ?b_q ?d_q; (case F_q => with_reducible assumption); (case X_q => k_asm); (case T_q => k_asm); (case a_q => exact rfl); (case b_q => exact rfl); (case e_q => k_is); (case v_q => boot_fast); (case n_q => decide); (case g_q => exact rfl); (case h_q => exact rfl); (case d_q => decide); k_whole)))))
  (k_with "call ref" => (((with_reducible show wpAny _ _ (call (Value.ref 492) [Value.ref _, Value.int _ _]) _ _ _); k_dflt (refine' liftI ?F_q ?N_q ?X_q ?T_q (cellZ _ _) (fun R hR => cell_code ⟨Frag.In.keeps (by k_asm) (Fr.keep (by k_asm)), _, _, _, _, _, Top.keeps (by k_asm) (Fr.keep (by k_asm))⟩ (Room.le (by assumption) (by decide)) (stays_list (Fr.keep (by with_reducible assumption)) (by with_reducible assumption)) (by with_reducible assumption) (by with_reducible assumption) (by omega) (by omega) hR) ?_; (case F_q => k_asm); (case N_q => k_asm); (case X_q => k_asm); (case T_q => k_asm)); intro _ _ _ _ _ _)))
  (k_with "exec For" => ((with_unfolding_all refine for_at ?_)))
  (k_with "pyIter ref" => (first | (with_reducible refine hold_pyF ?_) | (with_reducible refine hold_pyC ?_)))
  (k_with "call builtin:len" => (((with_reducible show wpAny _ _ (call (Value.builtin "len") [Value.ref _]) _ _ _); k_dflt (refine' len_old ?F_q ?l_q ?f_q ?_; (case F_q => with_reducible assumption); (case l_q => with_reducible assumption); (case f_q => omega)))))
  (k_with "subscriptTail Name Name ref int" => (((with_reducible show wpAny _ _ (subscriptTail _ _ (Value.ref _) (Value.int _ _)) _ _ _); k_dflt (refine' item_at ?l_q ?a_q ?b_q ?x_q ?_ ?s_q; (case l_q => with_reducible assumption); (case x_q => with_reducible assumption); (case a_q => omega); (case b_q => omega); (case s_q => with_unfolding_all rfl)))))
  (k_with "compareOp In int ref" => ((k_dflt (refine' in_list_ints ?l_q ?i_q ?_; (case l_q => with_reducible assumption); (case i_q => with_reducible assumption)))))
  (k_with "call builtin:len" => (((with_reducible show wpAny _ _ (call (Value.builtin "len") [Value.ref _]) _ _ _); k_dflt (refine' len_cur ?l_q ?f_q ?_; (case l_q => with_reducible assumption); (case f_q => omega)))))
  (k_with "exec For Name Call cons nil" => ((with_unfolding_all refine for_at ?_)))
  (k_with "exec For Name Name cons nil" => ((with_unfolding_all refine for_at ?_)))
  (k_with "call ref" => (((with_reducible show wpAny _ _ (call (Value.ref 511) [Value.str (nameAt _) _, Value.int _ _]) _ _ _); k_dflt (refine' liftPair ?F_q ?N_q ?X_q ?T_q (gN (fnAt _) _) (gD (fnAt _) _) (fun R hR => gain_code ⟨Frag.In.keeps (by k_asm) (Fr.keep (by k_asm)), _, _, _, _, _, Top.keeps (by k_asm) (Fr.keep (by k_asm))⟩ (Room.le (by assumption) (by decide)) (by assumption) (by omega) (by omega) hR) ?_; (case F_q => k_asm); (case N_q => k_asm); (case X_q => k_asm); (case T_q => k_asm)); intro _ _ _ _ _ _ _ l9q; replace l9q := allNe_of l9q; simp only [AllNe, and_true] at l9q)))
  (k_with "call ref" => (((with_reducible show wpAny _ _ (call (Value.ref 518) [Value.ref _, Value.ref _]) _ _ _); k_dflt (refine' liftPair ?F_q ?N_q ?X_q ?T_q _ _ (fun R hR => add_code ⟨Frag.In.keeps (by k_asm) (Fr.keep (by k_asm)), _, _, _, _, _, Top.keeps (by k_asm) (Fr.keep (by k_asm))⟩ (Room.le (by assumption) (by decide)) (pairOfNews (by k_asm) (by k_mem)) (pairOfNews (by k_asm) (by k_mem)) (by with_reducible assumption) (by with_reducible assumption) (by with_reducible assumption) (by with_reducible assumption) (by omega) hR) ?_; (case F_q => k_asm); (case N_q => k_asm); (case X_q => k_asm); (case T_q => k_asm)); intro _ _ _ _ _ _ _ l9q; replace l9q := allNe_of l9q; simp only [AllNe, and_true] at l9q)))
  (k_with "call ref" => (((with_reducible show wpAny _ _ (call (Value.ref _) [Value.int _ _]) _ _ _); k_dflt (refine' liftF ?F_q ?N_q ?X_q ?T_q (FnP _ _) (fun R hR => fn_call ⟨Frag.In.keeps (by k_asm) (Fr.keep (by k_asm)), _, _, _, _, _, Top.keeps (by k_asm) (Fr.keep (by k_asm))⟩ (Room.le (by assumption) (by decide)) (IsFn.keep (by with_reducible assumption) (Fr.keep (by with_reducible assumption))) (by omega) (by omega) hR) ?_; (case F_q => k_asm); (case N_q => k_asm); (case X_q => k_asm); (case T_q => k_asm)); intro _ _ _ _ _ _ _ _ _ _ _ _ _ _ _ _ _ P9q; obtain ⟨P19, P29, P39, P49⟩ := P9q; replace P39 := Sz.mono P39 (show 1 ≤ 40 by decide))))
  (k_with "loadName" => ((k_dflt (refine' lnL ?F_q ?e_q ?v_q ?_ ?a_q ?b_q; (case F_q => with_reducible assumption); (case e_q => exact rfl); (case v_q => first | with_reducible assumption | ((try dsimp only); first | exact (if_neg (by decide)).trans (by with_reducible assumption) | exact (if_neg (by decide)).trans ((if_neg (by decide)).trans (by with_reducible assumption)) | exact (if_neg (by decide)).trans ((if_neg (by decide)).trans ((if_neg (by decide)).trans (by with_reducible assumption)))) | exact rfl); (case a_q => exact rfl); (case b_q => exact rfl); k_whole))))
  (k_with "call ref nil" => (((with_reducible show wpAny _ _ (call (Value.ref _) ([] ++ _)) _ _ _); dsimp only [List.nil_append])))
  (k_with "inplaceOp Add ref" => (((with_reducible show wpAny _ _ (inplaceOp _ (Value.ref _) (Value.ref _)) _ _ _); k_dflt (refine' inplace_K ?k1_q ?k2_q ?k3_q ?k4_q ?k5_q ?k8_q ?k11_q ?k9_q ?k10_q ?k6_q ?k7_q ?_; (case k1_q => k_asm); (case k2_q => k_asm); (case k3_q => k_inst); (case k4_q => k_typeOf); (case k5_q => k_is); (case k8_q => k_is); (case k11_q => exact rfl); (case k9_q => k_is); (case k10_q => k_is); (case k6_q => k_is); (case k7_q => k_is); k_whole))))
  (k_with "call ref" => (((with_reducible show wpAny _ _ (call (Value.ref 95) [Value.ref _, Value.ref _]) _ _ _); k_dflt (refine' frac_add_k ?F_q ?N_q ?X_q ?T_q ?A_q ?v_q ?u_q ?d1_q ?d2_q ?z1_q ?z2_q ?z3_q ?z4_q ?z5_q ?_; (case F_q => k_asm); (case N_q => k_asm); (case X_q => k_asm); (case T_q => k_asm); (case A_q => exact Room.le (by assumption) (by decide)); (case v_q => exact fracOfNews (by k_asm) (by k_mem) (by k_mem)); (case u_q => exact fracOfNews (by k_asm) (by k_mem) (by k_mem)); (case d1_q => with_reducible assumption); (case d2_q => with_reducible assumption); (case z1_q => with_reducible assumption); (case z2_q => with_reducible assumption); (case z3_q => with_reducible assumption); (case z4_q => with_reducible assumption); (case z5_q => omega)); intro _ _ _ _ _ _ _ _ _ _ _ _ _ _ _ _ _ _ _ _ _)))
  (k_with "CmpBack ref" => (with_reducible refine cmpBack_ref ?_))
  trivial
section
noncomputable def cumP (f : Fn) : Nat → Int × Int
  | 0 => (0, 1)
  | i + 1 => addP (cumP f i) (gN f (i + 1), gD f (i + 1))
theorem cum_code {prog : Program} {w : World} {A : Around} {s : Shared} {R : Result → Shared → Prop} (G : Gnd w s.heap) (hA : Room A 12) {g : Addr} {f : Fn} (hf : IsFn s.heap (.ref g) f) {n : Nat} {tn : Tok} (hn : n ≤ 6)
    (hR : ∀ v s' a b, Done s s' → NewFrac s.heap s'.heap v a b → 0 < b → a * (cumP f n).2 = (cumP f n).1 * b → Sz 300 a → Sz 300 b → R (.ok (.ret v)) s') :
    codeAny (model prog w) A (.call (.ref 308) ⟨[.ref g, .int (n : Int) tn], []⟩) R s := by
  obtain ⟨X, p, loose, mean, mg, mb, T⟩ := G
  (refine xa_8_4 (id hf) ?_; intro _ dg hs1g hs2g tg1 tg2 tg3 pv hge hg1 hg2 hg3)
  cases hge
  w_on
  w_strict (k_dflt (refine' enter (K := hd.heap_1 w.params) (binds := [(Str.ofString "marginal_scorefct", .ref g), (Str.ofString "cand_in_com", .int (n : Int) tn)]) X T.nolimit ?o ?c ?b ?l hA (fun L h₁ F N dp un fr gd hA' => ?_) ?c2 ?c3 ?c4 ?c5; (case o => k_is); (case c => k_is); (case b => first | exact BindsTo.of_eq rfl | exact binds_K X rfl (by k_is) rfl rfl rfl); (case l => exact locs rfl); (case c2 => exact rfl); (case c3 => exact rfl); (case c4 => exact rfl); (case c5 => decide)))
  dsimp only
  w_strict (k_fold)
  w_strict (k_steps)
  unfold Hold
  rename IsRange _ _ _ _ _ _ _ _ => hr
  rename Fr _ _ _ _ => F1
  rename News _ _ _ _ => N1
  refine for_rangeN (fix := []) n rfl F1 N1 hr ⟨by decide, by decide⟩ (by omega) (by omega)
    (fun i m₁ news₁ => E10 fun x dx hs1 hs2 a b t1 t2 t3 t4 => A9 (news₁ = [(x, instObj 182 dx), (dx, fracD hs1 hs2 a b t1 t2 t3 t4)]) (@LT.lt Nat _ L dx) (@LT.lt Nat _ dx x) (m₁ (Str.ofString "marginal_scorefct") = some (.ref g)) (m₁ (Str.ofString "score") = some (.ref x)) (0 < b) (a * (cumP f i).2 = (cumP f i).1 * b) (Sz (41 * i + 1) a) (Sz (41 * i + 1) b)) ?_ ?_ ?_
  · exact ⟨_, _, _, _, _, _, _, _, _, _, rfl, by assumption, by assumption, rfl, rfl, by decide, by simp [cumP], by unfold Sz; decide, by unfold Sz; decide⟩
  · clear F1 N1 hr
    rintro i ti m₁ _ h₂ tk₂ I oI hlt hJ99 F1 N1 hn
    refine Classical.byContradiction fun hg9 => ?_
    obtain ⟨x, dx, hs1, hs2, a, b, t1, t2, t3, t4, r910, o1, o2, e1, e2, hb, hab, za, zb⟩ := hJ99
    subst r910
    refine hg9 ?_
    clear hg9
    have n1 : I ≠ x := fun q => hn _ (.head _) q.symm
    have n2 : I ≠ dx := fun q => hn _ (.tail _ (.head _)) q.symm
    replace N1 : News s.heap L h₂ [(I, oI), (x, instObj 182 dx), (dx, fracD hs1 hs2 a b t1 t2 t3 t4)] := N1
    clear hn
    w_strict (k_steps)
    have ei : (0 : Int) + (i : Nat) + 1 = (i : Int) + 1 := by omega
    simp only [ei] at *
    rename Fr _ _ _ _ => F6
    rename News _ _ _ _ => N6
    rename _ * (_ * _) = _ => he
    rename _ * gD _ _ = _ => he2
    refine Classical.byContradiction fun hg9 => ?_
    (refine xa_10_5 (headFrac N6) ?_; intro y dy ks1 ks2 c d u1 u2 u3 u4 N7 r911 r912 r913 r914)
    subst r911
    subst r912
    subst r913
    subst r914
    refine hg9 ?_
    clear hg9
    refine ⟨rfl, _, _, _, [(y, instObj 182 dy), (dy, fracD ks1 ks2 c d u1 u2 u3 u4)], rfl, F6, newsSub N7 ?sub, ?ne, _, _, _, _, _, _, _, _, _, _, rfl, by assumption, by assumption, e1, rfl, by assumption, frac_add_eq hb (by assumption) he hab he2, Sz.mono (k := 41 * (i + 1) + 1) (by assumption) (by omega), Sz.mono (k := 41 * (i + 1) + 1) (by assumption) (by omega)⟩
    case sub => (first | ((try dsimp only [List.cons_append, List.nil_append]); (repeat (refine List.forall_mem_cons.mpr ⟨(by k_mem), ?_⟩)); first | exact List.forall_mem_nil _ | (intro p9 h9; (repeat (first | exact h9 | (refine List.Mem.tail _ ?_))); done)) | ((first | (((try dsimp only [List.cons_append, List.nil_append]); repeat' (first | exact List.forall_mem_nil _ | (refine fmc (by (first | k_mem | ((repeat (first | (with_reducible exact List.Mem.head _) | exact List.mem_append_left _ (by with_reducible assumption) | exact List.mem_append_left _ (List.Mem.head _) | (with_reducible assumption) | (refine List.Mem.tail _ ?_) | (refine List.mem_append_right _ ?_))); done))) ?_) | (refine fma ?_ ?_) | (intro p9 h9; ((repeat (first | exact h9 | exact List.mem_append_left _ h9 | exact List.mem_append_left _ (List.mem_append_left _ h9) | (refine List.Mem.tail _ ?_) | (refine List.mem_append_right _ ?_))); done)))); done) | (intro p9 h9; simp only [List.mem_append, List.mem_cons, List.not_mem_nil, or_false, List.cons_append, List.nil_append] at h9 ⊢; grind))))
    case ne =>
      simp only [List.mem_cons, List.not_mem_nil, or_false]
      have q : ∀ l : List (Addr × Obj), (∀ p ∈ l, @LT.lt Nat _ p.1 dy) → (I, oI) ∈ l → dy ≠ I := fun l b a => Nat.ne_of_gt (b _ a)
      have q2 : ∀ l : List (Addr × Obj), (∀ p ∈ l, @LT.lt Nat _ p.1 dy) → (I, oI) ∈ l → @LT.lt Nat _ dy y → y ≠ I := fun l b a c => Nat.ne_of_gt (Nat.lt_trans (b _ a) c)
      rintro p (rfl | rfl)
      · exact q2 _ (by assumption) (by k_mem) (by assumption)
      · exact q _ (by assumption) (by k_mem)
  · rintro m₁ _ h₂ tk₂ hJ94 F1 N1
    refine Classical.byContradiction fun hg9 => ?_
    obtain ⟨x, dx, hs1, hs2, a, b, t1, t2, t3, t4, r910, o1, o2, e1, e2, hb, hab, za, zb⟩ := hJ94
    subst r910
    refine hg9 ?_
    clear hg9
    w_strict (k_steps)
    exact hR _ _ a b (Done.ofFr (by assumption) rfl) ⟨_, _, _, _, _, _, _, _, rfl, Nat.le_of_lt (Nat.lt_of_le_of_lt F1.above o1), o2, (N1 _ (.head _)).1, (N1 _ (.tail _ (.head _))).1⟩ hb hab (Sz.mono za (by omega)) (Sz.mono zb (by omega))
end
end
section
theorem words27 : True := by
  k_with_none
  (k_with "ite" => (first | (refine ite_pos (by ((try simp only [beq_iff_eq, bne_iff_ne, decide_eq_true_eq, Bool.not_eq_true', decide_eq_false_iff_not, beq_eq_false_iff_ne, ne_eq]); omega)) ?_) | (refine ite_neg (by ((try simp only [beq_iff_eq, bne_iff_ne, decide_eq_true_eq, Bool.not_eq_true', decide_eq_false_iff_not, beq_eq_false_iff_ne, ne_eq]); omega)) ?_)))
  (k_with "binaryOp FloorDiv int int" => ((k_dflt (refine' floordiv_int ?h1_q ?_ (Or.inl (PyProof.noPylong_of_log2 ?h2_q)); (case h1_q => omega); (case h2_q => first | assumption | exact Sz.log (by assumption))))))
  (k_with "binaryOp Mult int int" => ((k_dflt (refine' mul_int ?_ ?hm_q; (case hm_q => exact Sz.ok (by with_reducible assumption) (by with_reducible assumption) (by omega))))))
  (k_with "call ref" => (((with_reducible show wpAny _ _ (call (Value.ref 182) [Value.int _ _, Value.int _ _]) _ _ _); k_dflt (refine' frac_k ?F_q ?N_q ?X_q ?T_q ?A_q ?b_q ?z_q ?k_q ?_; (case F_q => k_asm); (case N_q => k_asm); (case X_q => k_asm); (case T_q => k_asm); (case A_q => exact Room.le (by assumption) (by decide)); (case b_q => first | assumption | omega | (exact Int.mul_pos (by assumption) (by assumption))); (case z_q => first | assumption | exact Sz.mul (by assumption) (by assumption)); (case k_q => omega)); intro _ _ _ _ _ _ _ _ _ _ _ _ _ _ _ _ _ _ _ _ _)))
  (k_with "binaryOp Pow int int" => ((k_dflt (refine' pow_int_small ?h1_q ?h2_q ?h3_q ?_; (case h1_q => omega); (case h2_q => omega); (case h3_q => omega)))))
  (k_with "call ref" => (((with_reducible show wpAny _ _ (call (Value.ref 182) [Value.int _ _]) _ _ _); k_dflt (refine' frac1_k ?F_q ?N_q ?X_q ?T_q ?A_q ?_; (case F_q => k_asm); (case N_q => k_asm); (case X_q => k_asm); (case T_q => k_asm); (case A_q => exact Room.le (by assumption) (by decide))); intro _ _ _ _ _ _ _ _ _ _ _ _ _ _ _)))
  (k_with "eval Name" => ((k_dflt (first | (refine' nmL ?F_q ?e_q ?v_q ?_ ?a_q ?b_q ?d_q; (case F_q => with_reducible assumption); (case e_q => exact rfl); (case v_q => first | with_reducible assumption | ((try dsimp only); first | exact (if_neg (by decide)).trans (by with_reducible assumption) | exact (if_neg (by decide)).trans ((if_neg (by decide)).trans (by with_reducible assumption)) | exact (if_neg (by decide)).trans ((if_neg (by decide)).trans ((if_neg (by decide)).trans (by with_reducible assumption)))) | exact rfl); (case a_q => exact rfl); (case b_q => exact rfl); (case d_q => decide); k_whole) | (refine' nmC ?F_q ?c_q ?o_q ?d_q ?_ ?a_q ?b_q ?g_q; (case F_q => with_reducible assumption); (case a_q => exact rfl); (case b_q => exact rfl); (case c_q => exact rfl); (case o_q => with_reducible assumption); (case d_q => with_reducible assumption); (case g_q => decide); k_whole) | (refine' nameG_K ?F_q ?X_q ?T_q ?e_q ?_ ?g_q ?a_q ?b_q ?d_q; (case F_q => with_reducible assumption); (case X_q => k_asm); (case T_q => k_asm); (case a_q => exact rfl); (case b_q => exact rfl); (case e_q => k_is); (case g_q => exact rfl); (case d_q => decide); k_whole) | (refine' nmB ?F_q ?X_q ?T_q ?e_q ?v_q ?n_q ?_ ?g_q ?h_q ?a_q ?b_q ?d_q; (case F_q => with_reducible assumption); (case X_q => k_asm); (case T_q => k_asm); (case a_q => exact rfl); (case b_q => exact rfl); (case e_q => k_is); (case v_q => boot_fast); (case n_q => decide); (case g_q => exact rfl); (case h_q => exact rfl); (case d_q => decide); k_whole)))))
  (k_with "call ref" => (((with_reducible show wpAny _ _ (call (Value.ref 492) [Value.ref _, Value.int _ _]) _ _ _); k_dflt (refine' liftI ?F_q ?N_q ?X_q ?T_q (cellZ _ _) (fun R hR => cell_code ⟨Frag.In.keeps (by k_asm) (Fr.keep (by k_asm)), _, _, _, _, _, Top.keeps (by k_asm) (Fr.keep (by k_asm))⟩ (Room.le (by assumption) (by decide)) (stays_list (Fr.keep (by with_reducible assumption)) (by with_reducible assumption)) (by with_reducible assumption) (by with_reducible assumption) (by omega) (by omega) hR) ?_; (case F_q => k_asm); (case N_q => k_asm); (case X_q => k_asm); (case T_q => k_asm)); intro _ _ _ _ _ _)))
  (k_with "exec For" => ((with_unfolding_all refine for_at ?_)))
  (k_with "pyIter ref" => (first | (with_reducible refine hold_pyF ?_) | (with_reducible refine hold_pyC ?_)))
  (k_with "call builtin:len" => (((with_reducible show wpAny _ _ (call (Value.builtin "len") [Value.ref _]) _ _ _); k_dflt (refine' len_old ?F_q ?l_q ?f_q ?_; (case F_q => with_reducible assumption); (case l_q => with_reducible assumption); (case f_q => omega)))))
  (k_with "subscriptTail Name Name ref int" => (((with_reducible show wpAny _ _ (subscriptTail _ _ (Value.ref _) (Value.int _ _)) _ _ _); k_dflt (refine' item_at ?l_q ?a_q ?b_q ?x_q ?_ ?s_q; (case l_q => with_reducible assumption); (case x_q => with_reducible assumption); (case a_q => omega); (case b_q => omega); (case s_q => with_unfolding_all rfl)))))
  (k_with "compareOp In int ref" => ((k_dflt (refine' in_list_ints ?l_q ?i_q ?_; (case l_q => with_reducible assumption); (case i_q => with_reducible assumption)))))
  (k_with "call builtin:len" => (((with_reducible show wpAny _ _ (call (Value.builtin "len") [Value.ref _]) _ _ _); k_dflt (refine' len_cur ?l_q ?f_q ?_; (case l_q => with_reducible assumption); (case f_q => omega)))))
  (k_with "exec For Name Call cons nil" => ((with_unfolding_all refine for_at ?_)))
  (k_with "exec For Name Name cons nil" => ((with_unfolding_all refine for_at ?_)))
  (k_with "call ref" => (((with_reducible show wpAny _ _ (call (Value.ref 511) [Value.str (nameAt _) _, Value.int _ _]) _ _ _); k_dflt (refine' liftPair ?F_q ?N_q ?X_q ?T_q (gN (fnAt _) _) (gD (fnAt _) _) (fun R hR => gain_code ⟨Frag.In.keeps (by k_asm) (Fr.keep (by k_asm)), _, _, _, _, _, Top.keeps (by k_asm) (Fr.keep (by k_asm))⟩ (Room.le (by assumption) (by decide)) (by assumption) (by omega) (by omega) hR) ?_; (case F_q => k_asm); (case N_q => k_asm); (case X_q => k_asm); (case T_q => k_asm)); intro _ _ _ _ _ _ _ l9q; replace l9q := allNe_of l9q; simp only [AllNe, and_true] at l9q)))
  (k_with "call ref" => (((with_reducible show wpAny _ _ (call (Value.ref 518) [Value.ref _, Value.ref _]) _ _ _); k_dflt (refine' liftPair ?F_q ?N_q ?X_q ?T_q _ _ (fun R hR => add_code ⟨Frag.In.keeps (by k_asm) (Fr.keep (by k_asm)), _, _, _, _, _, Top.keeps (by k_asm) (Fr.keep (by k_asm))⟩ (Room.le (by assumption) (by decide)) (pairOfNews (by k_asm) (by k_mem)) (pairOfNews (by k_asm) (by k_mem)) (by with_reducible assumption) (by with_reducible assumption) (by with_reducible assumption) (by with_reducible assumption) (by omega) hR) ?_; (case F_q => k_asm); (case N_q => k_asm); (case X_q => k_asm); (case T_q => k_asm)); intro _ _ _ _ _ _ _ l9q; replace l9q := allNe_of l9q; simp only [AllNe, and_true] at l9q)))
  (k_with "call type:set cons nil" => (((with_reducible show wpAny _ _ (call (Value.type "set") [Value.ref _]) _ _ _); k_dflt (refine' set_list_k ?F_q ?N_q rfl ?l_q ?i_q ?n_q ?_; (case F_q => k_asm); (case N_q => k_asm); (case l_q => exact stays_list (Fr.keep (by k_asm)) (by with_reducible assumption)); (case i_q => with_reducible assumption); (case n_q => omega)); intro _ _ _ _ _ _ l9q _; replace l9q := allNe_of l9q; simp only [AllNe, and_true] at l9q)))
  (k_with "call builtin:len cons nil" => (((with_reducible show wpAny _ _ (call (Value.builtin "len") [Value.ref _]) _ _ _); k_dflt (refine' len_small_set (News.get ?N_q ?m_q) ?s_q ?_; (case N_q => k_asm); (case m_q => k_mem); (case s_q => with_reducible assumption)))))
  trivial
section
theorem nmF {M : Model} {A : Around} {E : Value → Shared → Prop} {s : Shared} {h₀ : Heap} {L c : Addr} {env : Env} {x : Str} {pos : Pos} {v : Value} {Q : Value → Shared → Prop} {o : Obj} {news : List (Addr × Obj)}
    (N : News h₀ L s.heap news) (hc : env.cells.lookup x = some c) (hm : (c, o) ∈ news) (hd' : o.data = .cell (some v)) (h : Q v s) (hk : env.scope.kind = .function) (hx : env.kindOf x = some .free) (hd : (x == ("__debug__" : Str)) = false) (hn : (x == ("__classdict__" : Str)) = false) :
    wpAny M A (eval (.Name x pos) env) Q E s := wpAny_Name (wpAny_loadName_free hk hx hc ⟨o, N.get hm, hd'⟩ h hn) hd
theorem intsOf_len (n : Nat) : (intsOf n).length = (zsOf n).length := by simp [intsOf]
theorem headOne {h₀ h : Heap} {L a : Addr} {o : Obj} {rest : List (Addr × Obj)} (N : News h₀ L h ((a, o) :: rest)) : ∃ a' o', News h₀ L h ((a', o') :: rest) ∧ a' = a ∧ o' = o := ⟨a, o, N, rfl, rfl⟩
theorem int_at {vs : List Value} {ns : List Int} (hi : IntsAre vs ns) {i : Nat} {v : Value} (hv : vs[i]? = some v) : ∃ z t, v = .int z t := by
  have hlt : i < ns.length := by rw [← hi.length]; exact (List.getElem?_eq_some_iff.mp hv).1
  obtain ⟨t, ht⟩ := hi.get i ns[i] (List.getElem?_eq_getElem hlt)
  rw [hv] at ht
  exact ⟨_, t, Option.some.inj ht⟩
theorem intsOf_nonneg {n : Nat} {z : Int} (h : z ∈ intsOf n) : 0 ≤ z := by
  refine Classical.byContradiction fun hg9 => ?_
  (refine xa_1_2 (List.mem_map.mp h) ?_; intro a _ r92)
  subst r92
  refine hg9 ?_
  clear hg9
  exact Int.natCast_nonneg a
theorem nat_at {vs : List Value} {n i : Nat} (hi : IntsAre vs (intsOf n)) {v : Value} (hv : vs[i]? = some v) : ∃ z t, v = .int z t ∧ 0 ≤ z := by
  have hlt : i < (intsOf n).length := by rw [← hi.length]; exact (List.getElem?_eq_some_iff.mp hv).1
  obtain ⟨t, ht⟩ := hi.get i (intsOf n)[i] (List.getElem?_eq_getElem hlt)
  rw [hv] at ht
  exact ⟨_, t, Option.some.inj ht, intsOf_nonneg (List.getElem_mem _)⟩
theorem cand_list_code {prog : Program} {w : World} {A : Around} {s : Shared} {R : Result → Shared → Prop} (G : GndP w s) (hA : Room A 9) {l : Addr} {vs : List Value} {n : Nat} (hl : s.heap.IsList l vs.toArray) (hi : IntsAre vs (intsOf n)) (hn : n < 32)
    (hR : ∀ S s' o, DoneP s s' → s.heap.get? S = none → s'.heap.get? S = some o → SmallSet w o n → R (.ok (.ret (.ref S))) s') :
    codeAny (model prog w) A (.call (.ref 30) ⟨[.ref l], [(Str.ofString "num_cand", .none)]⟩) R s := by
  obtain ⟨n90, CH, n92, GB⟩ := G
  obtain ⟨X, p, loose, mean, mg, mb, T⟩ := n90
  (refine xa_1_2 (n92) ?_; intro ps ht hT; (try clear n92))
  have Xs := X.keeps (fun b o e => hid_of e)
  w_on
  w_strict (k_dflt (refine' enterPC (K := hd.heap_1 w.params) (binds := [(Str.ofString "candidates", .ref l), (Str.ofString "num_cand", .none)]) ht X T.nolimit ?o ?c ?b ?l ?d hA (fun L h₁ tk cells F N Y l25 dp un fr gd hA' => ?_) ?c2 ?c3 ?c4; (case o => k_is); (case c => k_is); (case b => first | exact BindsTo.of_eq rfl | exact binds_K Xs rfl (by k_is) rfl rfl rfl); (case l => exact rfl); (case d => decide +kernel); (case c2 => exact rfl); (case c3 => exact rfl); (case c4 => exact rfl)))
  dsimp only
  clear Xs
  w_strict (k_fold)
  (refine xa_1_2 (CellsAre.one Y) ?_; intro oc hE dc)
  subst hE
  clear Y
  rename News _ _ _ _ => N1
  simp only [List.cons_append, List.nil_append] at N1
  replace hl := hid_list ht hl
  have hlen := hi.length
  have hlen2 := intsOf_len n
  have hlen3 := zs_le n
  w_strict (k_steps)
  unfold Hold
  rename Fr _ _ _ _ => F2
  rename News _ _ _ _ => N2
  refine Classical.byContradiction fun hg9 => ?_
  (refine xa_2_3 (headOne N2) ?_; intro S o' N2 r93 r94)
  subst r93
  subst r94
  refine hg9 ?_
  clear hg9
  rename SmallSet _ _ _ => sm
  rename L + 1 ≠ _ ∧ _ => ne2
  refine for_list (fix := []) rfl F2 N2 (fun h k _ => stays_list k hl)
    (fun i m₁ news₁ => news₁ = [(S, o'), (L + 1, oc), (25, tabObj ps)] ∧ m₁ (Str.ofString "candidates") = some (.ref l) ∧ m₁ (Str.ofString "approved") = some (.ref S)) ?_ ?_ ?_
  · exact ⟨rfl, rfl, rfl⟩
  · clear F2 N2
    rintro i v m₁ _ h₂ tk₂ I oI hv hJ99 F2 N2 hn2
    refine Classical.byContradiction fun hg9 => ?_
    (refine an_3 (hJ99) ?_; intro r90 e1 e2; (try clear hJ99))
    subst r90
    refine hg9 ?_
    clear hg9
    refine Classical.byContradiction fun hg9 => ?_
    (refine xa_2_1 (int_at hi hv) ?_; intro z t r92)
    subst r92
    refine hg9 ?_
    clear hg9
    w_strict (k_steps)
    rename Fr _ _ _ _ => F3
    rename News _ _ _ _ => N3
    refine ⟨rfl, _, _, _, [(S, o'), (L + 1, oc), (25, tabObj ps)], rfl, F3, N3, hn2, rfl, e1, e2⟩
  · clear F2 N2
    rintro m₁ _ h₂ tk₂ hJ94 F2 N2
    refine Classical.byContradiction fun hg9 => ?_
    (refine an_3 (hJ94) ?_; intro r90 e1 e2; (try clear hJ94))
    subst r90
    refine hg9 ?_
    clear hg9
    replace N2 : News (hid s.heap) L h₂ [(S, o'), (L + 1, oc), (25, tabObj ps)] := N2
    w_strict (k_steps)
    k_dflt (refine' genexp_k (cl := []) (a := l) (fun y => y = .bool true) ?hh ?room F2 N2 T CH ?U hT ?B ?code ?gl ?co ?clos ?cell ?h0 ?x ?kind ?e e1 ?ke ?ky ?dy (src_list (N2.get (by k_mem)) (stays_list F2.keep hl)) ?elt ?h)
    case hh => rfl
    case room => exact Room.lim hA'
    case U => k_updF
    case B => exact GB
    case code => rfl
    case gl => rfl
    case co => rfl
    case clos => rfl
    case cell => decide
    case h0 => rfl
    case x => rfl
    case kind => rfl
    case e => rfl
    case ke => rfl
    case ky => rfl
    case dy => decide
    case elt =>
      clear F2 N2
      intro C' code ps' A' E' v u m₂ hh hD hU hv F2 N2 hm
      obtain ⟨i, hv⟩ := hv
      refine Classical.byContradiction fun hg9 => ?_
      (refine xa_2_2 (nat_at hi hv) ?_; intro z t r92 hz)
      subst r92
      refine hg9 ?_
      clear hg9
      obtain ⟨ha, da, fa, ga, ua⟩ := A'
      dsimp only at hh
      subst hh
      w_strict (k_steps)
      · rw [decide_eq_true hz]
      · exact keeps_tok _ _
    case h =>
      clear F2 N2
      intro Kb Gn s₅ ps' F2 N2 hT' GB' hos XG hk hLK _
      try dsimp only at N2 hk
      w_strict (k_steps)
      refine all_k F2 N2 GB' XG hk hLK fun s₆ F3 N3 GB3 hos3 => ?_
      clear F2 N2 XG
      w_strict (k_steps)
      exact hR S s₆ o' (donePofFr F3 N3 (by k_mem) hT' GB3 (hos3.trans hos)) (hid_fresh (N3 _ (.head _)).2.2 (Ne.symm ne2.2)) (N3.get (by k_mem)) sm
end
section
theorem words28 : True := by
  (k_with "call type:set cons nil" => (((with_reducible show wpAny _ _ (call (Value.type "set") [Value.ref _]) _ _ _); k_dflt (refine' set_set_k ?F_q ?N_q ?l_q ?s_q ?_; (case F_q => k_asm); (case N_q => k_asm); (case l_q => exact Fr.keep (by k_asm) _ _ (by with_reducible assumption)); (case s_q => with_reducible assumption)); intro _ _ _ _ _ _ l9q _; replace l9q := allNe_of l9q; simp only [AllNe, and_true] at l9q)))
  (k_with "call builtin:len cons nil" => (((with_reducible show wpAny _ _ (call (Value.builtin "len") [Value.ref _]) _ _ _); k_dflt (refine' len_small_set (Fr.keep ?N_q _ _ ?m_q) ?s_q ?_; (case N_q => k_asm); (case m_q => with_reducible assumption); (case s_q => with_reducible assumption)))))
  (k_with "ite" => ((refine' ite_neg ?c_q ?_; (case c_q => (simp only [bne_self_eq_false, Bool.false_eq_true, not_false_eq_true]; done)))))
  (k_with "eval Name" => ((k_dflt (refine' nmF ?N_q ?c_q ?m_q ?d_q ?_ ?a_q ?b_q ?g_q ?n_q; (case a_q => exact rfl); (case b_q => exact rfl); (case N_q => k_asm); (case c_q => exact rfl); (case m_q => k_mem); (case d_q => with_reducible assumption); (case g_q => decide); (case n_q => decide); k_whole))))
  trivial
section
theorem cand_set_code {prog : Program} {w : World} {A : Around} {s : Shared} {R : Result → Shared → Prop} (G : GndP w s) (hA : Room A 9) {a : Addr} {oa : Obj} {n : Nat} {nc : Int} {tnc : Tok} (ha : s.heap.get? a = some oa) (hs : SmallSet w oa n) (hlt : ∀ z ∈ zsOf n, (z : Int) < nc)
    (hR : ∀ S s' o, DoneP s s' → s.heap.get? S = none → s'.heap.get? S = some o → SmallSet w o n → R (.ok (.ret (.ref S))) s') :
    codeAny (model prog w) A (.call (.ref 30) ⟨[.ref a], [(Str.ofString "num_cand", .int nc tnc)]⟩) R s := by
  obtain ⟨n90, CH, n92, GB⟩ := G
  obtain ⟨X, p, loose, mean, mg, mb, T⟩ := n90
  (refine xa_1_2 (n92) ?_; intro ps ht hT; (try clear n92))
  have Xs := X.keeps (fun b o e => hid_of e)
  w_on
  w_strict (k_dflt (refine' enterPC (K := hd.heap_1 w.params) (binds := [(Str.ofString "candidates", .ref a), (Str.ofString "num_cand", .int nc tnc)]) ht X T.nolimit ?o ?c ?b ?l ?d hA (fun L h₁ tk cells F N Y l25 dp un fr gd hA' => ?_) ?c2 ?c3 ?c4; (case o => k_is); (case c => k_is); (case b => first | exact BindsTo.of_eq rfl | exact binds_K Xs rfl (by k_is) rfl rfl rfl); (case l => exact rfl); (case d => decide +kernel); (case c2 => exact rfl); (case c3 => exact rfl); (case c4 => exact rfl)))
  dsimp only
  clear Xs
  w_strict (k_fold)
  (refine xa_1_2 (CellsAre.one Y) ?_; intro oc hE dc)
  subst hE
  clear Y
  have dc2 : oc.data = .cell (some (.int nc tnc)) := dc
  clear dc
  rename News _ _ _ _ => N1
  simp only [List.cons_append, List.nil_append] at N1
  replace ha := hid_obj ht ha (by obtain ⟨_, _, _, _, _, _, _, _, rfl⟩ := hs; nofun)
  w_strict (k_steps)
  unfold Hold
  rename Fr _ _ _ _ => F2
  rename News _ _ _ _ => N2
  refine Classical.byContradiction fun hg9 => ?_
  (refine xa_2_3 (headOne N2) ?_; intro S o' N2 r93 r94)
  subst r93
  subst r94
  refine hg9 ?_
  clear hg9
  rename SmallSet _ _ _ => sm
  rename L + 1 ≠ _ ∧ _ => ne2
  refine for_set (fix := []) rfl F2 N2 hs (fun h k _ => k _ _ ha)
    (fun ord i m₁ news₁ => news₁ = [(S, o'), (L + 1, oc), (25, tabObj ps)] ∧ m₁ (Str.ofString "candidates") = some (.ref a) ∧ m₁ (Str.ofString "approved") = some (.ref S)) ?_ ?_ ?_
  · exact fun _ _ => ⟨rfl, rfl, rfl⟩
  · clear F2 N2
    rintro ord i z t m₁ _ h₂ tk₂ I oI hp hv hJ912 F2 N2 hn2
    refine Classical.byContradiction fun hg9 => ?_
    (refine an_3 (hJ912) ?_; intro r90 e1 e2; (try clear hJ912))
    subst r90
    refine hg9 ?_
    clear hg9
    w_strict (k_steps)
    rename Fr _ _ _ _ => F3
    rename News _ _ _ _ => N3
    refine ⟨rfl, _, _, _, [(S, o'), (L + 1, oc), (25, tabObj ps)], rfl, F3, N3, hn2, rfl, e1, e2⟩
  · clear F2 N2
    rintro ord m₁ _ h₂ tk₂ hp hJ96 F2 N2
    refine Classical.byContradiction fun hg9 => ?_
    (refine an_3 (hJ96) ?_; intro r90 e1 e2; (try clear hJ96))
    subst r90
    refine hg9 ?_
    clear hg9
    replace N2 : News (hid s.heap) L h₂ [(S, o'), (L + 1, oc), (25, tabObj ps)] := N2
    w_strict (k_steps)
    k_dflt (refine' genexp_k (cl := []) (a := a) (fun y => y = .bool true) ?hh ?room F2 N2 T CH ?U hT ?B ?code ?gl ?co ?clos ?cell ?h0 ?x ?kind ?e e1 ?ke ?ky ?dy (src_set (N2.get (by k_mem)) (F2.keep _ _ ha) hs) ?elt ?h)
    case hh => rfl
    case room => exact Room.lim hA'
    case U => k_updF
    case B => exact GB
    case code => rfl
    case gl => rfl
    case co => rfl
    case clos => rfl
    case cell => decide
    case h0 => rfl
    case x => rfl
    case kind => rfl
    case e => rfl
    case ke => rfl
    case ky => rfl
    case dy => decide
    case elt =>
      clear F2 N2
      intro C' code ps' A' E' v u m₂ hh hD hU hv F2 N2 hm
      refine Classical.byContradiction fun hg9 => ?_
      (refine xa_3_2 (hv) ?_; intro i z t hz r94; (try clear hv))
      subst r94
      refine hg9 ?_
      clear hg9
      obtain ⟨ha, da, fa, ga, ua⟩ := A'
      dsimp only at hh
      subst hh
      w_strict (k_steps)
      exact keeps_tok _ _
    case h =>
      clear F2 N2
      intro Kb Gn s₅ ps₂ F2 N2 hT2 GB2 hos XG hk hLK _
      try dsimp only at N2 hk
      w_strict (k_steps)
      refine all_k F2 N2 GB2 XG hk hLK fun s₆ F3 N3 GB3 hos3 => ?_
      clear F2 N2 XG
      w_strict (k_steps)
      clear hk hLK
      k_dflt (refine' genexp_k (cl := [(Str.ofString "num_cand", L + 1)]) (a := a) (fun y => y = .bool false) ?hh ?room F3 N3 T CH ?U hT2 ?B ?code ?gl ?co ?clos ?cell ?h0 ?x ?kind ?e e1 ?ke ?ky ?dy (src_set (N3.get (by k_mem)) (F3.keep _ _ ha) hs) ?elt ?h)
      case hh => rfl
      case room => exact Room.lim hA'
      case U => k_updF
      case B => exact GB3
      case code => rfl
      case gl => rfl
      case co => rfl
      case clos => rfl
      case cell => decide
      case h0 => rfl
      case x => rfl
      case kind => rfl
      case e => rfl
      case ke => rfl
      case ky => rfl
      case dy => decide
      case elt =>
        clear F3 N3
        intro C' code ps' A' E' v u m₂ hh hD hU hv F2 N2 hm
        refine Classical.byContradiction fun hg9 => ?_
        (refine xa_3_2 (hv) ?_; intro i z t hz r94; (try clear hv))
        subst r94
        refine hg9 ?_
        clear hg9
        have hz2 := hlt z hz
        obtain ⟨ha, da, fa, ga, ua⟩ := A'
        dsimp only at hh
        subst hh
        w_strict (k_steps)
        · rw [decide_eq_false (by omega)]
        · exact keeps_refl _
      case h =>
        clear F3 N3
        intro Kb₂ Gn₂ s₇ ps₃ F2 N2 hT3 GB4 hos4 XG hk hLK _
        try dsimp only at N2 hk
        w_strict (k_steps)
        refine any_k F2 N2 GB4 XG hk hLK fun s₈ F3 N3 GB5 hos5 => ?_
        clear F2 N2 XG hk hLK
        w_strict (k_steps)
        exact hR S s₈ o' (donePofFr F3 N3 (by k_mem) hT3 GB5 (hos5.trans (hos4.trans (hos3.trans hos)))) (hid_fresh (N3 _ (.head _)).2.2 (Ne.symm ne2.2)) (N3.get (by k_mem)) sm
end
end
end
section
theorem cand_k {prog : Program} {w : World} {A : Around} {s : Shared} {h₀ : Heap} {L : Addr} {m mg mb : Str → Option Value} {news : List (Addr × Obj)} {p : Program} {loose : List Str} {mean : ExcName → Option Value} {Q : Value → Shared → Prop} {E : Value → Shared → Prop} {ps : Array Value} {g : Obj → List (Addr × Obj)} {f : Value} {vs : List Value} {kw : List (Str × Value)} {n : Nat}
    (F : Fr h₀ L s.heap m) (N : News h₀ L s.heap news) (X : (hd.heap_1 w.params).In h₀) (T : Top p loose mean mg mb h₀) (C : CodeHd h₀ 29 25) (U : UpdF 25 (tabObj ps) news g) (ht : TriplesOk ps.toList) (B : AllBare s.gens)
    (Cd : GndP w s → ∀ R : Result → Shared → Prop, (∀ S s' o, DoneP s s' → s.heap.get? S = none → s'.heap.get? S = some o → SmallSet w o n → R (.ok (.ret (.ref S))) s') → codeAny (model prog w) A (.call f ⟨vs, kw⟩) R s)
    (h : ∀ S o s' ps', Fr h₀ L s'.heap m → News h₀ L s'.heap ((S, o) :: g (tabObj ps')) → (∀ p ∈ g (tabObj ps'), p.1 ≠ S) → TriplesOk ps'.toList → AllBare s'.gens → s'.os = s.os → SmallSet w o n → Q (.ref S) s') :
    wpAny (model prog w) A (call f vs kw) Q E s := by
  refine liftP F N X T C U ht B (fun v s' => ∃ S o, v = .ref S ∧ s.heap.get? S = none ∧ s'.heap.get? S = some o ∧ SmallSet w o n) (fun G R hR => Cd G R fun S s' o D e1 e2 e3 => hR _ s' D ⟨S, o, rfl, e1, e2, e3⟩) fun v s' ps' F' N' ht' B' os' D hP => ?_
  refine Classical.byContradiction fun hg9 => ?_
  (refine xa_2_4 (hP) ?_; intro S o r92 e1 e2 e3; (try clear hP))
  subst r92
  refine hg9 ?_
  clear hg9
  have nL : S ≠ L := fun q => by
    (refine xa_3_2 (F.ns) ?_; intro oL _ _ hL _)
    rw [q, hL] at e1; cases e1
  have n0 : h₀.get? S = none := by
    cases q : h₀.get? S with
    | none => rfl
    | some ob => rw [F.keep _ _ q] at e1; cases e1
  refine h S o s' ps' F' (fun q hq => ?_) (fun q hq => ?_) ht' B' os' e3
  · rcases List.mem_cons.mp hq with rfl | hq
    · exact ⟨e2, nL, n0⟩
    · exact N' q hq
  · (refine xa_1_2 (updF_addr U q hq) ?_; intro r hr e)
    intro q2
    have := (N r hr).1
    rw [e, q2, e1] at this; cases this
noncomputable abbrev voterD (hs1 hs2 : Int) (S : Addr) (wt : Int) (t1 t2 t3 : Tok) : Obj := dictOf [⟨hs1, .str (Str.ofString "approved") t1, .ref S⟩, ⟨hs2, .str (Str.ofString "weight") t2, .int wt t3⟩] 2
/-- a voter at hand -/
noncomputable def IsVoter (w : World) (h : Heap) (v : Value) (n : Nat) (wt : Int) : Prop :=
  ∃ x dx S o hs1 hs2 t1 t2 t3, v = .ref x ∧ h.get? x = some (instObj 481 dx) ∧ h.get? dx = some (voterD hs1 hs2 S wt t1 t2 t3) ∧ h.get? S = some o ∧ SmallSet w o n
/-- .. that a call made -/
noncomputable def NewVoter (w : World) (h h' : Heap) (v : Value) (n : Nat) (wt : Int) : Prop :=
  ∃ x dx S o hs1 hs2 t1 t2 t3, v = .ref x ∧ h.get? x = none ∧ h.get? dx = none ∧ h.get? S = none ∧ x ≠ dx ∧ x ≠ S ∧ dx ≠ S ∧ h'.get? x = some (instObj 481 dx) ∧ h'.get? dx = some (voterD hs1 hs2 S wt t1 t2 t3) ∧ h'.get? S = some o ∧ SmallSet w o n
end
section
theorem words29 : True := by
  k_with_none
  (k_with "ite" => (first | (refine ite_pos (by ((try simp only [beq_iff_eq, bne_iff_ne, decide_eq_true_eq, Bool.not_eq_true', decide_eq_false_iff_not, beq_eq_false_iff_ne, ne_eq]); omega)) ?_) | (refine ite_neg (by ((try simp only [beq_iff_eq, bne_iff_ne, decide_eq_true_eq, Bool.not_eq_true', decide_eq_false_iff_not, beq_eq_false_iff_ne, ne_eq]); omega)) ?_)))
  (k_with "binaryOp FloorDiv int int" => ((k_dflt (refine' floordiv_int ?h1_q ?_ (Or.inl (PyProof.noPylong_of_log2 ?h2_q)); (case h1_q => omega); (case h2_q => first | assumption | exact Sz.log (by assumption))))))
  (k_with "binaryOp Mult int int" => ((k_dflt (refine' mul_int ?_ ?hm_q; (case hm_q => exact Sz.ok (by with_reducible assumption) (by with_reducible assumption) (by omega))))))
  (k_with "call ref" => (((with_reducible show wpAny _ _ (call (Value.ref 182) [Value.int _ _, Value.int _ _]) _ _ _); k_dflt (refine' frac_k ?F_q ?N_q ?X_q ?T_q ?A_q ?b_q ?z_q ?k_q ?_; (case F_q => k_asm); (case N_q => k_asm); (case X_q => k_asm); (case T_q => k_asm); (case A_q => exact Room.le (by assumption) (by decide)); (case b_q => first | assumption | omega | (exact Int.mul_pos (by assumption) (by assumption))); (case z_q => first | assumption | exact Sz.mul (by assumption) (by assumption)); (case k_q => omega)); intro _ _ _ _ _ _ _ _ _ _ _ _ _ _ _ _ _ _ _ _ _)))
  (k_with "binaryOp Pow int int" => ((k_dflt (refine' pow_int_small ?h1_q ?h2_q ?h3_q ?_; (case h1_q => omega); (case h2_q => omega); (case h3_q => omega)))))
  (k_with "call ref" => (((with_reducible show wpAny _ _ (call (Value.ref 182) [Value.int _ _]) _ _ _); k_dflt (refine' frac1_k ?F_q ?N_q ?X_q ?T_q ?A_q ?_; (case F_q => k_asm); (case N_q => k_asm); (case X_q => k_asm); (case T_q => k_asm); (case A_q => exact Room.le (by assumption) (by decide))); intro _ _ _ _ _ _ _ _ _ _ _ _ _ _ _)))
  (k_with "eval Name" => ((k_dflt (first | (refine' nmL ?F_q ?e_q ?v_q ?_ ?a_q ?b_q ?d_q; (case F_q => with_reducible assumption); (case e_q => exact rfl); (case v_q => first | with_reducible assumption | ((try dsimp only); first | exact (if_neg (by decide)).trans (by with_reducible assumption) | exact (if_neg (by decide)).trans ((if_neg (by decide)).trans (by with_reducible assumption)) | exact (if_neg (by decide)).trans ((if_neg (by decide)).trans ((if_neg (by decide)).trans (by with_reducible assumption)))) | exact rfl); (case a_q => exact rfl); (case b_q => exact rfl); (case d_q => decide); k_whole) | (refine' nmC ?F_q ?c_q ?o_q ?d_q ?_ ?a_q ?b_q ?g_q; (case F_q => with_reducible assumption); (case a_q => exact rfl); (case b_q => exact rfl); (case c_q => exact rfl); (case o_q => with_reducible assumption); (case d_q => with_reducible assumption); (case g_q => decide); k_whole) | (refine' nameG_K ?F_q ?X_q ?T_q ?e_q ?_ ?g_q ?a_q ?b_q ?d_q; (case F_q => with_reducible assumption); (case X_q => k_asm); (case T_q => k_asm); (case a_q => exact rfl); (case b_q => exact rfl); (case e_q => k_is); (case g_q => exact rfl); (case d_q => decide); k_whole) | (refine' nmB ?F_q ?X_q ?T_q ?e_q ?v_q ?n_q ?_ ?g_q ?h_q ?a_q ?b_q ?d_q; (case F_q => with_reducible assumption); (case X_q => k_asm); (case T_q => k_asm); (case a_q => exact rfl); (case b_q => exact rfl); (case e_q => k_is); (case v_q => boot_fast); (case n_q => decide); (case g_q => exact rfl); (case h_q => exact rfl); (case d_q => decide); k_whole)))))
  (k_with "call ref" => (((with_reducible show wpAny _ _ (call (Value.ref 492) [Value.ref _, Value.int _ _]) _ _ _); k_dflt (refine' liftI ?F_q ?N_q ?X_q ?T_q (cellZ _ _) (fun R hR => cell_code ⟨Frag.In.keeps (by k_asm) (Fr.keep (by k_asm)), _, _, _, _, _, Top.keeps (by k_asm) (Fr.keep (by k_asm))⟩ (Room.le (by assumption) (by decide)) (stays_list (Fr.keep (by with_reducible assumption)) (by with_reducible assumption)) (by with_reducible assumption) (by with_reducible assumption) (by omega) (by omega) hR) ?_; (case F_q => k_asm); (case N_q => k_asm); (case X_q => k_asm); (case T_q => k_asm)); intro _ _ _ _ _ _)))
  (k_with "exec For" => ((with_unfolding_all refine for_at ?_)))
  (k_with "pyIter ref" => (first | (with_reducible refine hold_pyF ?_) | (with_reducible refine hold_pyC ?_)))
  (k_with "call builtin:len" => (((with_reducible show wpAny _ _ (call (Value.builtin "len") [Value.ref _]) _ _ _); k_dflt (refine' len_old ?F_q ?l_q ?f_q ?_; (case F_q => with_reducible assumption); (case l_q => with_reducible assumption); (case f_q => omega)))))
  (k_with "subscriptTail Name Name ref int" => (((with_reducible show wpAny _ _ (subscriptTail _ _ (Value.ref _) (Value.int _ _)) _ _ _); k_dflt (refine' item_at ?l_q ?a_q ?b_q ?x_q ?_ ?s_q; (case l_q => with_reducible assumption); (case x_q => with_reducible assumption); (case a_q => omega); (case b_q => omega); (case s_q => with_unfolding_all rfl)))))
  (k_with "compareOp In int ref" => ((k_dflt (refine' in_list_ints ?l_q ?i_q ?_; (case l_q => with_reducible assumption); (case i_q => with_reducible assumption)))))
  (k_with "call builtin:len" => (((with_reducible show wpAny _ _ (call (Value.builtin "len") [Value.ref _]) _ _ _); k_dflt (refine' len_cur ?l_q ?f_q ?_; (case l_q => with_reducible assumption); (case f_q => omega)))))
  (k_with "exec For Name Call cons nil" => ((with_unfolding_all refine for_at ?_)))
  (k_with "exec For Name Name cons nil" => ((with_unfolding_all refine for_at ?_)))
  (k_with "call ref" => (((with_reducible show wpAny _ _ (call (Value.ref 511) [Value.str (nameAt _) _, Value.int _ _]) _ _ _); k_dflt (refine' liftPair ?F_q ?N_q ?X_q ?T_q (gN (fnAt _) _) (gD (fnAt _) _) (fun R hR => gain_code ⟨Frag.In.keeps (by k_asm) (Fr.keep (by k_asm)), _, _, _, _, _, Top.keeps (by k_asm) (Fr.keep (by k_asm))⟩ (Room.le (by assumption) (by decide)) (by assumption) (by omega) (by omega) hR) ?_; (case F_q => k_asm); (case N_q => k_asm); (case X_q => k_asm); (case T_q => k_asm)); intro _ _ _ _ _ _ _ l9q; replace l9q := allNe_of l9q; simp only [AllNe, and_true] at l9q)))
  (k_with "call ref" => (((with_reducible show wpAny _ _ (call (Value.ref 518) [Value.ref _, Value.ref _]) _ _ _); k_dflt (refine' liftPair ?F_q ?N_q ?X_q ?T_q _ _ (fun R hR => add_code ⟨Frag.In.keeps (by k_asm) (Fr.keep (by k_asm)), _, _, _, _, _, Top.keeps (by k_asm) (Fr.keep (by k_asm))⟩ (Room.le (by assumption) (by decide)) (pairOfNews (by k_asm) (by k_mem)) (pairOfNews (by k_asm) (by k_mem)) (by with_reducible assumption) (by with_reducible assumption) (by with_reducible assumption) (by with_reducible assumption) (by omega) hR) ?_; (case F_q => k_asm); (case N_q => k_asm); (case X_q => k_asm); (case T_q => k_asm)); intro _ _ _ _ _ _ _ l9q; replace l9q := allNe_of l9q; simp only [AllNe, and_true] at l9q)))
  (k_with "call ref" => (((with_reducible show wpAny _ _ (call (Value.ref 30) [Value.ref _] _) _ _ _); (k_dflt (show wpAny _ _ (call (Value.ref 30) [Value.ref _] [(Str.ofString "num_cand", Value.none)]) _ _ _)); k_dflt (refine' cand_k ?F_q ?N_q ?X_q ?T_q ?C_q ?U_q ?t_q ?B_q (fun G9 R hR => cand_list_code G9 (Room.le (by assumption) (by decide)) ?l_q ?i_q ?n_q hR) ?_; (case F_q => k_asm); (case N_q => k_asm); (case X_q => k_asm); (case T_q => k_asm); (case C_q => k_asm); (case U_q => k_updF); (case t_q => with_reducible assumption); (case B_q => with_reducible assumption); (case l_q => exact stays_list (Fr.keep (by k_asm)) (by with_reducible assumption)); (case i_q => with_reducible assumption); (case n_q => omega)); intro _ _ _ _ _ N9q l9q _ _ _ _; (try dsimp only at N9q l9q); replace l9q := allNe_of l9q; simp only [AllNe, and_true] at l9q)))
  (k_with "call ref" => (((with_reducible show wpAny _ _ (call (Value.ref 30) [Value.ref _] _) _ _ _); (k_dflt (show wpAny _ _ (call (Value.ref 30) [Value.ref _] [(Str.ofString "num_cand", Value.int _ _)]) _ _ _)); k_dflt (refine' cand_k ?F_q ?N_q ?X_q ?T_q ?C_q ?U_q ?t_q ?B_q (fun G9 R hR => cand_set_code G9 (Room.le (by assumption) (by decide)) ?l_q ?i_q ?n_q hR) ?_; (case F_q => k_asm); (case N_q => k_asm); (case X_q => k_asm); (case T_q => k_asm); (case C_q => k_asm); (case U_q => k_updF); (case t_q => with_reducible assumption); (case B_q => with_reducible assumption); (case l_q => exact Fr.keep (by k_asm) _ _ (by with_reducible assumption)); (case i_q => with_reducible assumption); (case n_q => with_reducible assumption)); intro _ _ _ _ _ N9q l9q _ _ _ _; (try dsimp only at N9q l9q); replace l9q := allNe_of l9q; simp only [AllNe, and_true] at l9q)))
  trivial
section
theorem voter_list_code {prog : Program} {w : World} {A : Around} {s : Shared} {R : Result → Shared → Prop} (G : GndP w s) (hA : Room A 12) {l : Addr} {vs : List Value} {n : Nat} (hl : s.heap.IsList l vs.toArray) (hi : IntsAre vs (intsOf n)) (hn : n < 32) {wt : Int} {tw : Tok} (hw : 1 ≤ wt)
    (hR : ∀ v s', DoneP s s' → NewVoter w s.heap s'.heap v n wt → R (.ok (.ret v)) s') :
    codeAny (model prog w) A (.call (.ref 481) ⟨[.ref l], [(Str.ofString "weight", .int wt tw)]⟩) R s := by
  obtain ⟨n90, CH, n92, GB⟩ := G
  obtain ⟨X, p, loose, mean, mg, mb, T⟩ := n90
  (refine xa_1_2 (n92) ?_; intro ps ht hT; (try clear n92))
  have Xs := X.keeps (fun b o e => hid_of e)
  w_on
  w_strict (k_dflt (refine' makeP (K := hd.heap_1 w.params) (fI := 463) (binds := fun x => [(Str.ofString "self", .ref x), (Str.ofString "approved", .ref l), (Str.ofString "weight", .int wt tw), (Str.ofString "num_cand", .none)]) ht X T.nolimit ?m ?i ?f ?o ?c hA ?b ?l (fun x dx L h₁ F N l0 l1 l2 l25 dp un fr gd hA' => ?_) ?c2 ?c3 ?c4 ?c5; (case m => k_is); (case i => k_is); (case f => k_is); (case o => k_is); (case c => k_is); (case b => (intro x9 s9 X9; first | exact BindsTo.of_eq rfl | exact binds_K X9 rfl (by k_is) rfl rfl rfl)); (case l => (intro x9; exact locs rfl)); (case c2 => exact rfl); (case c3 => exact rfl); (case c4 => exact rfl); (case c5 => decide)))
  dsimp only
  clear Xs
  w_strict (k_fold)
  replace hl := hid_list ht hl
  w_strict (k_steps)
  rename Fr _ _ _ _ => F2
  rename News _ _ _ _ => N2
  rename x ≠ _ ∧ _ => ne
  (refine an_3 (ne) ?_; intro ne1 ne2 ne3; (try clear ne))
  exact hR _ _ (donePofFr F2 N2 (by k_mem) (by assumption) (by assumption) (by assumption)) ⟨x, dx, _, _, _, _, _, _, _, rfl, hid_fresh (N2 _ (.tail _ (.head _))).2.2 (Nat.ne_of_gt (Nat.lt_trans l25 l1)), hid_fresh (N2 _ (.tail _ (.tail _ (.head _)))).2.2 (Nat.ne_of_gt l25), hid_fresh (N2 _ (.head _)).2.2 (Ne.symm ne3), Nat.ne_of_gt l1, ne1, ne2,
    N2.get (.tail _ (.head _)), N2.get (.tail _ (.tail _ (.head _))), N2.get (.head _), by assumption⟩
theorem voter_set_code {prog : Program} {w : World} {A : Around} {s : Shared} {R : Result → Shared → Prop} (G : GndP w s) (hA : Room A 12) {a : Addr} {oa : Obj} {n : Nat} {nc : Int} {tnc : Tok} (ha : s.heap.get? a = some oa) (hs : SmallSet w oa n) (hlt : ∀ z ∈ zsOf n, (z : Int) < nc) {wt : Int} {tw : Tok} (hw : 1 ≤ wt)
    (hR : ∀ v s', DoneP s s' → NewVoter w s.heap s'.heap v n wt → R (.ok (.ret v)) s') :
    codeAny (model prog w) A (.call (.ref 481) ⟨[.ref a], [(Str.ofString "weight", .int wt tw), (Str.ofString "num_cand", .int nc tnc)]⟩) R s := by
  obtain ⟨n90, CH, n92, GB⟩ := G
  obtain ⟨X, p, loose, mean, mg, mb, T⟩ := n90
  (refine xa_1_2 (n92) ?_; intro ps ht hT; (try clear n92))
  have Xs := X.keeps (fun b o e => hid_of e)
  w_on
  w_strict (k_dflt (refine' makeP (K := hd.heap_1 w.params) (fI := 463) (binds := fun x => [(Str.ofString "self", .ref x), (Str.ofString "approved", .ref a), (Str.ofString "weight", .int wt tw), (Str.ofString "num_cand", .int nc tnc)]) ht X T.nolimit ?m ?i ?f ?o ?c hA ?b ?l (fun x dx L h₁ F N l0 l1 l2 l25 dp un fr gd hA' => ?_) ?c2 ?c3 ?c4 ?c5; (case m => k_is); (case i => k_is); (case f => k_is); (case o => k_is); (case c => k_is); (case b => (intro x9 s9 X9; first | exact BindsTo.of_eq rfl | exact binds_K X9 rfl (by k_is) rfl rfl rfl)); (case l => (intro x9; exact locs rfl)); (case c2 => exact rfl); (case c3 => exact rfl); (case c4 => exact rfl); (case c5 => decide)))
  dsimp only
  clear Xs
  w_strict (k_fold)
  replace ha := hid_obj ht ha (by obtain ⟨_, _, _, _, _, _, _, _, rfl⟩ := hs; nofun)
  w_strict (k_steps)
  rename Fr _ _ _ _ => F2
  rename News _ _ _ _ => N2
  rename x ≠ _ ∧ _ => ne
  (refine an_3 (ne) ?_; intro ne1 ne2 ne3; (try clear ne))
  exact hR _ _ (donePofFr F2 N2 (by k_mem) (by assumption) (by assumption) (by assumption)) ⟨x, dx, _, _, _, _, _, _, _, rfl, hid_fresh (N2 _ (.tail _ (.head _))).2.2 (Nat.ne_of_gt (Nat.lt_trans l25 l1)), hid_fresh (N2 _ (.tail _ (.tail _ (.head _)))).2.2 (Nat.ne_of_gt l25), hid_fresh (N2 _ (.head _)).2.2 (Ne.symm ne3), Nat.ne_of_gt l1, ne1, ne2,
    N2.get (.tail _ (.head _)), N2.get (.tail _ (.tail _ (.head _))), N2.get (.head _), by assumption⟩
end
end
section
section
variable {prog : Program} {w : World} {A : Around} {s : Shared} {env : Env}
noncomputable abbrev CompEltAny (prog : Program) (w : World) (A : Around) (env : Env) (scope : Scope) (cl : List (Str × Addr)) (elt : Expr) (x : Str) (s : Shared) (dom : Int → Prop) : Prop :=
  ∀ C k t s₃ m₃ E', dom k → Fr s.heap C s₃.heap m₃ → m₃ x = some (.int k t) →
    wpAny (model prog w) A (eval elt (compEnvC scope cl C env)) (fun _ s₄ => Keeps s₃ s₄) E' s₃
/-- a comprehension over range(n), its items whatever they are -/
theorem comp_range_any {h₀ : Heap} {L r : Addr} {m : Str → Option Value} {news : List (Addr × Obj)} {scope : Scope} {cl : List (Str × Addr)} {x : Str} {elt : Expr} {Q : Value → Shared → Prop} {E : Value → Shared → Prop} {b : Int} {t u v : Tok} (n : Nat)
    (hh : A.handled = none) (F : Fr h₀ L s.heap m) (N : News h₀ L s.heap news) (hr : IsRange s.heap r 0 b 1 t u v) (hz : Builtin.Range.small 0 b 1 = true) (hz2 : Builtin.Range.rangeSize 0 b 1 = (n : Int)) (hn : n ≤ 1000)
    (he : CompEltAny prog w A env scope cl elt x s (fun k => 0 ≤ k ∧ k < n))
    (hQ : ∀ D h' tk ws ep, Fr h₀ L h' m → News h₀ L h' ((D, listOf ws ep) :: news) → (∀ p ∈ news, p.1 ≠ D) → s.heap.get? D = none → (∀ b o, s.heap.get? b = some o → h'.get? b = some o) → Q (.ref D) { s with heap := h', toks := tk }) :
    wpAny (model prog w) A (pyIter (.ref r)) (fun it s₂ => CompAt prog w A env scope cl x [] elt Q it s₂) E s := by
  refine wpAny_pyIter_range hr hz ?_
  have W := walks_lt (Walks.range (prog := prog) (w := w) hh s.heap.objs.size 0 1 n)
  refine ⟨fun _ => true, fun _ _ => True, s.heap.objs.size, _, _, n, _, _, rfl, W, ?_, ?_, ?_, ⟨fun C i v s₃ m₃ E' hC hv hn hm hk _ => wpAny_tests_nil ⟨rfl, keeps_refl _⟩, fun C i v s₃ m₃ E' hC hv _ hn hm hk _ => ?_⟩, ?_⟩
  · rw [sizeLine_eq]; omega
  · rw [hz2]; simp only [Int.ofNat_zero, Int.zero_mul, Int.add_zero, Int.sub_zero]; exact Heap.get?_push_size _ rfl
  · intro b hb; rw [List.mem_singleton.mp hb]; show s.heap.objs.size < (s.heap.push _).objs.size; rw [Heap.size_push]; exact Nat.lt_succ_self _
  · refine Classical.byContradiction fun hg9 => ?_
    obtain ⟨hi, t, r92⟩ := hv
    subst r92
    refine hg9 ?_
    clear hg9
    refine wpAny_mono (he C _ t s₃ m₃ E' ⟨by omega, by omega⟩ ⟨hn, fun b o' e => hk b o' (fun q => ?_) (Heap.get?_push_of_some _ e), ?_⟩ hm) (fun _ _ k => ⟨trivial, k⟩) fun _ _ e => e
    · rw [List.mem_singleton.mp q] at e
      exact absurd (Heap.lt_size e) (Nat.lt_irrefl _)
    · have hC' := hC
      simp only [Heap.size_push] at hC'
      exact Nat.le_trans (Nat.le_succ _) hC'
  · intro D h' tk ys vs hD hl hpl hlen hP hF hk
    obtain ⟨ep, hpl⟩ := hpl
    have k : ∀ b o, s.heap.get? b = some o → h'.get? b = some o := fun b o e => hk b o (fun q => by rw [List.mem_singleton.mp q] at e; exact absurd (Heap.lt_size e) (Nat.lt_irrefl _)) (Heap.get?_push_of_some _ e)
    have nD : s.heap.get? D = none := by
      cases q : s.heap.get? D with
      | none => rfl
      | some o => have := Heap.get?_push_of_some { cls := .type "range_iterator", data := .fields #[rawInt 0, rawInt (Builtin.Range.rangeSize 0 b 1), rawInt 1] } q; rw [hD] at this; cases this
    exact hQ D h' tk ys ep (F.after k) (newsFresh0 F (newsAfter N k) nD hpl) (fun p hp e => by have := (N p hp).1; rw [e, nD] at this; cases this) nD k
end
end
theorem words30 : True := by
  k_with_none
  (k_with "ite" => (first | (refine ite_pos (by ((try simp only [beq_iff_eq, bne_iff_ne, decide_eq_true_eq, Bool.not_eq_true', decide_eq_false_iff_not, beq_eq_false_iff_ne, ne_eq]); omega)) ?_) | (refine ite_neg (by ((try simp only [beq_iff_eq, bne_iff_ne, decide_eq_true_eq, Bool.not_eq_true', decide_eq_false_iff_not, beq_eq_false_iff_ne, ne_eq]); omega)) ?_)))
  (k_with "binaryOp FloorDiv int int" => ((k_dflt (refine' floordiv_int ?h1_q ?_ (Or.inl (PyProof.noPylong_of_log2 ?h2_q)); (case h1_q => omega); (case h2_q => first | assumption | exact Sz.log (by assumption))))))
  (k_with "binaryOp Mult int int" => ((k_dflt (refine' mul_int ?_ ?hm_q; (case hm_q => exact Sz.ok (by with_reducible assumption) (by with_reducible assumption) (by omega))))))
  (k_with "call ref" => (((with_reducible show wpAny _ _ (call (Value.ref 182) [Value.int _ _, Value.int _ _]) _ _ _); k_dflt (refine' frac_k ?F_q ?N_q ?X_q ?T_q ?A_q ?b_q ?z_q ?k_q ?_; (case F_q => k_asm); (case N_q => k_asm); (case X_q => k_asm); (case T_q => k_asm); (case A_q => exact Room.le (by assumption) (by decide)); (case b_q => first | assumption | omega | (exact Int.mul_pos (by assumption) (by assumption))); (case z_q => first | assumption | exact Sz.mul (by assumption) (by assumption)); (case k_q => omega)); intro _ _ _ _ _ _ _ _ _ _ _ _ _ _ _ _ _ _ _ _ _)))
  (k_with "binaryOp Pow int int" => ((k_dflt (refine' pow_int_small ?h1_q ?h2_q ?h3_q ?_; (case h1_q => omega); (case h2_q => omega); (case h3_q => omega)))))
  (k_with "call ref" => (((with_reducible show wpAny _ _ (call (Value.ref 182) [Value.int _ _]) _ _ _); k_dflt (refine' frac1_k ?F_q ?N_q ?X_q ?T_q ?A_q ?_; (case F_q => k_asm); (case N_q => k_asm); (case X_q => k_asm); (case T_q => k_asm); (case A_q => exact Room.le (by assumption) (by decide))); intro _ _ _ _ _ _ _ _ _ _ _ _ _ _ _)))
  (k_with "eval Name" => ((k_dflt (first | (refine' nmL ?F_q ?e_q ?v_q ?_ ?a_q ?b_q ?d_q; (case F_q => with_reducible assumption); (case e_q => exact rfl); (case v_q => first | with_reducible assumption | ((try dsimp only); first | exact (if_neg (by decide)).trans (by with_reducible assumption) | exact (if_neg (by decide)).trans ((if_neg (by decide)).trans (by with_reducible assumption)) | exact (if_neg (by decide)).trans ((if_neg (by decide)).trans ((if_neg (by decide)).trans (by with_reducible assumption)))) | exact rfl); (case a_q => exact rfl); (case b_q => exact rfl); (case d_q => decide); k_whole) | (refine' nmC ?F_q ?c_q ?o_q ?d_q ?_ ?a_q ?b_q ?g_q; (case F_q => with_reducible assumption); (case a_q => exact rfl); (case b_q => exact rfl); (case c_q => exact rfl); (case o_q => with_reducible assumption); (case d_q => with_reducible assumption); (case g_q => decide); k_whole) | (refine' nameG_K ?F_q ?X_q ?T_q ?e_q ?_ ?g_q ?a_q ?b_q ?d_q; (case F_q => with_reducible assumption); (case X_q => k_asm); (case T_q => k_asm); (case a_q => exact rfl); (case b_q => exact rfl); (case e_q => k_is); (case g_q => exact rfl); (case d_q => decide); k_whole) | (refine' nmB ?F_q ?X_q ?T_q ?e_q ?v_q ?n_q ?_ ?g_q ?h_q ?a_q ?b_q ?d_q; (case F_q => with_reducible assumption); (case X_q => k_asm); (case T_q => k_asm); (case a_q => exact rfl); (case b_q => exact rfl); (case e_q => k_is); (case v_q => boot_fast); (case n_q => decide); (case g_q => exact rfl); (case h_q => exact rfl); (case d_q => decide); k_whole)))))
  (k_with "call ref" => (((with_reducible show wpAny _ _ (call (Value.ref 492) [Value.ref _, Value.int _ _]) _ _ _); k_dflt (refine' liftI ?F_q ?N_q ?X_q ?T_q (cellZ _ _) (fun R hR => cell_code ⟨Frag.In.keeps (by k_asm) (Fr.keep (by k_asm)), _, _, _, _, _, Top.keeps (by k_asm) (Fr.keep (by k_asm))⟩ (Room.le (by assumption) (by decide)) (stays_list (Fr.keep (by with_reducible assumption)) (by with_reducible assumption)) (by with_reducible assumption) (by with_reducible assumption) (by omega) (by omega) hR) ?_; (case F_q => k_asm); (case N_q => k_asm); (case X_q => k_asm); (case T_q => k_asm)); intro _ _ _ _ _ _)))
  (k_with "exec For" => ((with_unfolding_all refine for_at ?_)))
  (k_with "pyIter ref" => (first | (with_reducible refine hold_pyF ?_) | (with_reducible refine hold_pyC ?_)))
  (k_with "call builtin:len" => (((with_reducible show wpAny _ _ (call (Value.builtin "len") [Value.ref _]) _ _ _); k_dflt (refine' len_old ?F_q ?l_q ?f_q ?_; (case F_q => with_reducible assumption); (case l_q => with_reducible assumption); (case f_q => omega)))))
  (k_with "subscriptTail Name Name ref int" => (((with_reducible show wpAny _ _ (subscriptTail _ _ (Value.ref _) (Value.int _ _)) _ _ _); k_dflt (refine' item_at ?l_q ?a_q ?b_q ?x_q ?_ ?s_q; (case l_q => with_reducible assumption); (case x_q => with_reducible assumption); (case a_q => omega); (case b_q => omega); (case s_q => with_unfolding_all rfl)))))
  (k_with "compareOp In int ref" => ((k_dflt (refine' in_list_ints ?l_q ?i_q ?_; (case l_q => with_reducible assumption); (case i_q => with_reducible assumption)))))
  (k_with "call builtin:len" => (((with_reducible show wpAny _ _ (call (Value.builtin "len") [Value.ref _]) _ _ _); k_dflt (refine' len_cur ?l_q ?f_q ?_; (case l_q => with_reducible assumption); (case f_q => omega)))))
  (k_with "exec For Name Call cons nil" => ((with_unfolding_all refine for_at ?_)))
  (k_with "exec For Name Name cons nil" => ((with_unfolding_all refine for_at ?_)))
  (k_with "call ref" => (((with_reducible show wpAny _ _ (call (Value.ref 511) [Value.str (nameAt _) _, Value.int _ _]) _ _ _); k_dflt (refine' liftPair ?F_q ?N_q ?X_q ?T_q (gN (fnAt _) _) (gD (fnAt _) _) (fun R hR => gain_code ⟨Frag.In.keeps (by k_asm) (Fr.keep (by k_asm)), _, _, _, _, _, Top.keeps (by k_asm) (Fr.keep (by k_asm))⟩ (Room.le (by assumption) (by decide)) (by assumption) (by omega) (by omega) hR) ?_; (case F_q => k_asm); (case N_q => k_asm); (case X_q => k_asm); (case T_q => k_asm)); intro _ _ _ _ _ _ _ l9q; replace l9q := allNe_of l9q; simp only [AllNe, and_true] at l9q)))
  (k_with "call ref" => (((with_reducible show wpAny _ _ (call (Value.ref 518) [Value.ref _, Value.ref _]) _ _ _); k_dflt (refine' liftPair ?F_q ?N_q ?X_q ?T_q _ _ (fun R hR => add_code ⟨Frag.In.keeps (by k_asm) (Fr.keep (by k_asm)), _, _, _, _, _, Top.keeps (by k_asm) (Fr.keep (by k_asm))⟩ (Room.le (by assumption) (by decide)) (pairOfNews (by k_asm) (by k_mem)) (pairOfNews (by k_asm) (by k_mem)) (by with_reducible assumption) (by with_reducible assumption) (by with_reducible assumption) (by with_reducible assumption) (by omega) hR) ?_; (case F_q => k_asm); (case N_q => k_asm); (case X_q => k_asm); (case T_q => k_asm)); intro _ _ _ _ _ _ _ l9q; replace l9q := allNe_of l9q; simp only [AllNe, and_true] at l9q)))
  trivial
section
theorem words31 : True := by
  (k_with "eval ListComp Call cons" => ((k_dflt (refine' comp_at _ ?c1_q ?c2_q ?c3_q ?c4_q ?c5_q ?_ ?c6_q; (case c1_q => with_unfolding_all rfl); (case c2_q => decide); (case c3_q => exact rfl); (case c4_q => decide); (case c5_q => exact rfl); (case c6_q => (intro _; exact rfl))))))
  trivial
theorem newsNone {h₀ h : Heap} {L a : Addr} {o : Obj} {news : List (Addr × Obj)} (N : News h₀ L h news) (hm : (a, o) ∈ news) : h₀.get? a = none := (N _ hm).2.2
noncomputable abbrev profD (hs1 hs2 hs3 : Int) (C D V : Addr) (t1 t2 t3 : Tok) : Obj := dictOf [⟨hs1, .str (Str.ofString "candidates") t1, .ref C⟩, ⟨hs2, .str (Str.ofString "cand_names") t2, .ref D⟩, ⟨hs3, .str (Str.ofString "_voters") t3, .ref V⟩] 3
/-- a profile that a call made, no voter in it -/
noncomputable def NewProf (h h' : Heap) (v : Value) (nc : Nat) : Prop :=
  ∃ x dx C D V hs1 hs2 hs3 t1 t2 t3 cv ep, v = .ref x ∧ h.get? x = none ∧ h.get? dx = none ∧ h.get? C = none ∧ h.get? V = none ∧ x ≠ dx ∧ x ≠ C ∧ x ≠ V ∧ dx ≠ C ∧ dx ≠ V ∧ C ≠ V ∧
    h'.get? x = some (instObj 444 dx) ∧ h'.get? dx = some (profD hs1 hs2 hs3 C D V t1 t2 t3) ∧ h'.get? C = some (W.listOf (List.toArray cv) ep) ∧ IntsAre cv (rangeKs 0 nc) ∧ h'.get? V = some (W.listOf #[] 0)
theorem profile_code {prog : Program} {w : World} {A : Around} {s : Shared} {R : Result → Shared → Prop} (G : Gnd w s.heap) (hA : Room A 9) {nc : Nat} {tc : Tok} (h1 : 1 ≤ nc) (h5 : nc ≤ 5)
    (hR : ∀ v s', Done s s' → NewProf s.heap s'.heap v nc → R (.ok (.ret v)) s') :
    codeAny (model prog w) A (.call (.ref 444) ⟨[.int (nc : Int) tc], []⟩) R s := by
  obtain ⟨X, p, loose, mean, mg, mb, T⟩ := G
  w_on
  w_strict (k_dflt (refine' makeC (K := hd.heap_1 w.params) (fI := 335) (binds := fun x => [(Str.ofString "self", .ref x), (Str.ofString "num_cand", .int (nc : Int) tc), (Str.ofString "cand_names", .none)]) X T.nolimit ?m ?i ?f ?o ?c hA ?b ?l ?d (fun x dx L h₁ tk cells F N Y l0 l1 l2 dp un fr gd hA' => ?_) ?c2 ?c3 ?c4; (case m => k_is); (case i => k_is); (case f => k_is); (case o => k_is); (case c => k_is); (case b => (intro x9 s9 X9; first | exact BindsTo.of_eq rfl | exact binds_K X9 rfl (by k_is) rfl rfl rfl)); (case l => (intro x9; exact rfl)); (case d => decide +kernel); (case c2 => exact rfl); (case c3 => exact rfl); (case c4 => exact rfl)))
  dsimp only
  w_strict (k_fold)
  (refine xa_1_2 (CellsAre.one Y) ?_; intro oc hE dc)
  subst hE
  clear Y
  rename News _ _ _ _ => N1
  simp only [List.cons_append, List.nil_append] at N1
  w_strict (k_steps)
  unfold Hold
  rename IsRange _ _ _ _ _ _ _ _ => hr
  rename Fr _ _ _ _ => F2
  rename News _ _ _ _ => N2
  rename IntsAre _ (rangeKs 0 _) => hi
  have ro := range_ok (a := 0) (b := (nc : Int)) (n := nc) ⟨by decide, by decide⟩ (by omega) (by omega)
  refine comp_range_any nc rfl F2 N2 hr ro.1 ro.2 (by omega) ?_ ?_
  · intro C2 c tc2 s₅ m₅ E5 hcm F5 e5
    have N5 := newsNil F5
    obtain ⟨hc0, hc1⟩ := hcm
    have X3 := X.keeps F2.keep
    have T3 := T.keeps F2.keep
    w_strict (k_steps)
    exact keeps_tok _ _
  · clear F2 N2
    intro D h₅ tk₅ ws ep F2 N2 ne nn kk
    have ex := allNe_of ne
    simp only [AllNe, and_true] at ex
    w_strict (k_steps)
    rename Fr _ _ _ _ => F3
    rename News _ _ _ _ => N3
    rename D < _ ∧ _ => q1
    rename L + 1 < _ ∧ x < _ ∧ dx < _ => q2
    (refine an_5 (q1) ?_; intro q10 q11 q12 q13 q14; (try clear q1))
    (refine an_3 (q2) ?_; intro q20 q21 q22; (try clear q2))
    have en : ((nc : Int) - 0).toNat = nc := by omega
    rw [en] at hi
    refine hR _ _ (Done.ofFr F3 rfl) ⟨x, dx, _, _, _, _, _, _, _, _, _, _, _, rfl, newsNone N3 (by k_mem), newsNone N3 (by k_mem), newsNone N3 (.tail _ (.tail _ (.head _))), newsNone N3 (.head _), Nat.ne_of_gt l1, Nat.ne_of_lt q21, Nat.ne_of_lt q13, Nat.ne_of_lt q22, Nat.ne_of_lt q14, Nat.ne_of_lt q11, N3.get (by k_mem), N3.get (by k_mem), N3.get (.tail _ (.tail _ (.head _))), hi, N3.get (.head _)⟩
end
theorem words32 : True := by
  k_with_none
  (k_with "ite" => (first | (refine ite_pos (by ((try simp only [beq_iff_eq, bne_iff_ne, decide_eq_true_eq, Bool.not_eq_true', decide_eq_false_iff_not, beq_eq_false_iff_ne, ne_eq]); omega)) ?_) | (refine ite_neg (by ((try simp only [beq_iff_eq, bne_iff_ne, decide_eq_true_eq, Bool.not_eq_true', decide_eq_false_iff_not, beq_eq_false_iff_ne, ne_eq]); omega)) ?_)))
  (k_with "binaryOp FloorDiv int int" => ((k_dflt (refine' floordiv_int ?h1_q ?_ (Or.inl (PyProof.noPylong_of_log2 ?h2_q)); (case h1_q => omega); (case h2_q => first | assumption | exact Sz.log (by assumption))))))
  (k_with "binaryOp Mult int int" => ((k_dflt (refine' mul_int ?_ ?hm_q; (case hm_q => exact Sz.ok (by with_reducible assumption) (by with_reducible assumption) (by omega))))))
  (k_with "call ref" => (((with_reducible show wpAny _ _ (call (Value.ref 182) [Value.int _ _, Value.int _ _]) _ _ _); k_dflt (refine' frac_k ?F_q ?N_q ?X_q ?T_q ?A_q ?b_q ?z_q ?k_q ?_; (case F_q => k_asm); (case N_q => k_asm); (case X_q => k_asm); (case T_q => k_asm); (case A_q => exact Room.le (by assumption) (by decide)); (case b_q => first | assumption | omega | (exact Int.mul_pos (by assumption) (by assumption))); (case z_q => first | assumption | exact Sz.mul (by assumption) (by assumption)); (case k_q => omega)); intro _ _ _ _ _ _ _ _ _ _ _ _ _ _ _ _ _ _ _ _ _)))
  (k_with "binaryOp Pow int int" => ((k_dflt (refine' pow_int_small ?h1_q ?h2_q ?h3_q ?_; (case h1_q => omega); (case h2_q => omega); (case h3_q => omega)))))
  (k_with "call ref" => (((with_reducible show wpAny _ _ (call (Value.ref 182) [Value.int _ _]) _ _ _); k_dflt (refine' frac1_k ?F_q ?N_q ?X_q ?T_q ?A_q ?_; (case F_q => k_asm); (case N_q => k_asm); (case X_q => k_asm); (case T_q => k_asm); (case A_q => exact Room.le (by assumption) (by decide))); intro _ _ _ _ _ _ _ _ _ _ _ _ _ _ _)))
  (k_with "eval Name" => ((k_dflt (first | (refine' nmL ?F_q ?e_q ?v_q ?_ ?a_q ?b_q ?d_q; (case F_q => with_reducible assumption); (case e_q => exact rfl); (case v_q => first | with_reducible assumption | ((try dsimp only); first | exact (if_neg (by decide)).trans (by with_reducible assumption) | exact (if_neg (by decide)).trans ((if_neg (by decide)).trans (by with_reducible assumption)) | exact (if_neg (by decide)).trans ((if_neg (by decide)).trans ((if_neg (by decide)).trans (by with_reducible assumption)))) | exact rfl); (case a_q => exact rfl); (case b_q => exact rfl); (case d_q => decide); k_whole) | (refine' nmC ?F_q ?c_q ?o_q ?d_q ?_ ?a_q ?b_q ?g_q; (case F_q => with_reducible assumption); (case a_q => exact rfl); (case b_q => exact rfl); (case c_q => exact rfl); (case o_q => with_reducible assumption); (case d_q => with_reducible assumption); (case g_q => decide); k_whole) | (refine' nameG_K ?F_q ?X_q ?T_q ?e_q ?_ ?g_q ?a_q ?b_q ?d_q; (case F_q => with_reducible assumption); (case X_q => k_asm); (case T_q => k_asm); (case a_q => exact rfl); (case b_q => exact rfl); (case e_q => k_is); (case g_q => exact rfl); (case d_q => decide); k_whole) | (refine' nmB ?F_q ?X_q ?T_q ?e_q ?v_q ?n_q ?_ ?g_q ?h_q ?a_q ?b_q ?d_q; (case F_q => with_reducible assumption); (case X_q => k_asm); (case T_q => k_asm); (case a_q => exact rfl); (case b_q => exact rfl); (case e_q => k_is); (case v_q => boot_fast); (case n_q => decide); (case g_q => exact rfl); (case h_q => exact rfl); (case d_q => decide); k_whole)))))
  (k_with "call ref" => (((with_reducible show wpAny _ _ (call (Value.ref 492) [Value.ref _, Value.int _ _]) _ _ _); k_dflt (refine' liftI ?F_q ?N_q ?X_q ?T_q (cellZ _ _) (fun R hR => cell_code ⟨Frag.In.keeps (by k_asm) (Fr.keep (by k_asm)), _, _, _, _, _, Top.keeps (by k_asm) (Fr.keep (by k_asm))⟩ (Room.le (by assumption) (by decide)) (stays_list (Fr.keep (by with_reducible assumption)) (by with_reducible assumption)) (by with_reducible assumption) (by with_reducible assumption) (by omega) (by omega) hR) ?_; (case F_q => k_asm); (case N_q => k_asm); (case X_q => k_asm); (case T_q => k_asm)); intro _ _ _ _ _ _)))
  (k_with "exec For" => ((with_unfolding_all refine for_at ?_)))
  (k_with "pyIter ref" => (first | (with_reducible refine hold_pyF ?_) | (with_reducible refine hold_pyC ?_)))
  (k_with "call builtin:len" => (((with_reducible show wpAny _ _ (call (Value.builtin "len") [Value.ref _]) _ _ _); k_dflt (refine' len_old ?F_q ?l_q ?f_q ?_; (case F_q => with_reducible assumption); (case l_q => with_reducible assumption); (case f_q => omega)))))
  (k_with "subscriptTail Name Name ref int" => (((with_reducible show wpAny _ _ (subscriptTail _ _ (Value.ref _) (Value.int _ _)) _ _ _); k_dflt (refine' item_at ?l_q ?a_q ?b_q ?x_q ?_ ?s_q; (case l_q => with_reducible assumption); (case x_q => with_reducible assumption); (case a_q => omega); (case b_q => omega); (case s_q => with_unfolding_all rfl)))))
  (k_with "compareOp In int ref" => ((k_dflt (refine' in_list_ints ?l_q ?i_q ?_; (case l_q => with_reducible assumption); (case i_q => with_reducible assumption)))))
  (k_with "call builtin:len" => (((with_reducible show wpAny _ _ (call (Value.builtin "len") [Value.ref _]) _ _ _); k_dflt (refine' len_cur ?l_q ?f_q ?_; (case l_q => with_reducible assumption); (case f_q => omega)))))
  (k_with "exec For Name Call cons nil" => ((with_unfolding_all refine for_at ?_)))
  (k_with "exec For Name Name cons nil" => ((with_unfolding_all refine for_at ?_)))
  (k_with "call ref" => (((with_reducible show wpAny _ _ (call (Value.ref 511) [Value.str (nameAt _) _, Value.int _ _]) _ _ _); k_dflt (refine' liftPair ?F_q ?N_q ?X_q ?T_q (gN (fnAt _) _) (gD (fnAt _) _) (fun R hR => gain_code ⟨Frag.In.keeps (by k_asm) (Fr.keep (by k_asm)), _, _, _, _, _, Top.keeps (by k_asm) (Fr.keep (by k_asm))⟩ (Room.le (by assumption) (by decide)) (by assumption) (by omega) (by omega) hR) ?_; (case F_q => k_asm); (case N_q => k_asm); (case X_q => k_asm); (case T_q => k_asm)); intro _ _ _ _ _ _ _ l9q; replace l9q := allNe_of l9q; simp only [AllNe, and_true] at l9q)))
  (k_with "call ref" => (((with_reducible show wpAny _ _ (call (Value.ref 518) [Value.ref _, Value.ref _]) _ _ _); k_dflt (refine' liftPair ?F_q ?N_q ?X_q ?T_q _ _ (fun R hR => add_code ⟨Frag.In.keeps (by k_asm) (Fr.keep (by k_asm)), _, _, _, _, _, Top.keeps (by k_asm) (Fr.keep (by k_asm))⟩ (Room.le (by assumption) (by decide)) (pairOfNews (by k_asm) (by k_mem)) (pairOfNews (by k_asm) (by k_mem)) (by with_reducible assumption) (by with_reducible assumption) (by with_reducible assumption) (by with_reducible assumption) (by omega) hR) ?_; (case F_q => k_asm); (case N_q => k_asm); (case X_q => k_asm); (case T_q => k_asm)); intro _ _ _ _ _ _ _ l9q; replace l9q := allNe_of l9q; simp only [AllNe, and_true] at l9q)))
  trivial
section
/-- profile's fixed part -/
noncomputable def ProfAt (h : Heap) (x dx V : Addr) (nc : Nat) : Prop :=
  ∃ C D hs1 hs2 hs3 t1 t2 t3 cv, h.get? x = some (instObj 444 dx) ∧ h.get? dx = some (profD hs1 hs2 hs3 C D V t1 t2 t3) ∧ h.IsList C (List.toArray cv) ∧ IntsAre cv (rangeKs 0 nc)
theorem ProfAt.keep {h h' : Heap} {x dx V : Addr} {nc : Nat} (P : ProfAt h x dx V nc) (k : ∀ b o, h.get? b = some o → h'.get? b = some o) : ProfAt h' x dx V nc := by
  (refine xa_9_4 (P) ?_; intro C D hs1 hs2 hs3 t1 t2 t3 cv e1 e2 e3 e4; (try clear P))
  exact ⟨C, D, hs1, hs2, hs3, t1, t2, t3, cv, k _ _ e1, k _ _ e2, stays_list k e3, e4⟩
theorem numcand_code {prog : Program} {w : World} {A : Around} {s : Shared} {R : Result → Shared → Prop} (G : Gnd w s.heap) (hA : Room A 3) {x dx V : Addr} {nc : Nat} (P : ProfAt s.heap x dx V nc) (h5 : nc ≤ 5)
    (hR : ∀ t s', Done s s' → R (.ok (.ret (.int (nc : Int) t))) s') :
    codeAny (model prog w) A (.call (.ref 342) ⟨[.ref x], []⟩) R s := by
  obtain ⟨X, p, loose, mean, mg, mb, T⟩ := G
  (refine xa_9_4 (P) ?_; intro C D hs1 hs2 hs3 t1 t2 t3 cv g1 g2 g3 g4; (try clear P))
  have e4 : cv.length = nc := g4.length.trans (rangeKs_length 0 nc)
  w_on
  w_strict (k_dflt (refine' enter (K := hd.heap_1 w.params) (binds := [(Str.ofString "self", .ref x)]) X T.nolimit ?o ?c ?b ?l hA (fun L h₁ F N dp un fr gd hA' => ?_) ?c2 ?c3 ?c4 ?c5; (case o => k_is); (case c => k_is); (case b => first | exact BindsTo.of_eq rfl | exact binds_K X rfl (by k_is) rfl rfl rfl); (case l => exact locs rfl); (case c2 => exact rfl); (case c3 => exact rfl); (case c4 => exact rfl); (case c5 => decide)))
  dsimp only
  w_strict (k_fold)
  w_strict (k_steps)
  rw [e4]
  exact hR _ _ (Done.ofFr (by assumption) rfl)
theorem numcand_k {prog : Program} {w : World} {A : Around} {s : Shared} {h₀ : Heap} {L : Addr} {m mg mb : Str → Option Value} {news : List (Addr × Obj)} {p : Program} {loose : List Str} {mean : ExcName → Option Value} {Q : Value → Shared → Prop} {E : Value → Shared → Prop} (F : Fr h₀ L s.heap m) (N : News h₀ L s.heap news) (X : (hd.heap_1 w.params).In h₀) (T : Top p loose mean mg mb h₀) (hA : Room A 4) {x dx V : Addr} {nc : Nat} (P : ProfAt s.heap x dx V nc) (h5 : nc ≤ 5) {E₂ : Value → Shared → Prop}
    (h : ∀ t h' tk, Fr h₀ L h' m → News h₀ L h' news → Q (.int (nc : Int) t) { s with heap := h', toks := tk }) :
    codeAny (model prog w) A.in1 (.call (.ref 342) ⟨[.ref x], []⟩) (fun r s' => match r with | .ok (.ret v) => wpAny (model prog w) A (handedOut v) Q E s' | .ok _ => False | .error e => E₂ e s') { s with toks := s.toks + 1 } := by
  refine numcand_code (s := { s with toks := s.toks + 1 }) ⟨X.keeps F.keep, p, loose, mean, mg, mb, T.keeps F.keep⟩ hA.in1 (dx := dx) (V := V) P h5 fun t s' D => ?_
  have e := D.is
  rw [e]
  exact handed_on rfl (h t _ _ (F.after D.keep) (newsAfter N D.keep))
theorem voter_k {prog : Program} {w : World} {A : Around} {s : Shared} {h₀ : Heap} {L : Addr} {m mg mb : Str → Option Value} {news : List (Addr × Obj)} {p : Program} {loose : List Str} {mean : ExcName → Option Value} {Q : Value → Shared → Prop} {E : Value → Shared → Prop} {ps : Array Value} {g : Obj → List (Addr × Obj)} {f : Value} {vs : List Value} {kw : List (Str × Value)} {n : Nat} {wt : Int}
    (F : Fr h₀ L s.heap m) (N : News h₀ L s.heap news) (X : (hd.heap_1 w.params).In h₀) (T : Top p loose mean mg mb h₀) (C : CodeHd h₀ 29 25) (U : UpdF 25 (tabObj ps) news g) (ht : TriplesOk ps.toList) (B : AllBare s.gens)
    (Cd : GndP w s → ∀ R : Result → Shared → Prop, (∀ v s', DoneP s s' → NewVoter w s.heap s'.heap v n wt → R (.ok (.ret v)) s') → codeAny (model prog w) A (.call f ⟨vs, kw⟩) R s)
    (h : ∀ x dx S o hs1 hs2 t1 t2 t3 s' ps', Fr h₀ L s'.heap m → News h₀ L s'.heap ((x, instObj 481 dx) :: (dx, voterD hs1 hs2 S wt t1 t2 t3) :: (S, o) :: g (tabObj ps')) → (∀ p ∈ g (tabObj ps'), p.1 ≠ x) → (∀ p ∈ g (tabObj ps'), p.1 ≠ dx) → (∀ p ∈ g (tabObj ps'), p.1 ≠ S) → x ≠ dx → x ≠ S → dx ≠ S → TriplesOk ps'.toList → AllBare s'.gens → s'.os = s.os → SmallSet w o n → Q (.ref x) s') :
    wpAny (model prog w) A (call f vs kw) Q E s := by
  refine liftP F N X T C U ht B (fun v s' => NewVoter w s.heap s'.heap v n wt) (fun G R hR => Cd G R hR) fun v s' ps' F' N' ht' B' os' D hP => ?_
  refine Classical.byContradiction fun hg9 => ?_
  (refine xa_9_11 (hP) ?_; intro x dx S o hs1 hs2 t1 t2 t3 r99 f1 f2 f3 d1 d2 d3 e1 e2 e3 sm; (try clear hP))
  subst r99
  refine hg9 ?_
  clear hg9
  have fresh : ∀ a, s.heap.get? a = none → a ≠ L ∧ h₀.get? a = none ∧ ∀ p ∈ g (tabObj ps'), p.1 ≠ a := fun a ha => by
    refine ⟨fun q => ?_, ?_, fun q hq q2 => ?_⟩
    · (refine xa_3_2 (F.ns) ?_; intro oL _ _ hL _)
      rw [q, hL] at ha; cases ha
    · cases q : h₀.get? a with
      | none => rfl
      | some ob => rw [F.keep _ _ q] at ha; cases ha
    · (refine xa_1_2 (updF_addr U q hq) ?_; intro r hr e)
      have := (N r hr).1
      rw [e, q2, ha] at this; cases this
  (refine an_3 (fresh x f1) ?_; intro x1 x2 x3)
  (refine an_3 (fresh dx f2) ?_; intro y1 y2 y3)
  (refine an_3 (fresh S f3) ?_; intro z1 z2 z3)
  refine h x dx S o hs1 hs2 t1 t2 t3 s' ps' F' (fun q hq => ?_) x3 y3 z3 d1 d2 d3 ht' B' os' sm
  rcases List.mem_cons.mp hq with rfl | hq
  · exact ⟨e1, x1, x2⟩
  rcases List.mem_cons.mp hq with rfl | hq
  · exact ⟨e2, y1, y2⟩
  rcases List.mem_cons.mp hq with rfl | hq
  · exact ⟨e3, z1, z2⟩
  · exact N' q hq
end
section
theorem words33 : True := by
  (k_with "getAttr ref true" => (((with_reducible show wpAny _ _ (getAttr (Value.ref _) (PySem.Str.ofString "num_cand") _) _ _ _); k_dflt (refine' get_prop ?k1_q ?k2_q ?k3_q ?k4_q ?k5_q ?k6_q ?k7_q ?k8_q ?k9_q ?_; (case k1_q => k_asm); (case k2_q => k_asm); (case k3_q => k_inst); (case k4_q => k_is); (case k5_q => k_is); (case k6_q => k_is); (case k7_q => k_is); (case k8_q => k_is); (case k9_q => k_is); k_whole); k_dflt (refine' numcand_k ?F_q ?N_q ?X_q ?T_q ?A_q (ProfAt.keep ?P_q ?K_q) ?h_q ?_; (case F_q => k_asm); (case N_q => k_asm); (case X_q => k_asm); (case T_q => k_asm); (case A_q => exact Room.le (by assumption) (by decide)); (case P_q => with_reducible assumption); (case K_q => exact Fr.keep (by k_asm)); (case h_q => with_reducible assumption)); intro _ _ _ _ _)))
  (k_with "call ref" => (((with_reducible show wpAny _ _ (call (Value.ref 481) [Value.ref _] _) _ _ _); (k_dflt (show wpAny _ _ (call (Value.ref 481) [Value.ref _] [(Str.ofString "weight", Value.int _ _)]) _ _ _)); k_dflt (refine' voter_k ?F_q ?N_q ?X_q ?T_q ?C_q ?U_q ?t_q ?B_q (fun G9 R hR => voter_list_code G9 (Room.le (by assumption) (by decide)) ?l_q ?i_q ?n_q ?w_q hR) ?_; (case F_q => k_asm); (case N_q => k_asm); (case X_q => k_asm); (case T_q => k_asm); (case C_q => k_asm); (case U_q => k_updF); (case t_q => with_reducible assumption); (case B_q => with_reducible assumption); (case l_q => exact stays_list (Fr.keep (by k_asm)) (by with_reducible assumption)); (case i_q => with_reducible assumption); (case n_q => omega); (case w_q => with_reducible assumption)); intro _ _ _ _ _ _ _ _ _ _ _ _ N9q lx9q ly9q lz9q _ _ _ _ _ _ _; (try dsimp only at N9q lx9q ly9q lz9q); replace lx9q := allNe_of lx9q; replace ly9q := allNe_of ly9q; replace lz9q := allNe_of lz9q; simp only [AllNe, and_true] at lx9q ly9q lz9q)))
  (k_with "call ref" => (((with_reducible show wpAny _ _ (call (Value.ref 481) [Value.ref _] _) _ _ _); (k_dflt (show wpAny _ _ (call (Value.ref 481) [Value.ref _] [(Str.ofString "weight", Value.int _ _), (Str.ofString "num_cand", Value.int _ _)]) _ _ _)); k_dflt (refine' voter_k ?F_q ?N_q ?X_q ?T_q ?C_q ?U_q ?t_q ?B_q (fun G9 R hR => voter_set_code G9 (Room.le (by assumption) (by decide)) ?l_q ?i_q ?n_q ?w_q hR) ?_; (case F_q => k_asm); (case N_q => k_asm); (case X_q => k_asm); (case T_q => k_asm); (case C_q => k_asm); (case U_q => k_updF); (case t_q => with_reducible assumption); (case B_q => with_reducible assumption); (case l_q => exact Fr.keep (by k_asm) _ _ (by with_reducible assumption)); (case i_q => with_reducible assumption); (case n_q => with_reducible assumption); (case w_q => with_reducible assumption)); intro _ _ _ _ _ _ _ _ _ _ _ _ N9q lx9q ly9q lz9q _ _ _ _ _ _ _; (try dsimp only at N9q lx9q ly9q lz9q); replace lx9q := allNe_of lx9q; replace ly9q := allNe_of ly9q; replace lz9q := allNe_of lz9q; simp only [AllNe, and_true] at lx9q ly9q lz9q)))
  trivial
section
theorem IsVoter.keep {w : World} {h h' : Heap} {v : Value} {n : Nat} {wt : Int} (x : IsVoter w h v n wt) (k : ∀ b o, h.get? b = some o → h'.get? b = some o) : IsVoter w h' v n wt := by
  (refine xa_9_5 (x) ?_; intro a dx S o hs1 hs2 t1 t2 t3 e h1 h2 h3 h4; (try clear x))
  exact ⟨a, dx, S, o, hs1, hs2, t1, t2, t3, e, k _ _ h1, k _ _ h2, k _ _ h3, h4⟩
theorem ProfAt.hid {h : Heap} {x dx V : Addr} {nc : Nat} {ps : Array Value} (ht : h.get? 25 = some (tabObj ps)) (P : ProfAt h x dx V nc) : ProfAt (Mine.hid h) x dx V nc := by
  (refine xa_9_4 (P) ?_; intro C D hs1 hs2 hs3 t1 t2 t3 cv e1 e2 e3 e4; (try clear P))
  exact ⟨C, D, hs1, hs2, hs3, t1, t2, t3, cv, hid_obj ht e1 nofun, hid_obj ht e2 nofun, hid_list ht e3, e4⟩
theorem unique_code {prog : Program} {w : World} {A : Around} {s : Shared} {R : Result → Shared → Prop} (G : GndP w s) (hA : Room A 14) {x dx V : Addr} {nc : Nat} (P : ProfAt s.heap x dx V nc) (h5 : nc ≤ 5) {v : Value} {n : Nat} {wt : Int} (hv : IsVoter w s.heap v n wt) (hlt : ∀ z ∈ zsOf n, (z : Int) < nc) (hw : 1 ≤ wt)
    (hR : ∀ v s', DoneP s s' → NewVoter w s.heap s'.heap v n wt → R (.ok (.ret v)) s') :
    codeAny (model prog w) A (.call (.ref 364) ⟨[.ref x, v], []⟩) R s := by
  obtain ⟨n90, CH, n92, GB⟩ := G
  obtain ⟨X, p, loose, mean, mg, mb, T⟩ := n90
  (refine xa_1_2 (n92) ?_; intro ps ht hT; (try clear n92))
  have Xs := X.keeps (fun b o e => hid_of e)
  refine Classical.byContradiction fun hg9 => ?_
  (refine xa_9_5 (hv) ?_; intro vx vdx S o hs4 hs5 t4 t5 t6 r99 g5 g6 g7 hs; (try clear hv))
  subst r99
  refine hg9 ?_
  clear hg9
  w_on
  w_strict (k_dflt (refine' enterP (K := hd.heap_1 w.params) (binds := [(Str.ofString "self", .ref x), (Str.ofString "voter", .ref vx)]) ht X T.nolimit ?o ?c ?b ?l hA (fun L h₁ F N l25 dp un fr gd hA' => ?_) ?c2 ?c3 ?c4 ?c5; (case o => k_is); (case c => k_is); (case b => first | exact BindsTo.of_eq rfl | exact binds_K Xs rfl (by k_is) rfl rfl rfl); (case l => exact locs rfl); (case c2 => exact rfl); (case c3 => exact rfl); (case c4 => exact rfl); (case c5 => decide)))
  dsimp only
  clear Xs
  w_strict (k_fold)
  have hP := ProfAt.hid ht P
  (refine xa_9_4 (id hP) ?_; intro C D hs1 hs2 hs3 t1 t2 t3 cv g1 g2 g3 g4)
  replace g5 := hid_obj ht g5 nofun
  replace g6 := hid_obj ht g6 nofun
  replace g7 := hid_obj ht g7 (by obtain ⟨_, _, _, _, _, _, _, _, rfl⟩ := hs; nofun)
  w_strict (k_steps)
  rename Fr _ _ _ _ => F3
  rename News _ _ _ _ => N3
  exact hR _ _ (donePofFr F3 N3 (by k_mem) (by assumption) (by assumption) (by assumption)) ⟨_, _, _, _, _, _, _, _, _, rfl, hid_fresh (newsNone N3 (.head _)) (Ne.symm (by assumption)), hid_fresh (newsNone N3 (.tail _ (.head _))) (Ne.symm (by assumption)), hid_fresh (newsNone N3 (.tail _ (.tail _ (.head _)))) (Ne.symm (by assumption)), by assumption, by assumption, by assumption, N3.get (.head _), N3.get (.tail _ (.head _)), N3.get (.tail _ (.tail _ (.head _))), by assumption⟩
end
end
section
theorem words34 : True := by
  k_with_none
  (k_with "ite" => (first | (refine ite_pos (by ((try simp only [beq_iff_eq, bne_iff_ne, decide_eq_true_eq, Bool.not_eq_true', decide_eq_false_iff_not, beq_eq_false_iff_ne, ne_eq]); omega)) ?_) | (refine ite_neg (by ((try simp only [beq_iff_eq, bne_iff_ne, decide_eq_true_eq, Bool.not_eq_true', decide_eq_false_iff_not, beq_eq_false_iff_ne, ne_eq]); omega)) ?_)))
  (k_with "binaryOp FloorDiv int int" => ((k_dflt (refine' floordiv_int ?h1_q ?_ (Or.inl (PyProof.noPylong_of_log2 ?h2_q)); (case h1_q => omega); (case h2_q => first | assumption | exact Sz.log (by assumption))))))
  (k_with "binaryOp Mult int int" => ((k_dflt (refine' mul_int ?_ ?hm_q; (case hm_q => exact Sz.ok (by with_reducible assumption) (by with_reducible assumption) (by omega))))))
  (k_with "call ref" => (((with_reducible show wpAny _ _ (call (Value.ref 182) [Value.int _ _, Value.int _ _]) _ _ _); k_dflt (refine' frac_k ?F_q ?N_q ?X_q ?T_q ?A_q ?b_q ?z_q ?k_q ?_; (case F_q => k_asm); (case N_q => k_asm); (case X_q => k_asm); (case T_q => k_asm); (case A_q => exact Room.le (by assumption) (by decide)); (case b_q => first | assumption | omega | (exact Int.mul_pos (by assumption) (by assumption))); (case z_q => first | assumption | exact Sz.mul (by assumption) (by assumption)); (case k_q => omega)); intro _ _ _ _ _ _ _ _ _ _ _ _ _ _ _ _ _ _ _ _ _)))
  (k_with "binaryOp Pow int int" => ((k_dflt (refine' pow_int_small ?h1_q ?h2_q ?h3_q ?_; (case h1_q => omega); (case h2_q => omega); (case h3_q => omega)))))
  (k_with "call ref" => (((with_reducible show wpAny _ _ (call (Value.ref 182) [Value.int _ _]) _ _ _); k_dflt (refine' frac1_k ?F_q ?N_q ?X_q ?T_q ?A_q ?_; (case F_q => k_asm); (case N_q => k_asm); (case X_q => k_asm); (case T_q => k_asm); (case A_q => exact Room.le (by assumption) (by decide))); intro _ _ _ _ _ _ _ _ _ _ _ _ _ _ _)))
  (k_with "eval Name" => ((k_dflt (first | (refine' nmL ?F_q ?e_q ?v_q ?_ ?a_q ?b_q ?d_q; (case F_q => with_reducible assumption); (case e_q => exact rfl); (case v_q => first | with_reducible assumption | ((try dsimp only); first | exact (if_neg (by decide)).trans (by with_reducible assumption) | exact (if_neg (by decide)).trans ((if_neg (by decide)).trans (by with_reducible assumption)) | exact (if_neg (by decide)).trans ((if_neg (by decide)).trans ((if_neg (by decide)).trans (by with_reducible assumption)))) | exact rfl); (case a_q => exact rfl); (case b_q => exact rfl); (case d_q => decide); k_whole) | (refine' nmC ?F_q ?c_q ?o_q ?d_q ?_ ?a_q ?b_q ?g_q; (case F_q => with_reducible assumption); (case a_q => exact rfl); (case b_q => exact rfl); (case c_q => exact rfl); (case o_q => with_reducible assumption); (case d_q => with_reducible assumption); (case g_q => decide); k_whole) | (refine' nameG_K ?F_q ?X_q ?T_q ?e_q ?_ ?g_q ?a_q ?b_q ?d_q; (case F_q => with_reducible assumption); (case X_q => k_asm); (case T_q => k_asm); (case a_q => exact rfl); (case b_q => exact rfl); (case e_q => k_is); (case g_q => exact rfl); (case d_q => decide); k_whole) | (refine' nmB ?F_q ?X_q ?T_q ?e_q ?v_q ?n_q ?_ ?g_q ?h_q ?a_q ?b_q ?d_q; (case F_q => with_reducible assumption); (case X_q => k_asm); (case T_q => k_asm); (case a_q => exact rfl); (case b_q => exact rfl); (case e_q => k_is); (case v_q => boot_fast); (case n_q => decide); (case g_q => exact rfl); (case h_q => exact rfl); (case d_q => decide); k_whole)))))
  (k_with "call ref" => (((with_reducible show wpAny _ _ (call (Value.ref 492) [Value.ref _, Value.int _ _]) _ _ _); k_dflt (refine' liftI ?F_q ?N_q ?X_q ?T_q (cellZ _ _) (fun R hR => cell_code ⟨Frag.In.keeps (by k_asm) (Fr.keep (by k_asm)), _, _, _, _, _, Top.keeps (by k_asm) (Fr.keep (by k_asm))⟩ (Room.le (by assumption) (by decide)) (stays_list (Fr.keep (by with_reducible assumption)) (by with_reducible assumption)) (by with_reducible assumption) (by with_reducible assumption) (by omega) (by omega) hR) ?_; (case F_q => k_asm); (case N_q => k_asm); (case X_q => k_asm); (case T_q => k_asm)); intro _ _ _ _ _ _)))
  (k_with "exec For" => ((with_unfolding_all refine for_at ?_)))
  (k_with "pyIter ref" => (first | (with_reducible refine hold_pyF ?_) | (with_reducible refine hold_pyC ?_)))
  (k_with "call builtin:len" => (((with_reducible show wpAny _ _ (call (Value.builtin "len") [Value.ref _]) _ _ _); k_dflt (refine' len_old ?F_q ?l_q ?f_q ?_; (case F_q => with_reducible assumption); (case l_q => with_reducible assumption); (case f_q => omega)))))
  (k_with "subscriptTail Name Name ref int" => (((with_reducible show wpAny _ _ (subscriptTail _ _ (Value.ref _) (Value.int _ _)) _ _ _); k_dflt (refine' item_at ?l_q ?a_q ?b_q ?x_q ?_ ?s_q; (case l_q => with_reducible assumption); (case x_q => with_reducible assumption); (case a_q => omega); (case b_q => omega); (case s_q => with_unfolding_all rfl)))))
  (k_with "compareOp In int ref" => ((k_dflt (refine' in_list_ints ?l_q ?i_q ?_; (case l_q => with_reducible assumption); (case i_q => with_reducible assumption)))))
  (k_with "call builtin:len" => (((with_reducible show wpAny _ _ (call (Value.builtin "len") [Value.ref _]) _ _ _); k_dflt (refine' len_cur ?l_q ?f_q ?_; (case l_q => with_reducible assumption); (case f_q => omega)))))
  (k_with "exec For Name Call cons nil" => ((with_unfolding_all refine for_at ?_)))
  (k_with "exec For Name Name cons nil" => ((with_unfolding_all refine for_at ?_)))
  (k_with "call ref" => (((with_reducible show wpAny _ _ (call (Value.ref 511) [Value.str (nameAt _) _, Value.int _ _]) _ _ _); k_dflt (refine' liftPair ?F_q ?N_q ?X_q ?T_q (gN (fnAt _) _) (gD (fnAt _) _) (fun R hR => gain_code ⟨Frag.In.keeps (by k_asm) (Fr.keep (by k_asm)), _, _, _, _, _, Top.keeps (by k_asm) (Fr.keep (by k_asm))⟩ (Room.le (by assumption) (by decide)) (by assumption) (by omega) (by omega) hR) ?_; (case F_q => k_asm); (case N_q => k_asm); (case X_q => k_asm); (case T_q => k_asm)); intro _ _ _ _ _ _ _ l9q; replace l9q := allNe_of l9q; simp only [AllNe, and_true] at l9q)))
  (k_with "call ref" => (((with_reducible show wpAny _ _ (call (Value.ref 518) [Value.ref _, Value.ref _]) _ _ _); k_dflt (refine' liftPair ?F_q ?N_q ?X_q ?T_q _ _ (fun R hR => add_code ⟨Frag.In.keeps (by k_asm) (Fr.keep (by k_asm)), _, _, _, _, _, Top.keeps (by k_asm) (Fr.keep (by k_asm))⟩ (Room.le (by assumption) (by decide)) (pairOfNews (by k_asm) (by k_mem)) (pairOfNews (by k_asm) (by k_mem)) (by with_reducible assumption) (by with_reducible assumption) (by with_reducible assumption) (by with_reducible assumption) (by omega) hR) ?_; (case F_q => k_asm); (case N_q => k_asm); (case X_q => k_asm); (case T_q => k_asm)); intro _ _ _ _ _ _ _ l9q; replace l9q := allNe_of l9q; simp only [AllNe, and_true] at l9q)))
  (k_with "call ref" => (((with_reducible show wpAny _ _ (call (Value.ref 364) [Value.ref _, Value.ref _]) _ _ _); k_dflt (refine' voter_k ?F_q ?N_q ?X_q ?T_q ?C_q ?U_q ?t_q ?B_q (fun G9 R hR => unique_code G9 (Room.le (by assumption) (by decide)) (ProfAt.keep ?P_q ?K_q) ?h_q ?v_q ?z_q ?w_q hR) ?_; (case F_q => k_asm); (case N_q => k_asm); (case X_q => k_asm); (case T_q => k_asm); (case C_q => k_asm); (case U_q => k_updF); (case t_q => with_reducible assumption); (case B_q => with_reducible assumption); (case P_q => with_reducible assumption); (case K_q => exact Fr.keep (by k_asm)); (case h_q => with_reducible assumption); (case v_q => exact IsVoter.keep (by with_reducible assumption) (Fr.keep (by k_asm))); (case z_q => with_reducible assumption); (case w_q => with_reducible assumption)); intro _ _ _ _ _ _ _ _ _ _ _ _ N9q lx9q ly9q lz9q _ _ _ _ _ _ _; (try dsimp only at N9q lx9q ly9q lz9q); replace lx9q := allNe_of lx9q; replace ly9q := allNe_of ly9q; replace lz9q := allNe_of lz9q; simp only [AllNe, and_true] at lx9q ly9q lz9q)))
  trivial
section
noncomputable abbrev hid2 (h : Heap) (V : Addr) : Heap := hideAll h [25, V]
theorem hid2_of {h : Heap} {V b : Addr} {o : Obj} (e : (hid2 h V).get? b = some o) : h.get? b = some o := of_hideAll _ e
theorem hid2_get {h : Heap} {V b : Addr} {o : Obj} (e : h.get? b = some o) (hb : b ≠ 25) (hV : b ≠ V) : (hid2 h V).get? b = some o := hideAll_get _ e fun q => by
  rcases List.mem_cons.mp q with q | q
  · exact hb q
  · exact hV (List.mem_singleton.mp q)
theorem hid2_obj {h : Heap} {V a : Addr} {o : Obj} {ps vs : Array Value} {ep : Nat} (ht : h.get? 25 = some (tabObj ps)) (hV : h.get? V = some (W.listOf vs ep)) (e : h.get? a = some o) (hc : o.cls ≠ .none) (hl : o.cls ≠ .type "list") : (hid2 h V).get? a = some o :=
  hid2_get e (fun q => by rw [q, ht] at e; cases e; exact hc rfl) fun q => by rw [q, hV] at e; cases e; exact hl rfl
theorem hid2_fresh {h : Heap} {V b : Addr} (e : (hid2 h V).get? b = none) (hb : b ≠ 25) (hV : b ≠ V) : h.get? b = none := by
  cases q : h.get? b with
  | none => rfl
  | some o => rw [hid2_get q hb hV] at e; cases e
theorem enterNA {prog : Program} {w : World} {A : Around} {s : Shared} {K : Frag} {R : Result → Shared → Prop} {g : Heap} {news : List (Addr × Obj)} {name qual : Str} {params : Arguments} {body : List Stmt} {scope : Scope} {dV kV doc pm cdv ct oc : Value} {an od : Option Addr} {osl : Array (Option Value)} {f : Addr} {args : Args} {binds : List (Str × Value)}
    (st : ∀ b o, g.get? b = some o → s.heap.get? b = some o) (hz : g.objs.size ≤ s.heap.objs.size) (N : ∀ p ∈ news, s.heap.get? p.1 = some p.2 ∧ g.get? p.1 = none)
    (X : K.In g) (hlim : g.NoLimit) (ho : K.lookup f = some ⟨oc, od, .func (fnOf name qual params body scope dV kV doc pm an cdv ct), osl⟩) (hcd : codeIn K cdv qual = true) {k : Nat} (hA : Room A (k + 1))
    (hbind : BindsTo s (fnOf name qual params body scope dV kV doc pm an cdv ct) args binds) (hloc : ∀ y ∈ binds, scope.names.lookup y.1 = some .local)
    (h : ∀ L h₁, Fr g L h₁ (fun y => binds.reverse.lookup y) → News g L h₁ news → (∀ p ∈ news, p.1 < L) → AtA k fun A' =>
      wpAny (model prog w) A' (execs body (envOf qual scope L f cdv))
        (fun fl s' => R (.ok (.ret (match fl with | .ret v => v | _ => .none))) s') (fun _ _ => False)
        { s with heap := h₁, toks := s.toks + binds.length })
    (hco : scope.isCoroutine = false) (hgen : scope.isGenerator = false) (hk : scope.kind = .function)
    (hcell : ∀ x ∈ scope.names, x.2 ≠ .cell) : codeAny (model prog w) A (.call (.ref f) args) R s :=
  enterN st hz N X hlim ho hcd hA.lim hbind hloc (fun L h₁ F N l => (h L h₁ F N l).use (hA.deeper _)) hco hgen hk hcell
theorem addv_code {prog : Program} {w : World} {A : Around} {s : Shared} {R : Result → Shared → Prop} {h₀ : Heap} {mg mb : Str → Option Value} {p : Program} {loose : List Str} {mean : ExcName → Option Value} {ps : Array Value}
    (X : (hd.heap_1 w.params).In h₀) (T : Top p loose mean mg mb h₀) (CH : CodeHd h₀ 29 25) (hA : Room A 16) {x dx V : Addr} {nc : Nat} {vs : List Value} {ep : Nat}
    (st : ∀ b o, h₀.get? b = some o → s.heap.get? b = some o) (n25 : h₀.get? 25 = none) (nV : h₀.get? V = none) (ht : s.heap.get? 25 = some (tabObj ps)) (hT : TriplesOk ps.toList) (GB : AllBare s.gens) (hV : s.heap.get? V = some (W.listOf vs.toArray ep))
    {C D : Addr} {hs1 hs2 hs3 : Int} {t1 t2 t3 : Tok} {cv : List Value} {cep : Nat} (g1 : s.heap.get? x = some (instObj 444 dx)) (g2 : s.heap.get? dx = some (profD hs1 hs2 hs3 C D V t1 t2 t3)) (g3 : s.heap.get? C = some (W.listOf cv.toArray cep)) (g4 : IntsAre cv (rangeKs 0 nc)) (hCV : C ≠ V)
    (h5 : nc ≤ 5) (hle : vs.length ≤ 1000) {v : Value} {n : Nat} {wt : Int} (hv : IsVoter w s.heap v n wt) (hlt : ∀ z ∈ zsOf n, (z : Int) < nc) (hw : 1 ≤ wt)
    (hR : ∀ v' s' ep' ps', (∀ b o, b ≠ 25 → b ≠ V → s.heap.get? b = some o → s'.heap.get? b = some o) → s'.heap.get? 25 = some (tabObj ps') → TriplesOk ps'.toList → AllBare s'.gens → s'.os = s.os → s'.heap.get? V = some (W.listOf (vs ++ [v']).toArray ep') → NewVoter w s.heap s'.heap v' n wt → R (.ok (.ret .none)) s') :
    codeAny (model prog w) A (.call (.ref 371) ⟨[.ref x, v], []⟩) R s := by
  refine Classical.byContradiction fun hg9 => ?_
  (refine xa_9_5 (hv) ?_; intro vx vdx S o hs4 hs5 t4 t5 t6 r99 g5 g6 g7 hs; (try clear hv))
  subst r99
  refine hg9 ?_
  clear hg9
  have stg : ∀ b o, h₀.get? b = some o → (hid2 s.heap V).get? b = some o := fun b o e => hid2_get (st b o e) (fun q => by rw [q, n25] at e; cases e) fun q => by rw [q, nV] at e; cases e
  replace X := X.keeps stg
  replace T := T.keeps stg
  replace CH := CH.keeps stg
  have Xs : (hd.heap_1 w.params).In s.heap := X.keeps (fun b o e => hid2_of e)
  have ne25 : @Ne Nat 25 V := fun q => by rw [← q, ht] at hV; cases hV
  have hP : ProfAt (hid2 s.heap V) x dx V nc := ⟨C, D, hs1, hs2, hs3, t1, t2, t3, cv, hid2_obj ht hV g1 nofun nofun, hid2_obj ht hV g2 nofun (show Value.type "dict" ≠ Value.type "list" by decide), ⟨_, hid2_get g3 (fun q => by rw [q, ht] at g3; cases g3) hCV, rfl, _, rfl⟩, g4⟩
  have hv : IsVoter w (hid2 s.heap V) (.ref vx) n wt := ⟨vx, vdx, S, o, hs4, hs5, t4, t5, t6, rfl, hid2_obj ht hV g5 nofun nofun, hid2_obj ht hV g6 nofun (show Value.type "dict" ≠ Value.type "list" by decide), hid2_obj ht hV g7 (by obtain ⟨_, _, _, _, _, _, _, _, rfl⟩ := hs; nofun) (by obtain ⟨_, _, _, _, _, _, _, _, rfl⟩ := hs; exact (show Value.type "set" ≠ Value.type "list" by decide)), hs⟩
  replace g1 := hid2_obj ht hV g1 nofun nofun
  replace g2 := hid2_obj ht hV g2 nofun (show Value.type "dict" ≠ Value.type "list" by decide)
  w_on
  w_strict (k_dflt (refine' enterNA (K := hd.heap_1 w.params) (binds := [(Str.ofString "self", .ref x), (Str.ofString "voter", .ref vx)]) (g := hid2 s.heap V) (news := [(25, tabObj ps), (V, W.listOf vs.toArray ep)]) (fun b o e => hid2_of e) (Nat.le_of_eq (hideAll_size _ _)) ?nw X T.nolimit ?o ?c hA ?b ?l (fun L h₁ F N ll dp un fr gd hA' => ?_) ?c2 ?c3 ?c4 ?c5; (case o => k_is); (case c => k_is); (case b => first | exact BindsTo.of_eq rfl | exact binds_K Xs rfl (by k_is) rfl rfl rfl); (case l => exact locs rfl); (case c2 => exact rfl); (case c3 => exact rfl); (case c4 => exact rfl); (case c5 => decide)))
  case nw =>
    refine fmc (⟨ht, hideAll_none [25, V] (.head _)⟩) ?_
    intro p hp
    · rw [List.mem_singleton.mp hp]; exact ⟨hV, hideAll_none [25, V] (.tail _ (.head _))⟩
  dsimp only
  clear Xs
  w_strict (k_fold)
  w_strict (k_steps)
  rename Fr _ _ _ _ => F3
  rename News _ _ _ _ => N3
  rw [List.push_toArray] at N3
  refine hR _ _ _ _ ?_ (N3.get (by k_mem)) (by assumption) (by assumption) (by assumption) (N3.get (by k_mem)) ⟨_, _, _, _, _, _, _, _, _, rfl, hid2_fresh (newsNone N3 (.head _)) (Ne.symm ?_) (Ne.symm ?_), hid2_fresh (newsNone N3 (.tail _ (.head _))) (Ne.symm ?_) (Ne.symm ?_), hid2_fresh (newsNone N3 (.tail _ (.tail _ (.head _)))) (Ne.symm ?_) (Ne.symm ?_), by assumption, by assumption, by assumption, N3.get (.head _), N3.get (.tail _ (.head _)), N3.get (.tail _ (.tail _ (.head _))), by assumption⟩
  · exact fun b o' q1 q2 e => F3.keep b o' (hid2_get e q1 q2)
  all_goals first | exact And.left (by assumption) | exact And.right (by assumption)
end
end
section
section
variable {prog : Program} {w : World} {A : Around} {s : Shared}
/-- the end of a for's turn, where the generators' table turns too -/
noncomputable def FEndP (h₀ : Heap) (L I : Addr) (oI : Obj) (fix : List (Addr × Obj)) (J : (Str → Option Value) → List (Addr × Obj) → Prop) (s : Shared) (f : Flow) (s₃ : Shared) : Prop :=
  f = .next ∧ s₃.os = s.os ∧ AllBare s₃.gens ∧ ∃ m' news', Fr h₀ L s₃.heap m' ∧ News h₀ L s₃.heap ((I, oI) :: (fix ++ news')) ∧ (∀ p ∈ news', p.1 ≠ I) ∧ J m' news'
theorem for_coreP {h₀ : Heap} {L I : Addr} {m : Str → Option Value} {fix news : List (Addr × Obj)} {target : Expr} {body : List Stmt} {env : Env} {Q : Flow → Shared → Prop} {E : Value → Shared → Prop} {n : Nat} {val : Nat → Value → Prop} {St : Nat → Heap → Prop} {dep : Heap → Prop}
    (W : Iter prog w A I n val St dep) (F : Fr h₀ L s.heap m) (N : News h₀ L s.heap (fix ++ news)) (st : St 0 s.heap) (hL : I ≠ L) (hI : h₀.get? I = none) (hn : ∀ p ∈ fix ++ news, p.1 ≠ I) (hB : AllBare s.gens)
    (hdep : ∀ h, (∀ b o, h₀.get? b = some o → h.get? b = some o) → News h₀ L h fix → dep h) (J : Nat → (Str → Option Value) → List (Addr × Obj) → Prop) (hj : J 0 m news)
    (turn : ∀ i v m₁ news₁ (u : Shared) oI, i < n → val i v → J i m₁ news₁ → u.os = s.os → AllBare u.gens → Fr h₀ L u.heap m₁ → News h₀ L u.heap ((I, oI) :: (fix ++ news₁)) → (∀ p ∈ fix ++ news₁, p.1 ≠ I) →
      wpAny (model prog w) A (assign target env v) (fun _ s₂ => wpAny (model prog w) A (execs body env) (FEndP h₀ L I oI fix (J (i + 1)) s) (fun _ _ => False) s₂) (fun _ _ => False) u)
    (done : ∀ m₁ news₁ (u : Shared), J n m₁ news₁ → u.os = s.os → AllBare u.gens → Fr h₀ L u.heap m₁ → News h₀ L u.heap (fix ++ news₁) → Q .next u)
    (ht : ∀ v, letOwnedTupleGo target (.ref I) v = pure () := by intro _; rfl) : ForAt prog w A target body env Q E (.ref I) s := by
  refine codeAny_forLoop (fun k u => ∃ i m₁ news₁, k = n - i ∧ i ≤ n ∧ u.os = s.os ∧ AllBare u.gens ∧ St i u.heap ∧ Fr h₀ L u.heap m₁ ∧ News h₀ L u.heap (fix ++ news₁) ∧ (∀ p ∈ fix ++ news₁, p.1 ≠ I) ∧ J i m₁ news₁) ?_ n
    ⟨0, m, news, rfl, Nat.zero_le _, rfl, hB, st, F, N, hn, hj⟩ ht
  rintro k u hJ92
  refine Classical.byContradiction fun hg9 => ?_
  (refine xa_3_9 (hJ92) ?_; intro i m₁ news₁ r93 hi ho hb st₁ F₁ N₁ hn₁ hj₁; (try clear hJ92))
  subst r93
  refine hg9 ?_
  clear hg9
  have hd := hdep u.heap F₁.keep (fun p hp => N₁ p (List.mem_append.mpr (.inl hp)))
  by_cases hlt : i < n
  · refine W.next i _ _ _ hlt st₁ hd fun v h' tk' oI hv st' hoI hs => ?_
    have F₂ : Fr h₀ L h' m₁ := ⟨F₁.ns.sameBut hs (Ne.symm hL), fun b o e => (hs.2 b (fun q => by rw [q, hI] at e; cases e)).trans (F₁.keep b o e), F₁.above⟩
    have N₂ : News h₀ L h' ((I, oI) :: (fix ++ news₁)) := fun p hp => by
      rcases List.mem_cons.mp hp with rfl | hp
      · exact ⟨hoI, hL, hI⟩
      · exact ⟨(hs.2 p.1 (hn₁ p hp)).trans (N₁ p hp).1, (N₁ p hp).2⟩
    refine wpAny_mono (turn i v m₁ news₁ { u with heap := h', toks := tk' } oI hlt hv hj₁ ho hb F₂ N₂ hn₁) (fun _ s₂ z => wpAny_mono z (fun f s₃ z => ?_) fun _ _ z => z.elim) fun _ _ z => z.elim
    refine Classical.byContradiction fun hg9 => ?_
    obtain ⟨r90, ho₃, hb₃, m₃, news₃, F₃, N₃, hn₃, hj₃⟩ := z
    subst r90
    refine hg9 ?_
    clear hg9
    refine ⟨n - (i + 1), by omega, i + 1, m₃, news₃, rfl, hlt, ho₃, hb₃, W.at' _ _ _ st' fun o q => ?_, F₃, fun p hp => N₃ p (List.mem_cons_of_mem _ hp), fun p hp => ?_, hj₃⟩
    · rw [hoI] at q
      cases q
      exact (N₃ _ (.head _)).1
    · rcases List.mem_append.mp hp with hp | hp
      · exact hn₁ p (List.mem_append.mpr (.inl hp))
      · exact hn₃ p hp
  · obtain rfl : i = n := by omega
    refine W.done _ _ _ st₁ hd fun h' he => wpAny_execs_nil ?_
    have F₂ : Fr h₀ L h' m₁ := ⟨F₁.ns.extBut he (Ne.symm hL), fun b o e => he b o (fun q => by rw [q, hI] at e; cases e) (F₁.keep b o e), F₁.above⟩
    exact done m₁ news₁ { u with heap := h' } hj₁ ho hb F₂ fun p hp => ⟨he p.1 _ (hn₁ p hp) (N₁ p hp).1, (N₁ p hp).2⟩
theorem for_rangeP {h₀ : Heap} {L r : Addr} {m : Str → Option Value} {fix news : List (Addr × Obj)} {target : Expr} {body : List Stmt} {env : Env} {Q : Flow → Shared → Prop} {E : Value → Shared → Prop} {a b : Int} {t u v : Tok} (n : Nat)
    (hh : A.handled = none) (F : Fr h₀ L s.heap m) (N : News h₀ L s.heap (fix ++ news)) (hB : AllBare s.gens) (hr : IsRange s.heap r a b 1 t u v) (ha : 0 ≤ a ∧ a ≤ 1000) (hb : b = a + n) (hn : n ≤ 1000)
    (J : Nat → (Str → Option Value) → List (Addr × Obj) → Prop) (hj : J 0 m news)
    (turn : ∀ i t m₁ news₁ (u : Shared) I oI, i < n → J i m₁ news₁ → u.os = s.os → AllBare u.gens → Fr h₀ L u.heap m₁ → News h₀ L u.heap ((I, oI) :: (fix ++ news₁)) → (∀ p ∈ fix ++ news₁, p.1 ≠ I) →
      wpAny (model prog w) A (assign target env (.int (a + i) t)) (fun _ s₂ => wpAny (model prog w) A (execs body env) (FEndP h₀ L I oI fix (J (i + 1)) s) (fun _ _ => False) s₂) (fun _ _ => False) u)
    (done : ∀ m₁ news₁ (u : Shared), J n m₁ news₁ → u.os = s.os → AllBare u.gens → Fr h₀ L u.heap m₁ → News h₀ L u.heap (fix ++ news₁) → Q .next u)
    (ht : ∀ I v, letOwnedTupleGo target (.ref I) v = pure () := by intro _ _; rfl) :
    wpAny (model prog w) A (pyIter (.ref r)) (fun it s₂ => ForAt prog w A target body env Q E it s₂) E s := by
  obtain ⟨hz, hz2⟩ := range_ok ha hb hn
  refine wpAny_pyIter_range hr hz ?_
  have W := iter_range (prog := prog) (w := w) hh s.heap.objs.size a 1 n
  refine for_coreP W (F.push _) (newsPush' N _) (by rw [hz2]; simp only [Int.ofNat_zero, Int.zero_mul, Int.add_zero, Int.sub_zero]; exact Heap.get?_push_size _ rfl) (Nat.ne_of_gt F.ns.lt) (next_new F) (fun p hp => Nat.ne_of_lt (Heap.lt_size (N p hp).1)) hB (fun _ _ _ => trivial) J hj
    (fun i v m₁ news₁ u oI hi hv hj ho hb F N hn => ?_) (fun m₁ news₁ u hj ho hb F N => done m₁ news₁ u hj ho hb F N) (ht _)
  obtain ⟨t, rfl⟩ := hv
  rw [Int.mul_one]
  exact turn i t m₁ news₁ u _ oI hi hj ho hb F N hn
end
theorem of_allNe {d : Addr} : ∀ {l : List (Addr × Obj)}, AllNe d l → ∀ p ∈ l, p.1 ≠ d
  | [], _, _, h => nomatch h
  | _ :: _, h, _, .head _ => h.1
  | _ :: _, h, p, .tail _ hp => of_allNe h.2 p hp
/-- voters in a ledger -/
noncomputable def VotersIn (w : World) (imm : List (Addr × Obj)) (vs : List Value) (ms : List Nat) (ws : List Int) : Prop :=
  vs.length = ms.length ∧ ∀ (i m : Nat) (wt : Int), ms[i]? = some m → ws[i]? = some wt → ∃ vx vdx S o hs1 hs2 t1 t2 t3, vs[i]? = some (Value.ref vx) ∧ (vx, instObj 481 vdx) ∈ imm ∧ (vdx, voterD hs1 hs2 S wt t1 t2 t3) ∈ imm ∧ (S, o) ∈ imm ∧ SmallSet w o m
theorem VotersIn.nil (w : World) (ws : List Int) : VotersIn w [] [] [] ws := ⟨rfl, fun i m wt h _ => by cases h⟩
theorem VotersIn.snoc {w : World} {imm imm' : List (Addr × Obj)} {vs : List Value} {ms : List Nat} {ws : List Int} {k : Nat} (V : VotersIn w imm vs (ms.take k) ws) (hk : k < ms.length) {m : Nat} {wt : Int} (em : ms[k]? = some m) (ew : ws[k]? = some wt) (sub : ∀ p ∈ imm, p ∈ imm')
    {vx vdx S : Addr} {o : Obj} {hs1 hs2 : Int} {t1 t2 t3 : Tok} (h1 : (vx, instObj 481 vdx) ∈ imm') (h2 : (vdx, voterD hs1 hs2 S wt t1 t2 t3) ∈ imm') (h3 : (S, o) ∈ imm') (sm : SmallSet w o m) : VotersIn w imm' (vs ++ [.ref vx]) (ms.take (k + 1)) ws := by
  obtain ⟨hl, hv⟩ := V
  have hvl : vs.length = k := by rw [hl, List.length_take]; omega
  refine ⟨by rw [List.length_append, hl, List.length_take, List.length_take]; simp; omega, fun i m' wt' em' ew' => ?_⟩
  by_cases hi : i < k
  · have e1 : (ms.take k)[i]? = some m' := by
      rw [List.getElem?_take_of_lt hi]
      rwa [List.getElem?_take_of_lt (by omega)] at em'
    (refine xa_9_5 (hv i m' wt' e1 ew') ?_; intro a b c d e f g h j q1 q2 q3 q4 q5)
    exact ⟨a, b, c, d, e, f, g, h, j, by rw [List.getElem?_append_left (by omega)]; exact q1, sub _ q2, sub _ q3, sub _ q4, q5⟩
  · have hi2 : i < k + 1 := by
      have := (List.getElem?_eq_some_iff.mp em').1
      rw [List.length_take] at this; omega
    obtain rfl : i = k := by omega
    rw [List.getElem?_take_of_lt (by omega), em] at em'
    rw [ew] at ew'
    cases em'
    cases ew'
    exact ⟨vx, vdx, S, o, hs1, hs2, t1, t2, t3, by rw [← hvl, List.getElem?_append_right (Nat.le_refl _), Nat.sub_self]; rfl, h1, h2, h3, sm⟩
theorem VotersIn.mono {w : World} {imm imm' : List (Addr × Obj)} {vs : List Value} {ms : List Nat} {ws : List Int} (V : VotersIn w imm vs ms ws) (sub : ∀ p ∈ imm, p ∈ imm') : VotersIn w imm' vs ms ws :=
  ⟨V.1, fun i m wt em ew => let ⟨a, b, c, d, e, f, g, h, j, q1, q2, q3, q4, q5⟩ := V.2 i m wt em ew; ⟨a, b, c, d, e, f, g, h, j, q1, sub _ q2, sub _ q3, sub _ q4, q5⟩⟩
/-- a profile in a ledger -/
noncomputable def ProfIn (w : World) (imm : List (Addr × Obj)) (x : Addr) (nc : Nat) (ms : List Nat) (ws : List Int) : Prop :=
  ∃ dx C D V hs1 hs2 hs3 t1 t2 t3 cv cep vs ep, (x, instObj 444 dx) ∈ imm ∧ (dx, profD hs1 hs2 hs3 C D V t1 t2 t3) ∈ imm ∧ (C, W.listOf (List.toArray cv) cep) ∈ imm ∧ IntsAre cv (rangeKs 0 nc) ∧ (V, W.listOf (List.toArray vs) ep) ∈ imm ∧ VotersIn w imm vs ms ws
theorem prof_k {prog : Program} {w : World} {A : Around} {s : Shared} {h₀ : Heap} {L : Addr} {m mg mb : Str → Option Value} {news : List (Addr × Obj)} {p : Program} {loose : List Str} {mean : ExcName → Option Value} {Q : Value → Shared → Prop} {E : Value → Shared → Prop} (F : Fr h₀ L s.heap m) (N : News h₀ L s.heap news) (X : (hd.heap_1 w.params).In h₀) (T : Top p loose mean mg mb h₀) {f : Value} {us : List Value} {kw : List (Str × Value)} {nc : Nat}
    (Cd : ∀ R : Result → Shared → Prop, (∀ v s', Done s s' → NewProf s.heap s'.heap v nc → R (.ok (.ret v)) s') → codeAny (model prog w) A (.call f ⟨us, kw⟩) R s)
    (h : ∀ x dx C D V hs1 hs2 hs3 t1 t2 t3 cv ep h' tk, Fr h₀ L h' m → News h₀ L h' ((x, instObj 444 dx) :: (dx, profD hs1 hs2 hs3 C D V t1 t2 t3) :: (C, W.listOf (List.toArray cv) ep) :: (V, W.listOf #[] 0) :: news) → (∀ p ∈ news, p.1 ≠ x) → (∀ p ∈ news, p.1 ≠ dx) → (∀ p ∈ news, p.1 ≠ C) → (∀ p ∈ news, p.1 ≠ V) →
      @Ne Nat x dx → @Ne Nat x C → @Ne Nat x V → @Ne Nat dx C → @Ne Nat dx V → @Ne Nat C V → IntsAre cv (rangeKs 0 nc) → Q (.ref x) { s with heap := h', toks := tk }) :
    wpAny (model prog w) A (call f us kw) Q E s := by
  refine call_of (Cd _ fun v s' D NP => ?_)
  refine Classical.byContradiction fun hg9 => ?_
  obtain ⟨x, dx, C, D', V, hs1, hs2, hs3, t1, t2, t3, cv, ep, r913, f1, f2, f3, f4, d1, d2, d3, d4, d5, d6, e1, e2, e3, hi, e4⟩ := NP
  subst r913
  refine hg9 ?_
  clear hg9
  have ap : ∀ a, s.heap.get? a = none → ∀ p ∈ news, p.1 ≠ a := fun a ha p hp q => by have := (N p hp).1; rw [q, ha] at this; cases this
  have e := D.is
  dsimp only
  rw [e]
  exact h x dx C D' V hs1 hs2 hs3 t1 t2 t3 cv ep _ _ (F.after D.keep) (newsFresh0 F (newsFresh0 F (newsFresh0 F (newsFresh0 F (newsAfter N D.keep) f4 e4) f3 e3) f2 e2) f1 e1) (ap x f1) (ap dx f2) (ap C f3) (ap V f4) d1 d2 d3 d4 d5 d6 hi
theorem addv_k {prog : Program} {w : World} {A : Around} {s : Shared} {h₀ : Heap} {L : Addr} {m mg mb : Str → Option Value} {news : List (Addr × Obj)} {p : Program} {loose : List Str} {mean : ExcName → Option Value} {Q : Value → Shared → Prop} {E : Value → Shared → Prop} {ps : Array Value}
    (F : Fr h₀ L s.heap m) (N : News h₀ L s.heap news) (X : (hd.heap_1 w.params).In h₀) (T : Top p loose mean mg mb h₀) (CH : CodeHd h₀ 29 25) (hA : Room A 16) {x dx V : Addr} {nc : Nat} {vs : List Value} {ep : Nat}
    (m25 : (25, tabObj ps) ∈ news) (hT : TriplesOk ps.toList) (GB : AllBare s.gens) (mV : (V, W.listOf vs.toArray ep) ∈ news)
    {C D : Addr} {hs1 hs2 hs3 : Int} {t1 t2 t3 : Tok} {cv : List Value} {cep : Nat} (g1 : (x, instObj 444 dx) ∈ news) (g2 : (dx, profD hs1 hs2 hs3 C D V t1 t2 t3) ∈ news) (g3 : (C, W.listOf cv.toArray cep) ∈ news) (g4 : IntsAre cv (rangeKs 0 nc)) (hCV : @Ne Nat C V)
    (h5 : nc ≤ 5) (hle : vs.length ≤ 1000) {vx vdx S : Addr} {o : Obj} {hs4 hs5 : Int} {t4 t5 t6 : Tok} {n : Nat} {wt : Int} (v1 : (vx, instObj 481 vdx) ∈ news) (v2 : (vdx, voterD hs4 hs5 S wt t4 t5 t6) ∈ news) (v3 : (S, o) ∈ news) (sm : SmallSet w o n) (hlt : ∀ z ∈ zsOf n, (z : Int) < nc) (hw : 1 ≤ wt)
    (rest : List (Addr × Obj)) (hr : ∀ q ∈ rest, q ∈ news ∧ q.1 ≠ 25 ∧ q.1 ≠ V)
    (h : ∀ y dy S' o' ks1 ks2 u1 u2 u3 s' ps' ep', Fr h₀ L s'.heap m → News h₀ L s'.heap ((y, instObj 481 dy) :: (dy, voterD ks1 ks2 S' wt u1 u2 u3) :: (S', o') :: (V, W.listOf (vs ++ [Value.ref y]).toArray ep') :: (25, tabObj ps') :: rest) → (∀ q ∈ news, q.1 ≠ y) → (∀ q ∈ news, q.1 ≠ dy) → (∀ q ∈ news, q.1 ≠ S') →
      TriplesOk ps'.toList → AllBare s'.gens → s'.os = s.os → SmallSet w o' n → Q .none s') :
    wpAny (model prog w) A (call (.ref 371) [.ref x, .ref vx]) Q E s := by
  have a25 := N _ m25
  have aV := N _ mV
  refine call_of (addv_code X T CH hA F.keep a25.2.2 aV.2.2 a25.1 hT GB aV.1 (N _ g1).1 (N _ g2).1 (N _ g3).1 g4 hCV h5 hle ⟨vx, vdx, S, o, hs4, hs5, t4, t5, t6, rfl, (N _ v1).1, (N _ v2).1, (N _ v3).1, sm⟩ hlt hw ?_)
  rintro v' s' ep' ps' k e25 hT' GB' hos eV hJ910
  refine Classical.byContradiction fun hg9 => ?_
  (refine xa_9_11 (hJ910) ?_; intro y dy S' o' ks1 ks2 u1 u2 u3 r99 f1 f2 f3 d1 d2 d3 e1 e2 e3 sm'; (try clear hJ910))
  subst r99
  refine hg9 ?_
  clear hg9
  have k0 : ∀ b ob, h₀.get? b = some ob → s'.heap.get? b = some ob := fun b ob e => k b ob (fun q => by rw [q, a25.2.2] at e; cases e) (fun q => by rw [q, aV.2.2] at e; cases e) (F.keep b ob e)
  have F' : Fr h₀ L s'.heap m := ⟨F.ns.at' fun ob e => k L ob (Ne.symm a25.2.1) (Ne.symm aV.2.1) e, k0, F.above⟩
  have ap : ∀ a, s.heap.get? a = none → ∀ q ∈ news, q.1 ≠ a := fun a ha q hq e => by have := (N q hq).1; rw [e, ha] at this; cases this
  have fresh : ∀ a, s.heap.get? a = none → a ≠ L ∧ h₀.get? a = none := fun a ha => by
    refine ⟨fun q => ?_, ?_⟩
    · (refine xa_3_2 (F.ns) ?_; intro oL _ _ hL _)
      rw [q, hL] at ha; cases ha
    · cases q : h₀.get? a with
      | none => rfl
      | some ob => rw [F.keep _ _ q] at ha; cases ha
  refine h y dy S' o' ks1 ks2 u1 u2 u3 s' ps' ep' F' (fun q hq => ?_) (ap y f1) (ap dy f2) (ap S' f3) hT' GB' hos sm'
  rcases List.mem_cons.mp hq with rfl | hq
  · exact ⟨e1, fresh _ f1⟩
  rcases List.mem_cons.mp hq with rfl | hq
  · exact ⟨e2, fresh _ f2⟩
  rcases List.mem_cons.mp hq with rfl | hq
  · exact ⟨e3, fresh _ f3⟩
  rcases List.mem_cons.mp hq with rfl | hq
  · exact ⟨eV, aV.2⟩
  rcases List.mem_cons.mp hq with rfl | hq
  · exact ⟨e25, a25.2⟩
  · (refine an_3 (hr q hq) ?_; intro r1 r2 r3)
    exact ⟨k _ _ r2 r3 (N q r1).1, (N q r1).2⟩
end
section
local macro_rules | `(tactic| k_all) => `(tactic| first | exact List.forall_mem_nil _ | with_reducible assumption | (refine' List.forall_mem_cons.mpr ⟨?a, ?b⟩; (case a => k_ne); (case b => k_all)))
theorem words35 : True := by
  k_with_none
  (k_with "ite" => (first | (refine ite_pos (by ((try simp only [beq_iff_eq, bne_iff_ne, decide_eq_true_eq, Bool.not_eq_true', decide_eq_false_iff_not, beq_eq_false_iff_ne, ne_eq]); omega)) ?_) | (refine ite_neg (by ((try simp only [beq_iff_eq, bne_iff_ne, decide_eq_true_eq, Bool.not_eq_true', decide_eq_false_iff_not, beq_eq_false_iff_ne, ne_eq]); omega)) ?_)))
  (k_with "binaryOp FloorDiv int int" => ((k_dflt (refine' floordiv_int ?h1_q ?_ (Or.inl (PyProof.noPylong_of_log2 ?h2_q)); (case h1_q => omega); (case h2_q => first | assumption | exact Sz.log (by assumption))))))
  (k_with "binaryOp Mult int int" => ((k_dflt (refine' mul_int ?_ ?hm_q; (case hm_q => exact Sz.ok (by with_reducible assumption) (by with_reducible assumption) (by omega))))))
  (k_with "call ref" => (((with_reducible show wpAny _ _ (call (Value.ref 182) [Value.int _ _, Value.int _ _]) _ _ _); k_dflt (refine' frac_k ?F_q ?N_q ?X_q ?T_q ?A_q ?b_q ?z_q ?k_q ?_; (case F_q => k_asm); (case N_q => k_asm); (case X_q => k_asm); (case T_q => k_asm); (case A_q => exact Room.le (by assumption) (by decide)); (case b_q => first | assumption | omega | (exact Int.mul_pos (by assumption) (by assumption))); (case z_q => first | assumption | exact Sz.mul (by assumption) (by assumption)); (case k_q => omega)); intro _ _ _ _ _ _ _ _ _ _ _ _ _ _ _ _ _ _ _ _ _)))
  (k_with "binaryOp Pow int int" => ((k_dflt (refine' pow_int_small ?h1_q ?h2_q ?h3_q ?_; (case h1_q => omega); (case h2_q => omega); (case h3_q => omega)))))
  (k_with "call ref" => (((with_reducible show wpAny _ _ (call (Value.ref 182) [Value.int _ _]) _ _ _); k_dflt (refine' frac1_k ?F_q ?N_q ?X_q ?T_q ?A_q ?_; (case F_q => k_asm); (case N_q => k_asm); (case X_q => k_asm); (case T_q => k_asm); (case A_q => exact Room.le (by assumption) (by decide))); intro _ _ _ _ _ _ _ _ _ _ _ _ _ _ _)))
  (k_with "eval Name" => ((k_dflt (first | (refine' nmL ?F_q ?e_q ?v_q ?_ ?a_q ?b_q ?d_q; (case F_q => with_reducible assumption); (case e_q => exact rfl); (case v_q => first | with_reducible assumption | ((try dsimp only); first | exact (if_neg (by decide)).trans (by with_reducible assumption) | exact (if_neg (by decide)).trans ((if_neg (by decide)).trans (by with_reducible assumption)) | exact (if_neg (by decide)).trans ((if_neg (by decide)).trans ((if_neg (by decide)).trans (by with_reducible assumption)))) | exact rfl); (case a_q => exact rfl); (case b_q => exact rfl); (case d_q => decide); k_whole) | (refine' nmC ?F_q ?c_q ?o_q ?d_q ?_ ?a_q ?b_q ?g_q; (case F_q => with_reducible assumption); (case a_q => exact rfl); (case b_q => exact rfl); (case c_q => exact rfl); (case o_q => with_reducible assumption); (case d_q => with_reducible assumption); (case g_q => decide); k_whole) | (refine' nameG_K ?F_q ?X_q ?T_q ?e_q ?_ ?g_q ?a_q ?b_q ?d_q; (case F_q => with_reducible assumption); (case X_q => k_asm); (case T_q => k_asm); (case a_q => exact rfl); (case b_q => exact rfl); (case e_q => k_is); (case g_q => exact rfl); (case d_q => decide); k_whole) | (refine' nmB ?F_q ?X_q ?T_q ?e_q ?v_q ?n_q ?_ ?g_q ?h_q ?a_q ?b_q ?d_q; (case F_q => with_reducible assumption); (case X_q => k_asm); (case T_q => k_asm); (case a_q => exact rfl); (case b_q => exact rfl); (case e_q => k_is); (case v_q => boot_fast); (case n_q => decide); (case g_q => exact rfl); (case h_q => exact rfl); (case d_q => decide); k_whole)))))
  (k_with "call ref" => (((with_reducible show wpAny _ _ (call (Value.ref 492) [Value.ref _, Value.int _ _]) _ _ _); k_dflt (refine' liftI ?F_q ?N_q ?X_q ?T_q (cellZ _ _) (fun R hR => cell_code ⟨Frag.In.keeps (by k_asm) (Fr.keep (by k_asm)), _, _, _, _, _, Top.keeps (by k_asm) (Fr.keep (by k_asm))⟩ (Room.le (by assumption) (by decide)) (stays_list (Fr.keep (by with_reducible assumption)) (by with_reducible assumption)) (by with_reducible assumption) (by with_reducible assumption) (by omega) (by omega) hR) ?_; (case F_q => k_asm); (case N_q => k_asm); (case X_q => k_asm); (case T_q => k_asm)); intro _ _ _ _ _ _)))
  (k_with "exec For" => ((with_unfolding_all refine for_at ?_)))
  (k_with "pyIter ref" => (first | (with_reducible refine hold_pyF ?_) | (with_reducible refine hold_pyC ?_)))
  (k_with "call builtin:len" => (((with_reducible show wpAny _ _ (call (Value.builtin "len") [Value.ref _]) _ _ _); k_dflt (refine' len_old ?F_q ?l_q ?f_q ?_; (case F_q => with_reducible assumption); (case l_q => with_reducible assumption); (case f_q => omega)))))
  (k_with "subscriptTail Name Name ref int" => (((with_reducible show wpAny _ _ (subscriptTail _ _ (Value.ref _) (Value.int _ _)) _ _ _); k_dflt (refine' item_at ?l_q ?a_q ?b_q ?x_q ?_ ?s_q; (case l_q => with_reducible assumption); (case x_q => with_reducible assumption); (case a_q => omega); (case b_q => omega); (case s_q => with_unfolding_all rfl)))))
  (k_with "compareOp In int ref" => ((k_dflt (refine' in_list_ints ?l_q ?i_q ?_; (case l_q => with_reducible assumption); (case i_q => with_reducible assumption)))))
  (k_with "call builtin:len" => (((with_reducible show wpAny _ _ (call (Value.builtin "len") [Value.ref _]) _ _ _); k_dflt (refine' len_cur ?l_q ?f_q ?_; (case l_q => with_reducible assumption); (case f_q => omega)))))
  (k_with "exec For Name Call cons nil" => ((with_unfolding_all refine for_at ?_)))
  (k_with "exec For Name Name cons nil" => ((with_unfolding_all refine for_at ?_)))
  (k_with "call ref" => (((with_reducible show wpAny _ _ (call (Value.ref 511) [Value.str (nameAt _) _, Value.int _ _]) _ _ _); k_dflt (refine' liftPair ?F_q ?N_q ?X_q ?T_q (gN (fnAt _) _) (gD (fnAt _) _) (fun R hR => gain_code ⟨Frag.In.keeps (by k_asm) (Fr.keep (by k_asm)), _, _, _, _, _, Top.keeps (by k_asm) (Fr.keep (by k_asm))⟩ (Room.le (by assumption) (by decide)) (by assumption) (by omega) (by omega) hR) ?_; (case F_q => k_asm); (case N_q => k_asm); (case X_q => k_asm); (case T_q => k_asm)); intro _ _ _ _ _ _ _ l9q; replace l9q := allNe_of l9q; simp only [AllNe, and_true] at l9q)))
  (k_with "call ref" => (((with_reducible show wpAny _ _ (call (Value.ref 518) [Value.ref _, Value.ref _]) _ _ _); k_dflt (refine' liftPair ?F_q ?N_q ?X_q ?T_q _ _ (fun R hR => add_code ⟨Frag.In.keeps (by k_asm) (Fr.keep (by k_asm)), _, _, _, _, _, Top.keeps (by k_asm) (Fr.keep (by k_asm))⟩ (Room.le (by assumption) (by decide)) (pairOfNews (by k_asm) (by k_mem)) (pairOfNews (by k_asm) (by k_mem)) (by with_reducible assumption) (by with_reducible assumption) (by with_reducible assumption) (by with_reducible assumption) (by omega) hR) ?_; (case F_q => k_asm); (case N_q => k_asm); (case X_q => k_asm); (case T_q => k_asm)); intro _ _ _ _ _ _ _ l9q; replace l9q := allNe_of l9q; simp only [AllNe, and_true] at l9q)))
  (k_with "getAttr ref true" => (((with_reducible show wpAny _ _ (getAttr (Value.ref _) (PySem.Str.ofString "num_cand") _) _ _ _); k_dflt (refine' get_prop ?k1_q ?k2_q ?k3_q ?k4_q ?k5_q ?k6_q ?k7_q ?k8_q ?k9_q ?_; (case k1_q => k_asm); (case k2_q => k_asm); (case k3_q => k_inst); (case k4_q => k_is); (case k5_q => k_is); (case k6_q => k_is); (case k7_q => k_is); (case k8_q => k_is); (case k9_q => k_is); k_whole); k_dflt (refine' numcand_k ?F_q ?N_q ?X_q ?T_q ?A_q (ProfAt.keep ?P_q ?K_q) ?h_q ?_; (case F_q => k_asm); (case N_q => k_asm); (case X_q => k_asm); (case T_q => k_asm); (case A_q => exact Room.le (by assumption) (by decide)); (case P_q => with_reducible assumption); (case K_q => exact Fr.keep (by k_asm)); (case h_q => with_reducible assumption)); intro _ _ _ _ _)))
  (k_with "call ref" => (((with_reducible show wpAny _ _ (call (Value.ref 481) [Value.ref _] _) _ _ _); (k_dflt (show wpAny _ _ (call (Value.ref 481) [Value.ref _] [(Str.ofString "weight", Value.int _ _)]) _ _ _)); k_dflt (refine' voter_k ?F_q ?N_q ?X_q ?T_q ?C_q ?U_q ?t_q ?B_q (fun G9 R hR => voter_list_code G9 (Room.le (by assumption) (by decide)) ?l_q ?i_q ?n_q ?w_q hR) ?_; (case F_q => k_asm); (case N_q => k_asm); (case X_q => k_asm); (case T_q => k_asm); (case C_q => k_asm); (case U_q => k_updF); (case t_q => with_reducible assumption); (case B_q => with_reducible assumption); (case l_q => exact stays_list (Fr.keep (by k_asm)) (by with_reducible assumption)); (case i_q => with_reducible assumption); (case n_q => omega); (case w_q => with_reducible assumption)); intro _ _ _ _ _ _ _ _ _ _ _ _ N9q lx9q ly9q lz9q _ _ _ _ _ _ _; (try dsimp only at N9q lx9q ly9q lz9q); replace lx9q := allNe_of lx9q; replace ly9q := allNe_of ly9q; replace lz9q := allNe_of lz9q; simp only [AllNe, and_true] at lx9q ly9q lz9q)))
  (k_with "call ref" => (((with_reducible show wpAny _ _ (call (Value.ref 481) [Value.ref _] _) _ _ _); (k_dflt (show wpAny _ _ (call (Value.ref 481) [Value.ref _] [(Str.ofString "weight", Value.int _ _), (Str.ofString "num_cand", Value.int _ _)]) _ _ _)); k_dflt (refine' voter_k ?F_q ?N_q ?X_q ?T_q ?C_q ?U_q ?t_q ?B_q (fun G9 R hR => voter_set_code G9 (Room.le (by assumption) (by decide)) ?l_q ?i_q ?n_q ?w_q hR) ?_; (case F_q => k_asm); (case N_q => k_asm); (case X_q => k_asm); (case T_q => k_asm); (case C_q => k_asm); (case U_q => k_updF); (case t_q => with_reducible assumption); (case B_q => with_reducible assumption); (case l_q => exact Fr.keep (by k_asm) _ _ (by with_reducible assumption)); (case i_q => with_reducible assumption); (case n_q => with_reducible assumption); (case w_q => with_reducible assumption)); intro _ _ _ _ _ _ _ _ _ _ _ _ N9q lx9q ly9q lz9q _ _ _ _ _ _ _; (try dsimp only at N9q lx9q ly9q lz9q); replace lx9q := allNe_of lx9q; replace ly9q := allNe_of ly9q; replace lz9q := allNe_of lz9q; simp only [AllNe, and_true] at lx9q ly9q lz9q)))
  (k_with "call ref" => (((with_reducible show wpAny _ _ (call (Value.ref 371) [Value.ref _, Value.ref _]) _ _ _); refine hold ?_)))
  (k_with "call ref" => (((with_reducible show wpAny _ _ (call (Value.ref 444) [Value.int _ _]) _ _ _); refine hold ?_)))
  (k_with "subscriptTail Name Name ref int" => (((with_reducible show wpAny _ _ (subscriptTail _ _ (Value.ref _) (Value.int _ _)) _ _ _); k_dflt (refine' item_at ?l_q ?a_q ?b_q ?x_q ?_ ?s_q; (case l_q => exact stays_list (Fr.keep (by k_asm)) (by with_reducible assumption)); (case x_q => with_reducible assumption); (case a_q => omega); (case b_q => omega); (case s_q => with_unfolding_all rfl)))))
  (k_with "call type:list cons nil" => (((with_reducible show wpAny _ _ (call (Value.type "list") [Value.ref _]) _ _ _); k_dflt (refine' list_copyK ?F_q ?N_q ?l_q ?_ ?z_q; (case F_q => k_asm); (case N_q => k_asm); (case l_q => exact stays_list (Fr.keep (by k_asm)) (by with_reducible assumption)); (case z_q => (rw [sizeLine_eq, List.size_toArray]; omega))); intro _ _ _ _ _ l19q; replace l19q := allLt_of l19q; simp only [AllLt, and_true] at l19q)))
  (k_with "call ref" => (((with_reducible show wpAny _ _ (call (Value.ref 481) [Value.ref _] _) _ _ _); refine hold ?_)))
  trivial
section
theorem law_profile_code {prog : Program} {w : World} {A : Around} {s : Shared} {R : Result → Shared → Prop} (G : GndP w s) (hA : Room A 18) {lb lw : Addr} {bs : List (List Int)} {ms : List Nat} {ws : List Int} {wv : List Value} {nc : Nat} {tc : Tok}
    (hb : BallotsIs s.heap lb bs) (hw : s.heap.IsList lw wv.toArray) (hwi : IntsAre wv ws) (hbm : bs = ms.map intsOf) (hbw : bs.length = ws.length) (hb4 : bs.length ≤ 4) (h1 : 1 ≤ nc) (h5 : nc ≤ 5) (hm : ∀ m ∈ ms, m < 32 ∧ ∀ z ∈ zsOf m, z < nc) (hw1 : ∀ x ∈ ws, 1 ≤ x ∧ x ≤ 1000)
    (hR : ∀ x imm s', DoneP s s' → Made s.heap s'.heap imm → ProfIn w imm x nc ms ws → R (.ok (.ret (.ref x))) s') :
    codeAny (model prog w) A (.call (.ref 504) ⟨[.ref lb, .ref lw, .int (nc : Int) tc], []⟩) R s := by
  obtain ⟨n90, CH, n92, GB⟩ := G
  obtain ⟨X, p, loose, mean, mg, mb, T⟩ := n90
  (refine xa_1_2 (n92) ?_; intro ps ht hT; (try clear n92))
  have Xs := X.keeps (fun b o e => hid_of e)
  (refine xa_1_3 (hb) ?_; intro bv hbl hbn hbi; (try clear hb))
  w_on
  w_strict (k_dflt (refine' enterP (K := hd.heap_1 w.params) (binds := [(Str.ofString "ballots", .ref lb), (Str.ofString "weights", .ref lw), (Str.ofString "count", .int (nc : Int) tc)]) ht X T.nolimit ?o ?c ?b ?l hA (fun L h₁ F N l25 dp un fr gd hA' => ?_) ?c2 ?c3 ?c4 ?c5; (case o => k_is); (case c => k_is); (case b => first | exact BindsTo.of_eq rfl | exact binds_K Xs rfl (by k_is) rfl rfl rfl); (case l => exact locs rfl); (case c2 => exact rfl); (case c3 => exact rfl); (case c4 => exact rfl); (case c5 => decide)))
  dsimp only
  clear Xs
  w_strict (k_fold)
  replace hbl := hid_list ht hbl
  replace hw := hid_list ht hw
  have hlenw := hwi.length
  w_strict (k_steps)
  unfold Hold
  rename Fr _ _ _ _ => F1
  rename News _ _ _ _ => N1
  refine prof_k F1 N1 X T (fun R hR => profile_code ⟨X.keeps F1.keep, _, _, _, _, _, T.keeps F1.keep⟩ (hA'.le (by decide)) h1 h5 hR) ?_
  intro x dx C D V hs1 hs2 hs3 t1 t2 t3 cv cep h' tk' F2 N2 lx ldx lC lV d1 d2 d3 d4 d5 d6 hi
  clear F1 N1
  have n25x : @Ne Nat 25 x := lx _ (.head _)
  have n25dx : @Ne Nat 25 dx := ldx _ (.head _)
  have n25C : @Ne Nat 25 C := lC _ (.head _)
  have n25V : @Ne Nat 25 V := lV _ (.head _)
  clear lx ldx lC lV
  w_strict (k_steps)
  unfold Hold
  rename IsRange _ _ _ _ _ _ _ _ => hr
  rename Fr _ _ _ _ => F1
  rename News _ _ _ _ => N1
  replace N1 : News (hid s.heap) L _ [(V, W.listOf (List.toArray []) 0), (25, tabObj ps), (x, instObj 444 dx), (dx, profD hs1 hs2 hs3 C D V t1 t2 t3), (C, W.listOf cv.toArray cep)] := newsSub N1 (by first | ((try dsimp only [List.cons_append, List.nil_append]); (repeat (refine List.forall_mem_cons.mpr ⟨(by k_mem), ?_⟩)); first | exact List.forall_mem_nil _ | (intro p9 h9; (repeat (first | exact h9 | (refine List.Mem.tail _ ?_))); done)) | ((first | (((try dsimp only [List.cons_append, List.nil_append]); repeat' (first | exact List.forall_mem_nil _ | (refine fmc (by (first | k_mem | ((repeat (first | (with_reducible exact List.Mem.head _) | exact List.mem_append_left _ (by with_reducible assumption) | exact List.mem_append_left _ (List.Mem.head _) | (with_reducible assumption) | (refine List.Mem.tail _ ?_) | (refine List.mem_append_right _ ?_))); done))) ?_) | (refine fma ?_ ?_) | (intro p9 h9; ((repeat (first | exact h9 | exact List.mem_append_left _ h9 | exact List.mem_append_left _ (List.mem_append_left _ h9) | (refine List.Mem.tail _ ?_) | (refine List.mem_append_right _ ?_))); done)))); done) | (intro p9 h9; simp only [List.mem_append, List.mem_cons, List.not_mem_nil, or_false, List.cons_append, List.nil_append] at h9 ⊢; grind))))
  refine for_rangeP (fix := []) bv.length rfl F1 N1 GB hr ⟨by decide, by decide⟩ (by omega) (by omega)
    (fun i m₁ news₁ => E4 fun vs ep ps imm => A8 (news₁ = (V, W.listOf (List.toArray vs) ep) :: (25, tabObj ps) :: (x, instObj 444 dx) :: (dx, profD hs1 hs2 hs3 C D V t1 t2 t3) :: (C, W.listOf cv.toArray cep) :: imm) (TriplesOk ps.toList) (VotersIn w imm vs (ms.take i) ws) ((∀ p ∈ imm, p.1 ≠ 25)) ((∀ p ∈ imm, p.1 ≠ V)) (m₁ (Str.ofString "ballots") = some (.ref lb)) (m₁ (Str.ofString "weights") = some (.ref lw)) (m₁ (Str.ofString "profile") = some (.ref x))) ?_ ?_ ?_
  · exact ⟨[], 0, ps, [], rfl, hT, VotersIn.nil w ws, (fun _ h => nomatch h), (fun _ h => nomatch h), rfl, rfl, rfl⟩
  · clear F1 N1 hr
    rintro i ti m₁ _ u I oI hi' hJ98 hos GB1 F1 N1 hn
    refine Classical.byContradiction fun hg9 => ?_
    obtain ⟨vs, ep, ps₁, imm, r94, hT1, hvi, hm25, hmV, e1, e2, e3⟩ := hJ98
    subst r94
    refine hg9 ?_
    clear hg9
    replace N1 : News (hid s.heap) L u.heap ((I, oI) :: (V, W.listOf (List.toArray vs) ep) :: (25, tabObj ps₁) :: (x, instObj 444 dx) :: (dx, profD hs1 hs2 hs3 C D V t1 t2 t3) :: (C, W.listOf cv.toArray cep) :: imm) := N1
    have hn' := allNe_of hn
    simp only [List.nil_append, AllNe] at hn'
    (refine an_6 (hn') ?_; intro nV n25 nx ndx nC nimm; (try clear hn'))
    have hil : i < bs.length := by omega
    have hiw : i < ws.length := by omega
    have him : i < ms.length := by rw [hbm, List.length_map] at hil; exact hil
    (refine xa_2_3 (hbi i _ (List.getElem?_eq_getElem hil)) ?_; intro T' bw hb1 hb2 hb3)
    have hb3' : IntsAre bw (intsOf ms[i]) := by
      have e : bs[i] = intsOf ms[i] := by simp [hbm]
      rwa [← e]
    have hb1' : bv[((0 : Int) + (i : Nat)).toNat]? = some (.ref T') := by simpa using hb1
    have hbT := hid_list ht hb2
    obtain ⟨tw, hw2⟩ := hwi.get i ws[i] (List.getElem?_eq_getElem hiw)
    have hw2' : wv[((0 : Int) + (i : Nat)).toNat]? = some (.int ws[i] tw) := by simpa using hw2
    have hm' := hm ms[i] (List.getElem_mem him)
    have hm1 := hm'.1
    have hww := (hw1 ws[i] (List.getElem_mem hiw)).1
    have hbl1 := hb3'.length
    have hbl2 := intsOf_len ms[i]
    have hbl3 := zs_le ms[i]
    w_strict (k_steps)
    unfold Hold
    rename Fr _ _ _ _ => F2
    rename News _ _ _ _ => N2
    rename _ < _ ∧ _ => l1
    refine Classical.byContradiction fun hg9 => ?_
    (refine xa_2_3 (headOne N2) ?_; intro D' oD N2 r93 r94)
    subst r93
    subst r94
    refine hg9 ?_
    clear hg9
    k_dflt (show wpAny _ _ (call (Value.ref 481) [Value.ref D'] [(Str.ofString "weight", Value.int ws[i] tw)]) _ _ _)
    refine' voter_k F2 N2 X T CH ?U hT1 GB1 (fun G R hR => voter_list_code G (hA'.le (by decide)) ⟨_, N2.get (.head _), rfl, _, rfl⟩ hb3' hm1 hww hR) ?_
    case U => k_updF
    intro vx vdx S o ks1 ks2 u1 u2 u3 s₂ ps₂ F3 N3 lvx lvdx lS d7 d8 d9 hT2 GB2 hos2 sm
    try dsimp only at N3 lvx lvdx lS
    clear F2 N2
    w_strict (k_steps)
    unfold Hold
    rename Fr _ _ _ _ => F2
    rename News _ _ _ _ => N2
    refine addv_k (ps := ps₂) (V := V) (vs := vs) (ep := ep) F2 N2 X T CH (hA'.le (by decide)) (by k_mem) hT2 GB2 (by k_mem) (by k_mem) (by k_mem) (by k_mem) (by assumption) d6 h5 ?hle (by k_mem) (by k_mem) (by k_mem) sm ?hlt hww ((I, oI) :: (x, instObj 444 dx) :: (dx, profD hs1 hs2 hs3 C D V t1 t2 t3) :: (C, W.listOf cv.toArray cep) :: imm) ?hr ?_
    case hle => have := hvi.1; rw [List.length_take] at this; omega
    case hlt => intro z hz; have := hm'.2 z hz; omega
    case hr =>
      refine fmc (⟨by k_mem, Ne.symm n25, Ne.symm nV⟩) ?_
      refine fmc (⟨by k_mem, Ne.symm n25x, d3⟩) ?_
      refine fmc (⟨by k_mem, Ne.symm n25dx, d5⟩) ?_
      refine fmc (⟨by k_mem, Ne.symm n25C, d6⟩) ?_
      intro q hq
      · exact ⟨.tail _ (.tail _ (.tail _ (.tail _ (.tail _ (.tail _ (.tail _ (.tail _ (.tail _ (.tail _ hq))))))))), hm25 q hq, hmV q hq⟩
    intro y dy S' o' k1 k2 v1 v2 v3 s₃ ps₃ ep₃ F4 N4 ly ldy lS' hT3 GB3 hos3 sm'
    clear F2 N2
    w_strict (k_steps)
    rename Fr _ _ _ _ => F5
    rename News _ _ _ _ => N5
    have y25 : y ≠ 25 := Ne.symm (ly (25, tabObj ps₂) (by k_mem))
    have dy25 : dy ≠ 25 := Ne.symm (ldy (25, tabObj ps₂) (by k_mem))
    have S25 : S' ≠ 25 := Ne.symm (lS' (25, tabObj ps₂) (by k_mem))
    have yV : y ≠ V := Ne.symm (ly (V, W.listOf (List.toArray vs) ep) (by k_mem))
    have dyV : dy ≠ V := Ne.symm (ldy (V, W.listOf (List.toArray vs) ep) (by k_mem))
    have SV : S' ≠ V := Ne.symm (lS' (V, W.listOf (List.toArray vs) ep) (by k_mem))
    have yI : y ≠ I := Ne.symm (ly (I, oI) (by k_mem))
    have dyI : dy ≠ I := Ne.symm (ldy (I, oI) (by k_mem))
    have SI : S' ≠ I := Ne.symm (lS' (I, oI) (by k_mem))
    refine ⟨rfl, ?os, GB3, _, (V, W.listOf (List.toArray (vs ++ [Value.ref y])) ep₃) :: (25, tabObj ps₃) :: (x, instObj 444 dx) :: (dx, profD hs1 hs2 hs3 C D V t1 t2 t3) :: (C, W.listOf cv.toArray cep) :: (y, instObj 481 dy) :: (dy, voterD k1 k2 S' ws[i] v1 v2 v3) :: (S', o') :: imm, F5, newsSub N5 ?sub, ?ne, vs ++ [Value.ref y], ep₃, ps₃, (y, instObj 481 dy) :: (dy, voterD k1 k2 S' ws[i] v1 v2 v3) :: (S', o') :: imm, rfl, hT3, ?vi, ?n25, ?nV, e1, e2, e3⟩
    case os => exact hos3.trans (hos2.trans hos)
    case sub => (first | ((try dsimp only [List.cons_append, List.nil_append]); (repeat (refine List.forall_mem_cons.mpr ⟨(by k_mem), ?_⟩)); first | exact List.forall_mem_nil _ | (intro p9 h9; (repeat (first | exact h9 | (refine List.Mem.tail _ ?_))); done)) | ((first | (((try dsimp only [List.cons_append, List.nil_append]); repeat' (first | exact List.forall_mem_nil _ | (refine fmc (by (first | k_mem | ((repeat (first | (with_reducible exact List.Mem.head _) | exact List.mem_append_left _ (by with_reducible assumption) | exact List.mem_append_left _ (List.Mem.head _) | (with_reducible assumption) | (refine List.Mem.tail _ ?_) | (refine List.mem_append_right _ ?_))); done))) ?_) | (refine fma ?_ ?_) | (intro p9 h9; ((repeat (first | exact h9 | exact List.mem_append_left _ h9 | exact List.mem_append_left _ (List.mem_append_left _ h9) | (refine List.Mem.tail _ ?_) | (refine List.mem_append_right _ ?_))); done)))); done) | (intro p9 h9; simp only [List.mem_append, List.mem_cons, List.not_mem_nil, or_false, List.cons_append, List.nil_append] at h9 ⊢; grind))))
    case vi => exact hvi.snoc him (List.getElem?_eq_getElem him) (List.getElem?_eq_getElem hiw) (fun p hp => .tail _ (.tail _ (.tail _ hp))) (by k_mem) (by k_mem) (by k_mem) sm'
    case n25 =>
      refine fmc (y25) ?_
      refine fmc (dy25) ?_
      refine fmc (S25) ?_
      intro p hp
      · exact hm25 p hp
    case nV =>
      refine fmc (yV) ?_
      refine fmc (dyV) ?_
      refine fmc (SV) ?_
      intro p hp
      · exact hmV p hp
    case ne =>
      refine fmc (nV) ?_
      refine fmc (n25) ?_
      refine fmc (nx) ?_
      refine fmc (ndx) ?_
      refine fmc (nC) ?_
      refine fmc (yI) ?_
      refine fmc (dyI) ?_
      refine fmc (SI) ?_
      intro p hp
      · exact of_allNe nimm p hp
  · clear F1 N1 hr
    rintro m₁ _ u hJ93 hos GB1 F1 N1
    refine Classical.byContradiction fun hg9 => ?_
    obtain ⟨vs, ep, ps₁, imm, r94, hT1, hvi, hm25, hmV, e1, e2, e3⟩ := hJ93
    subst r94
    refine hg9 ?_
    clear hg9
    replace N1 : News (hid s.heap) L u.heap ((V, W.listOf (List.toArray vs) ep) :: (25, tabObj ps₁) :: (x, instObj 444 dx) :: (dx, profD hs1 hs2 hs3 C D V t1 t2 t3) :: (C, W.listOf cv.toArray cep) :: imm) := N1
    have etk : ms.take bv.length = ms := List.take_of_length_le (by rw [hbn, hbm, List.length_map]; exact Nat.le_refl _)
    rw [etk] at hvi
    w_strict (k_steps)
    refine hR x ((V, W.listOf (List.toArray vs) ep) :: (x, instObj 444 dx) :: (dx, profD hs1 hs2 hs3 C D V t1 t2 t3) :: (C, W.listOf cv.toArray cep) :: imm) _ (donePofFr (by assumption) N1 (by k_mem) hT1 GB1 hos) ?_ ⟨dx, C, D, V, hs1, hs2, hs3, t1, t2, t3, cv, cep, vs, ep, by k_mem, by k_mem, by k_mem, by assumption, by k_mem, hvi.mono fun p hp => .tail _ (.tail _ (.tail _ (.tail _ hp)))⟩
    intro p hp
    have sub : p ∈ (V, W.listOf (List.toArray vs) ep) :: (25, tabObj ps₁) :: (x, instObj 444 dx) :: (dx, profD hs1 hs2 hs3 C D V t1 t2 t3) :: (C, W.listOf cv.toArray cep) :: imm := by
      rcases List.mem_cons.mp hp with rfl | hp
      · exact .head _
      · exact .tail _ (.tail _ hp)
    have n25p : p.1 ≠ 25 := by
      rcases List.mem_cons.mp hp with rfl | hp
      · exact Ne.symm n25V
      rcases List.mem_cons.mp hp with rfl | hp
      · exact Ne.symm n25x
      rcases List.mem_cons.mp hp with rfl | hp
      · exact Ne.symm n25dx
      rcases List.mem_cons.mp hp with rfl | hp
      · exact Ne.symm n25C
      · exact hm25 p hp
    exact ⟨hid_fresh (N1 p sub).2.2 n25p, (N1 p sub).1⟩
end
end
section
section
variable {prog : Program} {w : World} {A : Around} {s : Shared} {K : Frag} {R : Result → Shared → Prop}
/-- as AtA, where the frame stack is known -/
noncomputable def AtF (k : Nat) (l : List Env) (P : Around → Prop) : Prop := ∀ dp un gd, Room (mkA dp un (some l) gd) k → P (mkA dp un (some l) gd)
theorem AtF.use {k : Nat} {l : List Env} {P : Around → Prop} (h : AtF k l P) {A : Around} (hA : Room A k) (hf : A.frames = some l) : P A := by
  have e := hA.mk'
  rw [hf] at e
  rw [e]
  exact h _ _ _ (e ▸ hA)
theorem enterPF {ps : Array Value} {name qual : Str} {params : Arguments} {body : List Stmt} {scope : Scope} {dV kV doc pm cdv ct oc : Value} {an od : Option Addr} {osl : Array (Option Value)} {f : Addr} {args : Args} {binds : List (Str × Value)}
    (ht : s.heap.get? 25 = some (tabObj ps)) (X : K.In (hid s.heap)) (hlim : (hid s.heap).NoLimit) (ho : K.lookup f = some ⟨oc, od, .func (fnOf name qual params body scope dV kV doc pm an cdv ct), osl⟩) (hcd : codeIn K cdv qual = true)
    (hbind : BindsTo s (fnOf name qual params body scope dV kV doc pm an cdv ct) args binds) (hkind : (binds.all fun y => scope.names.lookup y.1 == some .local || scope.names.lookup y.1 == some .cell) = true)
    (hnd : ((cellsFrom 0 scope.names []).map (·.1)).Nodup) {k : Nat} (hA : Room A (k + 1)) (hfr : A.frames = some [])
    (h : ∀ L h₁ tk cells, Fr (hid s.heap) L h₁ (bindL (envOfC qual scope L f cdv).kindOf binds fun _ => none) → News (hid s.heap) L h₁ (cells ++ [(25, tabObj ps)]) → CellsAre (bindC (envOfC qual scope L f cdv).kindOf binds fun _ => none) (cellsFrom (L + 1) scope.names []) cells → @LT.lt Nat _ 25 L → AtF k [envOfC qual scope L f cdv] fun A' =>
      wpAny (model prog w) A' (execs body (envOfC qual scope L f cdv))
        (fun fl s' => R (.ok (.ret (match fl with | .ret v => v | _ => .none))) s') (fun _ _ => False)
        { s with heap := h₁, toks := tk })
    (hco : scope.isCoroutine = false) (hgen : scope.isGenerator = false) (hk : scope.kind = .function) : codeAny (model prog w) A (.call (.ref f) args) R s := by
  refine enterCN (g := hid s.heap) (news := [(25, tabObj ps)]) (fun b o e => hid_of e) (Nat.le_of_eq (hideAll_size _ _)) ?_ X hlim ho hcd hA.lim hbind hkind hnd (fun L h₁ tk cells F N Y l => (h L h₁ tk cells F N Y (l _ (.head _))).use (hA.deeper _) (Around.frames_deeper hfr)) hco hgen hk
  intro p hp
  rw [List.mem_singleton.mp hp]
  exact ⟨ht, hid_none _⟩
end
section
variable {prog : Program} {w : World} {A : Around} {s : Shared} {h₀ : Heap} {L : Addr} {m mg mb : Str → Option Value} {news : List (Addr × Obj)} {p : Program} {loose : List Str} {mean : ExcName → Option Value} {Q : Value → Shared → Prop} {E : Value → Shared → Prop}
theorem newsMade {h h' : Heap} {imm : List (Addr × Obj)} (F : Fr h₀ L h m) (N : News h₀ L h' news) (M : Made h h' imm) : News h₀ L h' (news ++ imm) := by
  intro q hq
  rcases List.mem_append.mp hq with hq | hq
  · exact N q hq
  · refine ⟨(M q hq).2, fun z => ?_, ?_⟩
    · (refine xa_3_2 (F.ns) ?_; intro o _ _ e _)
      have := (M q hq).1
      rw [z, e] at this; cases this
    · cases r : h₀.get? q.1 with
      | none => rfl
      | some o => have := (M q hq).1; rw [F.keep _ _ r] at this; cases this
theorem made_apart {h h' : Heap} {imm : List (Addr × Obj)} (N : News h₀ L h news) (M : Made h h' imm) : ∀ q ∈ news, ∀ r ∈ imm, r.1 ≠ q.1 := fun q hq r hr z => by
  have := (M r hr).1
  rw [z, (N q hq).1] at this; cases this
theorem ballots_k (F : Fr h₀ L s.heap m) (N : News h₀ L s.heap news) (X : (hd.heap_1 w.params).In h₀) (T : Top p loose mean mg mb h₀) (hA : Room A 9) {l : Addr} {vs : List Value} {ns : List Int} (hl : h₀.IsList l vs.toArray) (hi : IntsAre vs ns) (hn : ns.length < 2 ^ 62) {nv nc : Nat} {tv tc : Tok} (hv : nv ≤ 4) (hc : nc ≤ 6)
    (h : ∀ lb imm h' tk, Fr h₀ L h' m → News h₀ L h' (news ++ imm) → (∀ q ∈ news, ∀ r ∈ imm, r.1 ≠ q.1) → BallotsIn imm lb ((List.range nv).map (ballotZ ns nc)) → Q (.ref lb) { s with heap := h', toks := tk }) :
    wpAny (model prog w) A (call (.ref 497) [.ref l, .int (nv : Int) tv, .int (nc : Int) tc]) Q E s := by
  refine call_of (ballots_code ⟨X.keeps F.keep, p, loose, mean, mg, mb, T.keeps F.keep⟩ hA (stays_list F.keep hl) hi hn hv hc fun lb imm s' D M BI => ?_)
  have e := D.is
  dsimp only
  rw [e]
  exact h lb imm _ _ (F.after D.keep) (newsMade F (newsAfter N D.keep) M) (made_apart N M) BI
theorem nat_of {z : Int} (h : 0 ≤ z) : ∃ n : Nat, z = (n : Int) := ⟨z.toNat, by omega⟩
end
theorem BallotsIn.is {h : Heap} {imm : List (Addr × Obj)} {l : Addr} {bs : List (List Int)} (B : BallotsIn imm l bs) (M : ∀ p ∈ imm, h.get? p.1 = some p.2) : BallotsIs h l bs := by
  (refine xa_2_3 (B) ?_; intro vs ep m1 hl hb; (try clear B))
  refine ⟨vs, ⟨_, M _ m1, rfl, _, rfl⟩, hl, fun i b e => ?_⟩
  refine Classical.byContradiction fun hg9 => ?_
  obtain ⟨T, o, e1, e2, ws, ep', r96, hi⟩ := hb i b e
  subst r96
  refine hg9 ?_
  clear hg9
  exact ⟨T, ws, e1, ⟨_, M _ e2, rfl, _, rfl⟩, hi⟩
theorem headLst {h₀ h : Heap} {L x : Addr} {ys : List Value} {rest : List (Addr × Obj)} (N : News h₀ L h ((x, LCg.lst ys) :: rest)) : ∃ y zs, News h₀ L h ((y, LCg.lst zs) :: rest) ∧ y = x ∧ zs = ys := ⟨_, _, N, rfl, rfl⟩
theorem BallotsIn.mono {imm imm' : List (Addr × Obj)} {l : Addr} {bs : List (List Int)} (B : BallotsIn imm l bs) (M : ∀ p ∈ imm, p ∈ imm') : BallotsIn imm' l bs := by
  (refine xa_2_3 (B) ?_; intro vs ep m1 hl hb; (try clear B))
  refine ⟨vs, ep, M _ m1, hl, fun i b e => ?_⟩
  (refine xa_2_3 (hb i b e) ?_; intro T o e1 e2 r)
  exact ⟨T, o, e1, M _ e2, r⟩
theorem ProfIn.mono {w : World} {imm imm' : List (Addr × Obj)} {x : Addr} {nc : Nat} {ms : List Nat} {ws : List Int} (P : ProfIn w imm x nc ms ws) (M : ∀ p ∈ imm, p ∈ imm') : ProfIn w imm' x nc ms ws := by
  (refine xa_14_6 (P) ?_; intro dx C D V hs1 hs2 hs3 t1 t2 t3 cv cep vs ep m1 m2 m3 hi m4 hv; (try clear P))
  exact ⟨dx, C, D, V, hs1, hs2, hs3, t1, t2, t3, cv, cep, vs, ep, M _ m1, M _ m2, M _ m3, hi, M _ m4, hv.mono M⟩
end
section
/-- what a run of the voters' generator turns: its frame, its iterator -/
noncomputable def VSince (C I : Addr) (s₀ s : Shared) : Prop := ∃ h tk, s = { s₀ with heap := h, toks := tk } ∧ ∀ b o, b ≠ C → b ≠ I → s₀.heap.get? b = some o → h.get? b = some o
theorem VSince.step {C I : Addr} {s₀ s : Shared} {h : Heap} {tk : Nat} (x : VSince C I s₀ s) (k : ∀ b o, b ≠ C → b ≠ I → s.heap.get? b = some o → h.get? b = some o) : VSince C I s₀ { s with heap := h, toks := tk } := by
  refine Classical.byContradiction fun hg9 => ?_
  (refine xa_2_2 (x) ?_; intro h' tk' r92 hk; (try clear x))
  subst r92
  refine hg9 ?_
  clear hg9
  exact ⟨h, tk, rfl, fun b o b1 b2 e => k b o b1 b2 (hk b o b1 b2 e)⟩
theorem VSince.refl (C I : Addr) (s : Shared) : VSince C I s s := ⟨s.heap, s.toks, rfl, fun _ _ _ _ e => e⟩
noncomputable def vProto (C I V : Addr) (vs : List Value) : Protocol := fun k s₀ v s kap => vs[vs.length - 1 - k]? = some v ∧ VSince C I s₀ s ∧ (∃ oC oI, s.heap.get? C = some oC ∧ s.heap.get? I = some oI) ∧
  ∀ s'' : Shared, (∀ b, b = C ∨ b = I ∨ b = V → ∀ o, s.heap.get? b = some o → s''.heap.get? b = some o) → kap (.send .none) s''
noncomputable def vEnd (C I : Addr) : GenEnd := fun k s₀ r s₁ => r = .ok (.ret .none) ∧ (k = 0 ∧ VSince C I s₀ s₁)
section
variable {prog : Program} {w : World} {A : Around}
theorem seg_vloop {x : Str} {px py yp ep : Pos} {env : Env} {I V C : Addr} {vs : List Value} {kk : Result → Sem Fin} {l : List Value} {c₁ : Code} {p₁ : Pos} {kp : List Value}
    (hh : A.handled = none) (hloc : env.locals = C) (hk : env.scope.kind = .function) (hx : env.kindOf x = some .local) (hco : env.scope.isCoroutine = false) (hi : interactive env = false) (hdbg : (x == ("__debug__" : Str)) = false)
    (hCI : C ≠ I) (hCV : C ≠ V) (hIV : I ≠ V)
    (hend : ∀ s₀ s', VSince C I s₀ s' → Seg (model prog w) A (vEnd C I) (vProto C I V vs) 0 s₀ c₁ (kk (.ok .next)) [] s') :
    ∀ (k i : Nat) (s₀ s : Shared) (m : Str → Option Value), vs.length - i = k → i ≤ vs.length → s.heap.IsListIter I V i → s.heap.IsList V vs.toArray → s.heap.Ns C m → VSince C I s₀ s →
      Seg (model prog w) A (vEnd C I) (vProto C I V vs) k s₀ (.forLoop (.Name x px) (.ref I) [.Expr (.Yield (some (.Name x py)) yp) ep] [] env)
        ((model prog w).den (.forLoop (.Name x px) (.ref I) [.Expr (.Yield (some (.Name x py)) yp) ep] [] env)) [.ret kk none false l c₁ p₁ kp] s := by
  have hh' : (A.over (.forLoop (.Name x px) (.ref I) [.Expr (.Yield (some (.Name x py)) yp) ep] [] env) [.ret kk none false l c₁ p₁ kp]).handled = none := hh
  intro k
  induction k with
  | zero =>
    intro i s₀ s m hki hle hit hl hns hsi
    obtain rfl : i = vs.length := by omega
    show Seg _ A _ _ _ s₀ _ ((forTurn (.Name x px) (.ref I) [.Expr (.Yield (some (.Name x py)) yp) ep] [] env).onRaise (fun x => do noteFrame x env; theTreesLotGoes x)) _ s
    unfold forTurn
    rw [Sem.onRaise_eq_wrap]
    refine seg_bind_wrap (wpAny_standAt ?_)
    refine seg_bind_wrap (wpAny_onRaise (wpAny_pyNext_list_end hh' hit hl (by simp) fun h' he => ?_))
    refine seg_again (c' := .block [] env) rfl ?_
    show Seg _ A _ _ _ s₀ _ (leafOf (.ok .next)) _ _
    exact seg_leaf (.ok .next) (hend _ _ (hsi.step fun b o b1 b2 e => he b o b2 e))
  | succ k ih =>
    intro i s₀ s m hki hle hit hl hns hsi
    have hlt : i < vs.length := by omega
    show Seg _ A _ _ _ s₀ _ ((forTurn (.Name x px) (.ref I) [.Expr (.Yield (some (.Name x py)) yp) ep] [] env).onRaise (fun x => do noteFrame x env; theTreesLotGoes x)) _ s
    unfold forTurn
    rw [Sem.onRaise_eq_wrap]
    refine seg_bind_wrap (wpAny_standAt ?_)
    refine seg_bind_wrap (wpAny_onRaise (wpAny_pyNext_list_item (x := vs[i]) hit hl (by simp [hlt]) fun h₁ hit₁ hs₁ => ?_))
    refine seg_bind_wrap (wpAny_of_eq (rfl : letOwnedTupleGo (.Name x px) (.ref I) vs[i] = pure ()) ?_)
    refine seg_bind_wrap (wpAny_assign_Name (wpAny_storeName_local hx (hloc ▸ hns.sameBut hs₁ hCI) (fun h₂ hn₂ hs₂ => ?_) (by rw [hk]; rfl)))
    rw [hloc] at hn₂ hs₂
    rw [Sem.bind_eq_wrap', Sem.wrap_wrap]
    refine seg_execs_cons ?_
    have e1 : vs[vs.length - 1 - k]? = some vs[i] := by
      have : vs.length - 1 - k = i := by omega
      rw [this]; exact List.getElem?_eq_getElem hlt
    have up : ∀ b o, b ≠ C → b ≠ I → s.heap.get? b = some o → h₂.get? b = some o := fun b o b1 b2 e => hs₂.extBut b o b1 ((hs₁.2 b b2).trans e)
    have hl₂ : h₂.IsList V vs.toArray := hl.at fun o e => up V o (Ne.symm hCV) (Ne.symm hIV) e
    have hit₂ : h₂.IsListIter I V (i + 1) := hit₁.at fun o e => hs₂.extBut I o (Ne.symm hCI) e
    refine seg_Expr_Yield rfl rfl rfl (wpAny_Name (wpAny_loadName_local (v := vs[i]) (m := fun y => if y = x then some vs[i] else m y) hk hx (hloc ▸ hn₂) (by simp) ?_) hdbg) hco hi
    intro kap hkap
    (refine xa_3_2 (id hn₂) ?_; intro oC _ _ hC _)
    (refine xa_1_2 (id hit₂) ?_; intro oI hI _)
    refine ⟨e1, hsi.step up, ⟨oC, oI, hC, hI⟩, fun s'' hal => hkap .none s'' ?_⟩
    show Seg _ A _ _ _ s'' _ _ _ s''
    refine seg_again (c' := .forLoop (.Name x px) (.ref I) [.Expr (.Yield (some (.Name x py)) yp) ep] [] env) rfl ?_
    exact ih (i + 1) s'' s'' _ (by omega) hlt (hit₂.at fun o e => hal I (.inr (.inl rfl)) o e) (hl₂.at fun o e => hal V (.inr (.inr rfl)) o e) (hn₂.at' fun o e => hal C (.inl rfl) o e) (.refl _ _ _)
/-- the generator is woken the first time -/
theorem seg_vstart {x : Str} {px py yp ep pos : Pos} {iter : Expr} {env : Env} {I V C : Addr} {vs : List Value} {m : Str → Option Value}
    (hh : A.handled = none) (hloc : env.locals = C) (hk : env.scope.kind = .function) (hx : env.kindOf x = some .local) (hco : env.scope.isCoroutine = false) (hi : interactive env = false) (hdbg : (x == ("__debug__" : Str)) = false)
    (hCI : C ≠ I) (hCV : C ≠ V) (hIV : I ≠ V) (s : Shared) (hI : s.heap.objs.size = I) (hl : s.heap.IsList V vs.toArray) (hns : s.heap.Ns C m)
    (hiter : ∀ (A' : Around) (E' : Value → Shared → Prop), A'.handled = none → wpAny (model prog w) A' (eval iter env) (fun v s' => v = .ref V ∧ ∃ tk, s' = { s with toks := tk }) E' s) (hs : ∀ v, foldedSetIterable iter env v = pure v) :
    Seg (model prog w) A (vEnd C I) (vProto C I V vs) vs.length s (.func [.For (.Name x px) iter [.Expr (.Yield (some (.Name x py)) yp) ep] [] pos] env)
      ((model prog w).den (.func [.For (.Name x px) iter [.Expr (.Yield (some (.Name x py)) yp) ep] [] pos] env)) [] s := by
  have hh' : (A.over (.func [.For (.Name x px) iter [.Expr (.Yield (some (.Name x py)) yp) ep] [] pos] env) []).handled = none := hh
  refine seg_func ?_
  refine seg_execs_cons ?_
  rw [exec_For]
  refine seg_bind_wrap (wpAny_standAt ?_)
  refine seg_bind_wrap (wpAny_mono (hiter _ _ hh') (fun v s' hv => ?_) fun _ _ e => e)
  refine Classical.byContradiction fun hg9 => ?_
  obtain ⟨r90, tk, r92⟩ := hv
  subst r90
  subst r92
  refine hg9 ?_
  clear hg9
  refine seg_bind_wrap (wpAny_of_eq (hs _) ?_)
  refine seg_bind_wrap (wpAny_standAt ?_)
  refine seg_bind_wrap (wpAny_holding (wpAny_pyIter_list (s := { s with toks := tk }) hl ?_))
  refine seg_call fun p => ?_
  show Seg _ A _ _ _ s _ _ _ _
  subst hI
  refine seg_vloop hh hloc hk hx hco hi hdbg hCI hCV hIV (fun s₀ s' hsi => ?_) vs.length 0 s _ m (Nat.sub_zero _) (Nat.zero_le _) ⟨_, Heap.get?_push_size _ rfl, rfl, rfl⟩ (hl.push _) (hns.push _) ?_
  · show Seg _ A _ _ 0 s₀ _ (leafOf (.ok (.ret .none))) [] s'
    exact seg_end _ ⟨rfl, rfl, hsi⟩
  · exact ⟨_, _, rfl, fun b o _ _ e => Heap.get?_push_of_some _ e⟩
end
end
section
section
variable {prog : Program} {w : World} {A : Around} {s : Shared}
/-- the end of a turn of a for over the voters -/
noncomputable def FEndV (h₀ : Heap) (L I C a : Addr) (oI oC oa : Obj) (J : (Str → Option Value) → List (Addr × Obj) → Prop) (u : Shared) (f : Flow) (s₃ : Shared) : Prop :=
  f = .next ∧ s₃.os = u.os ∧ s₃.gens = u.gens ∧ ∃ m' news', Fr h₀ L s₃.heap m' ∧ News h₀ L s₃.heap ((I, oI) :: (C, oC) :: (a, oa) :: news') ∧ (∀ p ∈ news', p.1 ≠ I ∧ p.1 ≠ C ∧ p.1 ≠ a) ∧ J m' news'
theorem for_gen {h₀ : Heap} {L C a V : Addr} {g : Nat} {m : Str → Option Value} {news : List (Addr × Obj)} {target : Expr} {body : List Stmt} {env : Env} {Q : Flow → Shared → Prop} {E : Value → Shared → Prop} {vs : List Value} {I : Addr}
    (hh : A.handled = none) (hroom : A.depth < recursionLimit) (hlim : h₀.NoLimit) (F : Fr h₀ L s.heap m) (N : News h₀ L s.heap news) (hg : s.heap.IsGen a g) (B : AllBare s.gens) (hgs : ∃ gs, s.gens[g]? = some gs ∧ gs.Goes (model prog w) A.in1 (vEnd C I) (vProto C I V vs) vs.length (.send .none) (s.setGen g .running))
    (hL : C ≠ L ∧ a ≠ L ∧ I ≠ L) (h0 : h₀.get? C = none ∧ h₀.get? a = none ∧ h₀.get? I = none) (hd : C ≠ a ∧ C ≠ I ∧ a ≠ I) (hn : ∀ p ∈ news, p.1 ≠ I ∧ p.1 ≠ C ∧ p.1 ≠ a) (hV : h₀.IsList V vs.toArray)
    (J : Nat → (Str → Option Value) → List (Addr × Obj) → Prop) (hj : J 0 m news)
    (turn : ∀ i v m₁ news₁ (u : Shared) oI oC oa, vs[i]? = some v → J i m₁ news₁ → u.os = s.os → Fr h₀ L u.heap m₁ → News h₀ L u.heap ((I, oI) :: (C, oC) :: (a, oa) :: news₁) → (∀ p ∈ news₁, p.1 ≠ I ∧ p.1 ≠ C ∧ p.1 ≠ a) →
      wpAny (model prog w) A (assign target env v) (fun _ s₂ => wpAny (model prog w) A (execs body env) (FEndV h₀ L I C a oI oC oa (J (i + 1)) u) (fun _ _ => False) s₂) (fun _ _ => False) u)
    (done : ∀ m₁ news₁ (u : Shared), J vs.length m₁ news₁ → u.os = s.os → AllBare u.gens → Fr h₀ L u.heap m₁ → News h₀ L u.heap news₁ → Q .next u)
    (ht : ∀ v, letOwnedTupleGo target (.ref a) v = pure () := by intro _; rfl) : ForAt prog w A target body env Q E (.ref a) s := by
  (refine an_3 (hL) ?_; intro hCL haL hIL; (try clear hL))
  (refine an_3 (h0) ?_; intro nC na nI; (try clear h0))
  (refine an_3 (hd) ?_; intro dCa dCI daI; (try clear hd))
  (refine xa_1_2 (id hV) ?_; intro oV hoV _)
  refine codeAny_forLoop (fun k u => ∃ i m₁ news₁, k = vs.length - i ∧ i ≤ vs.length ∧ u.os = s.os ∧ GenOnly g s.gens u.gens ∧ u.heap.IsGen a g ∧ (∃ gs, u.gens[g]? = some gs ∧ gs.Goes (model prog w) A.in1 (vEnd C I) (vProto C I V vs) (vs.length - i) (.send .none) (u.setGen g .running)) ∧
      Fr h₀ L u.heap m₁ ∧ News h₀ L u.heap news₁ ∧ (∀ p ∈ news₁, p.1 ≠ I ∧ p.1 ≠ C ∧ p.1 ≠ a) ∧ J i m₁ news₁) ?_ vs.length
    ⟨0, m, news, rfl, Nat.zero_le _, rfl, ⟨rfl, fun _ _ => rfl⟩, hg, hgs, F, N, hn, hj⟩ ht
  rintro k u hJ92
  refine Classical.byContradiction fun hg9 => ?_
  (refine xa_3_10 (hJ92) ?_; intro i m₁ news₁ r93 hi ho hgo hg₁ n98 F₁ N₁ hn₁ hj₁; (try clear hJ92))
  subst r93
  (refine xa_1_2 (n98) ?_; intro gs hgs₁ hgoes; (try clear n98))
  refine hg9 ?_
  clear hg9
  have old : ∀ b o, h₀.get? b = some o → b ≠ C ∧ b ≠ I := fun b o e => ⟨fun q => (by rw [q, nC] at e; cases e), fun q => (by rw [q, nI] at e; cases e)⟩
  have hl : u.heap.NoLimit := hlim.keeps F₁.keep
  by_cases hlt : i < vs.length
  · obtain ⟨mm, hm⟩ : ∃ mm, vs.length - i = mm + 1 := ⟨vs.length - i - 1, by omega⟩
    rw [hm] at hgoes
    refine wpAny_pyNext_gen (P := fun k s₀ s₁ => k = 0 ∧ VSince C I s₀ s₁) hh hl hroom hg₁ hgs₁ hgoes (fun v s₁ gs' hv => ?_) (fun s₁ hp => absurd hp.1 (Nat.succ_ne_zero mm))
    (refine an_4 (hv) ?_; intro hvi n91 n92 hkap; (try clear hv))
    refine Classical.byContradiction fun hg9 => ?_
    (refine xa_2_2 (n91) ?_; intro h tk r92 hk; (try clear n91))
    subst r92
    refine hg9 ?_
    clear hg9
    (refine xa_2_2 (n92) ?_; intro oC oI hoC hoI; (try clear n92))
    have hvi' : vs[i]? = some v := by
      have e : vs.length - 1 - (mm + 1 - 1) = i := by omega
      rwa [e] at hvi
    have F₂ : Fr h₀ L h m₁ := ⟨F₁.ns.at' fun o e => hk L o (Ne.symm hCL) (Ne.symm hIL) e, fun b o e => hk b o (old b o e).1 (old b o e).2 (F₁.keep b o e), F₁.above⟩
    (refine xa_3_2 (id hg₁) ?_; intro oa nm qn hoa ra)
    have hoa₂ : h.get? a = some oa := hk a oa (Ne.symm dCa) daI hoa
    have N₂ : News h₀ L h ((I, oI) :: (C, oC) :: (a, oa) :: news₁) := fun p hp => by
      rcases List.mem_cons.mp hp with rfl | hp
      · exact ⟨hoI, hIL, nI⟩
      rcases List.mem_cons.mp hp with rfl | hp
      · exact ⟨hoC, hCL, nC⟩
      rcases List.mem_cons.mp hp with rfl | hp
      · exact ⟨hoa₂, haL, na⟩
      · exact ⟨hk _ _ (hn₁ p hp).2.1 (hn₁ p hp).1 (N₁ p hp).1, (N₁ p hp).2⟩
    refine wpAny_mono (turn i v m₁ news₁ _ oI oC oa hvi' hj₁ ho F₂ N₂ hn₁) (fun _ s₂ z => wpAny_mono z (fun f s₃ z => ?_) fun _ _ z => z.elim) fun _ _ z => z.elim
    refine Classical.byContradiction fun hg9 => ?_
    obtain ⟨r90, ho₃, hg₃, m₃, news₃, F₃, N₃, hn₃, hj₃⟩ := z
    subst r90
    refine hg9 ?_
    clear hg9
    have hself : (({ (u.setGen g .running) with heap := h, toks := tk } : Shared).setGen g gs').gens[g]? = some gs' := setGen_self (gs := .running) (setGen_self hgs₁)
    refine ⟨vs.length - (i + 1), by omega, i + 1, m₃, news₃, rfl, hlt, ho₃.trans ho, ?_, ⟨oa, nm, qn, (N₃ _ (.tail _ (.tail _ (.head _)))).1, ra⟩, ⟨gs', by rw [hg₃]; exact hself, ?_⟩, F₃, fun p hp => N₃ p (.tail _ (.tail _ (.tail _ hp))), hn₃, hj₃⟩
    · rw [hg₃]
      exact (hgo.trans (GenOnly.setGen u g .running)).trans (GenOnly.setGen _ g gs')
    · have e : vs.length - (i + 1) = mm := by omega
      rw [e]
      refine hkap _ fun b hb o e => ?_
      rcases hb with rfl | rfl | rfl
      · have := (N₃ _ (.tail _ (.head _))).1
        dsimp only at this e
        rw [hoC] at e; cases e
        exact this
      · have := (N₃ _ (.head _)).1
        dsimp only at this e
        rw [hoI] at e; cases e
        exact this
      · have q := F₂.keep _ _ hoV
        dsimp only at e
        rw [q] at e; cases e
        exact F₃.keep _ _ hoV
  · obtain rfl : i = vs.length := by omega
    rw [Nat.sub_self] at hgoes
    refine wpAny_pyNext_gen (P := fun k s₀ s₁ => k = 0 ∧ VSince C I s₀ s₁) hh hl hroom hg₁ hgs₁ hgoes (fun v s₁ gs' hv => ?_) (fun s₁ hp h' hk' => wpAny_execs_nil ?_)
    · (refine an_4 (hv) ?_; intro _ _ _ hkap; (try clear hv))
      exact (hkap s₁ fun _ _ _ e => e).elim
    · refine Classical.byContradiction fun hg9 => ?_
      obtain ⟨_, h, tk, r93, hk⟩ := hp
      subst r93
      refine hg9 ?_
      clear hg9
      have F₂ : Fr h₀ L h' m₁ := ⟨F₁.ns.at' fun o e => hk' L o (hk L o (Ne.symm hCL) (Ne.symm hIL) e), fun b o e => hk' b o (hk b o (old b o e).1 (old b o e).2 (F₁.keep b o e)), F₁.above⟩
      refine done m₁ news₁ _ hj₁ ho ?_ F₂ fun p hp => ⟨hk' _ _ (hk _ _ (hn₁ p hp).2.1 (hn₁ p hp).1 (N₁ p hp).1), (N₁ p hp).2⟩
      have G : GenOnlyQ g s.gens (({ (u.setGen g .running) with heap := h, toks := tk } : Shared).setGen g .finished).gens := GenOnlyQ.of ((hgo.trans (GenOnly.setGen u g .running)).trans (GenOnly.setGen _ g .finished)) (setGen_self (gs := .running) (setGen_self hgs₁)) rfl
      exact G.bare B
end
end
section
section
variable {prog : Program} {w : World} {A : Around} {s : Shared} {K : Frag} {E : Value → Shared → Prop}
/-- iter(x), where the class' __iter__ is a generator function -/
theorem iter_call {h₀ : Heap} {L x Cl f : Addr} {ox : Obj} {od' : Option Obj} {m : Str → Option Value} {Q : Value → Shared → Prop} {name qual : Str} {params : Arguments} {body : List Stmt} {scope : Scope} {dV kV doc pm cdv ct oc : Value} {an od : Option Addr} {osl : Array (Option Value)} {binds : List (Str × Value)}
    (F : Fr h₀ L s.heap m) (X : K.In h₀) (hlim : h₀.NoLimit) (I : InstAt s.heap x ox Cl od') (hs : findIn K (.ref Cl) "__iter__" = some (some (.ref f))) (hf : isFn K (.ref f) = true)
    (ho : K.lookup f = some ⟨oc, od, .func (fnOf name qual params body scope dV kV doc pm an cdv ct), osl⟩) (hcd : codeIn K cdv qual = true) (hroom : A.depth < recursionLimit)
    (hbind : BindsTo s (fnOf name qual params body scope dV kV doc pm an cdv ct) ⟨[.ref x], []⟩ binds) (hloc : ∀ y ∈ binds, scope.names.lookup y.1 = some .local)
    (h : ∀ h₂ tk, h₂.Ns s.heap.objs.size (fun y => binds.reverse.lookup y) → (∀ b o, s.heap.get? b = some o → h₂.get? b = some o) → h₂.objs.size = s.heap.objs.size + 2 → h₂.IsGen (s.heap.objs.size + 1) s.gens.size →
      Q (.ref (s.heap.objs.size + 1)) { s with gens := s.gens.push (.fresh (.func body (envOf qual scope s.heap.objs.size f cdv))), toks := tk, heap := h₂ })
    (hco : scope.isCoroutine = false) (hgen : scope.isGenerator = true) (hk : scope.kind = .function) (hcell : ∀ x ∈ scope.names, x.2 ≠ .cell) :
    wpAny (model prog w) A (pyIter (.ref x)) Q E s := by
  have Xs := X.keeps F.keep
  refine owit_iter F X I hs hf (call_of (codeAny_call_generator hroom (Xs _ _ ho) rfl hco hgen rfl (codeRec_of Xs hcd) (hbind _ _ _ _ (wpAny_newFunctionEnv hcell hloc (fun h₁ hns hs₁ => ⟨?_, ?_⟩) hk))))
  · have k1 : ∀ b o, s.heap.get? b = some o → h₁.get? b = some o := fun b o e => hs₁.extBut b o (Nat.ne_of_lt (Heap.lt_size e)) (Heap.get?_push_of_some _ e)
    exact hlim.keeps fun b o e => k1 b o (F.keep b o e)
  · have k1 : ∀ b o, s.heap.get? b = some o → h₁.get? b = some o := fun b o e => hs₁.extBut b o (Nat.ne_of_lt (Heap.lt_size e)) (Heap.get?_push_of_some _ e)
    have sz : h₁.objs.size = s.heap.objs.size + 1 := by rw [hs₁.1, Heap.size_push]
    have g : ∀ nm qn, (h₁.push { cls := .type "generator", data := .fields #[.int s.gens.size 0, nm, qn] }).IsGen (s.heap.objs.size + 1) s.gens.size := fun nm qn => by
      rw [← sz]
      exact ⟨_, nm, qn, Heap.get?_push_size _ rfl, rfl, rfl, rfl⟩
    show OwitIt (model prog w) A Q E (.ref h₁.objs.size) _
    unfold OwitIt
    rw [sz]
    refine wpAny_specialOf (g _ _).typeIs slot_gen_next.lookup ?_
    exact h _ _ (hns.push _) (fun b o e => Heap.get?_push_of_some _ (k1 b o e)) (by rw [Heap.size_push, sz]) (g _ _)
/-- for over a profile -/
theorem for_voters {h₀ : Heap} {L x Cl f V : Addr} {ox : Obj} {od' : Option Obj} {m : Str → Option Value} {news : List (Addr × Obj)} {target : Expr} {tbody : List Stmt} {env : Env} {Q : Flow → Shared → Prop} {name qual : Str} {params : Arguments} {xv : Str} {px py yp ep pos : Pos} {iter : Expr} {scope : Scope} {dV kV doc pm cdv ct oc : Value} {an od : Option Addr} {osl : Array (Option Value)} {binds : List (Str × Value)} {vs : List Value}
    (hh : A.handled = none) (hroom : A.depth < recursionLimit) (F : Fr h₀ L s.heap m) (N : News h₀ L s.heap news) (X : K.In h₀) (hlim : h₀.NoLimit) (I : InstAt s.heap x ox Cl od') (hs : findIn K (.ref Cl) "__iter__" = some (some (.ref f))) (hf : isFn K (.ref f) = true)
    (ho : K.lookup f = some ⟨oc, od, .func (fnOf name qual params [.For (.Name xv px) iter [.Expr (.Yield (some (.Name xv py)) yp) ep] [] pos] scope dV kV doc pm an cdv ct), osl⟩) (hcd : codeIn K cdv qual = true)
    (hbind : BindsTo s (fnOf name qual params [.For (.Name xv px) iter [.Expr (.Yield (some (.Name xv py)) yp) ep] [] pos] scope dV kV doc pm an cdv ct) ⟨[.ref x], []⟩ binds) (hloc : ∀ y ∈ binds, scope.names.lookup y.1 = some .local)
    (hco : scope.isCoroutine = false) (hgen : scope.isGenerator = true) (hk : scope.kind = .function) (hcell : ∀ x ∈ scope.names, x.2 ≠ .cell) (hxv : scope.names.lookup xv = some .local) (hdbg : (xv == ("__debug__" : Str)) = false)
    (hint : ∀ C, interactive (envOf qual scope C f cdv) = false) (hfold : ∀ C v, foldedSetIterable iter (envOf qual scope C f cdv) v = pure v)
    (hV : h₀.IsList V vs.toArray) (B : AllBare s.gens)
    (hiter : ∀ C (A' : Around) (E' : Value → Shared → Prop) (u : Shared), A'.handled = none → Fr h₀ C u.heap (fun y => binds.reverse.lookup y) → wpAny (model prog w) A' (eval iter (envOf qual scope C f cdv)) (fun v s' => v = .ref V ∧ ∃ tk, s' = { u with toks := tk }) E' u)
    (J : Nat → (Str → Option Value) → List (Addr × Obj) → Prop) (hj : J 0 m news)
    (turn : ∀ I C a i v m₁ news₁ (u : Shared) oI oC oa, vs[i]? = some v → J i m₁ news₁ → u.os = s.os → Fr h₀ L u.heap m₁ → News h₀ L u.heap ((I, oI) :: (C, oC) :: (a, oa) :: news₁) → (∀ p ∈ news₁, p.1 ≠ I ∧ p.1 ≠ C ∧ p.1 ≠ a) → @Ne Nat I C → @Ne Nat I a → @Ne Nat C a →
      wpAny (model prog w) A (assign target env v) (fun _ s₂ => wpAny (model prog w) A (execs tbody env) (FEndV h₀ L I C a oI oC oa (J (i + 1)) u) (fun _ _ => False) s₂) (fun _ _ => False) u)
    (done : ∀ m₁ news₁ (u : Shared), J vs.length m₁ news₁ → u.os = s.os → AllBare u.gens → Fr h₀ L u.heap m₁ → News h₀ L u.heap news₁ → Q .next u)
    (ht : ∀ a v, letOwnedTupleGo target (.ref a) v = pure () := by intro _ _; rfl) :
    wpAny (model prog w) A (pyIter (.ref x)) (fun it s₂ => ForAt prog w A target tbody env Q E it s₂) E s := by
  refine iter_call F X hlim I hs hf ho hcd hroom hbind hloc (fun h₂ tk hns hk₂ hsz hgn => ?_) hco hgen hk hcell
  have lL : L < s.heap.objs.size := F.ns.lt
  have nn : ∀ b, s.heap.objs.size ≤ b → h₀.get? b = none := fun b hb => by
    cases q : h₀.get? b with
    | none => rfl
    | some o => exact absurd (Heap.lt_size (F.keep _ _ q)) (Nat.not_lt.mpr hb)
  have F₂ : Fr h₀ L h₂ m := F.after hk₂
  (refine xa_1_2 (id hV) ?_; intro oV hoV _)
  have lV : V < s.heap.objs.size := Heap.lt_size (F.keep _ _ hoV)
  have e2 : s.heap.objs.size < s.heap.objs.size + 1 := Nat.lt_succ_self _
  have e3 : s.heap.objs.size + 1 < s.heap.objs.size + 2 := Nat.lt_succ_self _
  have e4 : s.heap.objs.size < s.heap.objs.size + 2 := Nat.lt_trans e2 e3
  refine for_gen (s := { s with gens := s.gens.push (.fresh (.func _ (envOf qual scope s.heap.objs.size f cdv))), toks := tk, heap := h₂ }) (C := s.heap.objs.size) (a := s.heap.objs.size + 1) (I := s.heap.objs.size + 2) (V := V) (vs := vs) hh hroom hlim F₂ (newsAfter N hk₂) hgn (B.push rfl) ⟨_, Array.getElem?_push_size .., rfl, ?_⟩
    ⟨Nat.ne_of_gt lL, Nat.ne_of_gt (Nat.lt_trans lL e2), Nat.ne_of_gt (Nat.lt_trans lL e4)⟩ ⟨nn _ (Nat.le_refl _), nn _ (Nat.le_of_lt e2), nn _ (Nat.le_of_lt e4)⟩ ⟨Nat.ne_of_lt e2, Nat.ne_of_lt e4, Nat.ne_of_lt e3⟩
    (fun p hp => have l := Heap.lt_size (N p hp).1; ⟨Nat.ne_of_lt (Nat.lt_trans l e4), Nat.ne_of_lt l, Nat.ne_of_lt (Nat.lt_trans l e2)⟩) hV J hj
    (fun i v m₁ news₁ u oI oC oa hv hj' ho' F' N' hn' => turn _ _ _ i v m₁ news₁ u oI oC oa hv hj' ho' F' N' hn' (Nat.ne_of_gt e4) (Nat.ne_of_gt e3) (Nat.ne_of_lt e2)) done (ht _)
  refine seg_vstart (A := A.in1) (m := fun y => binds.reverse.lookup y) hh rfl hk ?_ hco (hint _) hdbg (Nat.ne_of_lt e4) (Nat.ne_of_gt lV) (Nat.ne_of_gt (Nat.lt_trans lV e4)) _ hsz (stays_list F₂.keep hV) hns (fun A' E' hA' => hiter _ A' E' _ hA' ⟨hns, F₂.keep, ?_⟩) (hfold _)
  · show scope.names.lookup xv = some .local
    exact hxv
  · exact Nat.le_trans F.above (Nat.le_of_lt lL)
end
end
section
/-- a profile at hand -/
noncomputable def IsProfile (w : World) (h : Heap) (x : Addr) (nc : Nat) (ms : List Nat) (ws : List Int) : Prop :=
  ∃ dx V vs, ProfAt h x dx V nc ∧ h.IsList V (List.toArray vs) ∧ vs.length = ms.length ∧ ms.length = ws.length ∧ ∀ (i m : Nat) (wt : Int), ms[i]? = some m → ws[i]? = some wt → ∃ v, vs[i]? = some v ∧ IsVoter w h v m wt
theorem IsProfile.keep {w : World} {h h' : Heap} {x : Addr} {nc : Nat} {ms : List Nat} {ws : List Int} (P : IsProfile w h x nc ms ws) (k : ∀ b o, h.get? b = some o → h'.get? b = some o) : IsProfile w h' x nc ms ws := by
  (refine xa_3_5 (P) ?_; intro dx V vs p1 p2 p3 p4 p5; (try clear P))
  refine ⟨dx, V, vs, p1.keep k, stays_list k p2, p3, p4, fun i m wt e1 e2 => ?_⟩
  (refine xa_1_2 (p5 i m wt e1 e2) ?_; intro v q1 q2)
  exact ⟨v, q1, q2.keep k⟩
theorem IsProfile.of {w : World} {h : Heap} {imm : List (Addr × Obj)} {x : Addr} {nc : Nat} {ms : List Nat} {ws : List Int} (P : ProfIn w imm x nc ms ws) (hw : ms.length = ws.length) (M : ∀ p ∈ imm, h.get? p.1 = some p.2) : IsProfile w h x nc ms ws := by
  (refine xa_14_7 (P) ?_; intro dx C D V hs1 hs2 hs3 t1 t2 t3 cv cep vs ep m1 m2 m3 hi m4 hl hv; (try clear P))
  refine ⟨dx, V, vs, ⟨C, D, hs1, hs2, hs3, t1, t2, t3, cv, M _ m1, M _ m2, ⟨_, M _ m3, rfl, _, rfl⟩, hi⟩, ⟨_, M _ m4, rfl, _, rfl⟩, hl, hw, fun i m wt e1 e2 => ?_⟩
  (refine xa_9_5 (hv i m wt e1 e2) ?_; intro vx vdx S o k1 k2 u1 u2 u3 q1 q2 q3 q4 q5)
  exact ⟨_, q1, vx, vdx, S, o, k1, k2, u1, u2, u3, rfl, M _ q2, M _ q3, M _ q4, q5⟩
/-- what a call leaves that walked a profile -/
structure DoneG (s s' : Shared) : Prop where
  keep : ∀ b o, s.heap.get? b = some o → s'.heap.get? b = some o
  bare : AllBare s'.gens
  os : s'.os = s.os
theorem fnOfNews {h₀ h : Heap} {L x dx : Addr} {hs1 hs2 : Int} {t1 t2 t3 : Tok} {pv : Value} {f : Fn} {news : List (Addr × Obj)} (N : News h₀ L h news) (h1 : (x, instObj 233 dx) ∈ news) (h2 : (dx, dictOf [⟨hs1, .str (Str.ofString "name") t1, .str (fnName f) t2⟩, ⟨hs2, .str (Str.ofString "param") t3, pv⟩] 2) ∈ news) (hp : FnParam f pv) : IsFn h (.ref x) f :=
  ⟨x, dx, hs1, hs2, t1, t2, t3, pv, rfl, (N _ h1).1, (N _ h2).1, hp⟩
theorem liftG {prog : Program} {w : World} {A : Around} {s : Shared} {h₀ : Heap} {L : Addr} {m mg mb : Str → Option Value} {news : List (Addr × Obj)} {p : Program} {loose : List Str} {mean : ExcName → Option Value} {Q : Value → Shared → Prop} {E : Value → Shared → Prop} {f : Value} {vs : List Value} {kw : List (Str × Value)}
    (F : Fr h₀ L s.heap m) (N : News h₀ L s.heap news) (X : (hd.heap_1 w.params).In h₀) (T : Top p loose mean mg mb h₀) (B : AllBare s.gens) (P : Value → Shared → Prop)
    (Cd : Gnd w s.heap → ∀ R : Result → Shared → Prop, (∀ v s', DoneG s s' → P v s' → R (.ok (.ret v)) s') → codeAny (model prog w) A (.call f ⟨vs, kw⟩) R s)
    (h : ∀ v s', Fr h₀ L s'.heap m → News h₀ L s'.heap news → AllBare s'.gens → s'.os = s.os → DoneG s s' → P v s' → Q v s') :
    wpAny (model prog w) A (call f vs kw) Q E s :=
  call_of (Cd ⟨X.keeps F.keep, p, loose, mean, mg, mb, T.keeps F.keep⟩ _ fun v s' D hp => h v s' (F.after D.keep) (newsAfter N D.keep) D.bare D.os D hp)
theorem cnt_inter {m k : Nat} (hm : m < 32) (hk : k < 32) : (zsOf (k &&& m)).length = cnt (intsOf m) (intsOf k) := by
  have a : ∀ m : Fin 32, ∀ k : Fin 32, (zsOf (k.val &&& m.val)).length = cnt (intsOf m.val) (intsOf k.val) := by decide +kernel
  exact a ⟨m, hm⟩ ⟨k, hk⟩
theorem and_lt32 {m k : Nat} (hk : k < 32) : k &&& m < 32 := Nat.lt_of_le_of_lt Nat.and_le_left hk
theorem new_old {h₀ h : Heap} {L a b : Addr} {o ob : Obj} {news : List (Addr × Obj)} (N : News h₀ L h news) (hm : (a, o) ∈ news) (hb : h₀.get? b = some ob) : a ≠ b := fun q => by
  have := (N _ hm).2.2
  dsimp only at this
  rw [q, hb] at this; cases this
theorem headFn {h₀ h : Heap} {L x dx : Addr} {hs1 hs2 : Int} {t1 t2 t3 : Tok} {pv : Value} {f : Fn} {rest : List (Addr × Obj)} (N : News h₀ L h ((x, instObj 233 dx) :: (dx, dictOf [⟨hs1, .str (Str.ofString "name") t1, .str (fnName f) t2⟩, ⟨hs2, .str (Str.ofString "param") t3, pv⟩] 2) :: rest)) :
    ∃ y dy k1 k2 u1 u2 u3 pw, News h₀ L h ((y, instObj 233 dy) :: (dy, dictOf [⟨k1, .str (Str.ofString "name") u1, .str (fnName f) u2⟩, ⟨k2, .str (Str.ofString "param") u3, pw⟩] 2) :: rest) ∧ y = x ∧ dy = dx ∧ pw = pv := ⟨_, _, _, _, _, _, _, _, N, rfl, rfl, rfl⟩
end
theorem words36 : True := by
  k_with_none
  (k_with "ite" => (first | (refine ite_pos (by ((try simp only [beq_iff_eq, bne_iff_ne, decide_eq_true_eq, Bool.not_eq_true', decide_eq_false_iff_not, beq_eq_false_iff_ne, ne_eq]); omega)) ?_) | (refine ite_neg (by ((try simp only [beq_iff_eq, bne_iff_ne, decide_eq_true_eq, Bool.not_eq_true', decide_eq_false_iff_not, beq_eq_false_iff_ne, ne_eq]); omega)) ?_)))
  (k_with "binaryOp FloorDiv int int" => ((k_dflt (refine' floordiv_int ?h1_q ?_ (Or.inl (PyProof.noPylong_of_log2 ?h2_q)); (case h1_q => omega); (case h2_q => first | assumption | exact Sz.log (by assumption))))))
  (k_with "binaryOp Mult int int" => ((k_dflt (refine' mul_int ?_ ?hm_q; (case hm_q => exact Sz.ok (by with_reducible assumption) (by with_reducible assumption) (by omega))))))
  (k_with "call ref" => (((with_reducible show wpAny _ _ (call (Value.ref 182) [Value.int _ _, Value.int _ _]) _ _ _); k_dflt (refine' frac_k ?F_q ?N_q ?X_q ?T_q ?A_q ?b_q ?z_q ?k_q ?_; (case F_q => k_asm); (case N_q => k_asm); (case X_q => k_asm); (case T_q => k_asm); (case A_q => exact Room.le (by assumption) (by decide)); (case b_q => first | assumption | omega | (exact Int.mul_pos (by assumption) (by assumption))); (case z_q => first | assumption | exact Sz.mul (by assumption) (by assumption)); (case k_q => omega)); intro _ _ _ _ _ _ _ _ _ _ _ _ _ _ _ _ _ _ _ _ _)))
  (k_with "binaryOp Pow int int" => ((k_dflt (refine' pow_int_small ?h1_q ?h2_q ?h3_q ?_; (case h1_q => omega); (case h2_q => omega); (case h3_q => omega)))))
  (k_with "call ref" => (((with_reducible show wpAny _ _ (call (Value.ref 182) [Value.int _ _]) _ _ _); k_dflt (refine' frac1_k ?F_q ?N_q ?X_q ?T_q ?A_q ?_; (case F_q => k_asm); (case N_q => k_asm); (case X_q => k_asm); (case T_q => k_asm); (case A_q => exact Room.le (by assumption) (by decide))); intro _ _ _ _ _ _ _ _ _ _ _ _ _ _ _)))
  (k_with "eval Name" => ((k_dflt (first | (refine' nmL ?F_q ?e_q ?v_q ?_ ?a_q ?b_q ?d_q; (case F_q => with_reducible assumption); (case e_q => exact rfl); (case v_q => first | with_reducible assumption | ((try dsimp only); first | exact (if_neg (by decide)).trans (by with_reducible assumption) | exact (if_neg (by decide)).trans ((if_neg (by decide)).trans (by with_reducible assumption)) | exact (if_neg (by decide)).trans ((if_neg (by decide)).trans ((if_neg (by decide)).trans (by with_reducible assumption)))) | exact rfl); (case a_q => exact rfl); (case b_q => exact rfl); (case d_q => decide); k_whole) | (refine' nmC ?F_q ?c_q ?o_q ?d_q ?_ ?a_q ?b_q ?g_q; (case F_q => with_reducible assumption); (case a_q => exact rfl); (case b_q => exact rfl); (case c_q => exact rfl); (case o_q => with_reducible assumption); (case d_q => with_reducible assumption); (case g_q => decide); k_whole) | (refine' nameG_K ?F_q ?X_q ?T_q ?e_q ?_ ?g_q ?a_q ?b_q ?d_q; (case F_q => with_reducible assumption); (case X_q => k_asm); (case T_q => k_asm); (case a_q => exact rfl); (case b_q => exact rfl); (case e_q => k_is); (case g_q => exact rfl); (case d_q => decide); k_whole) | (refine' nmB ?F_q ?X_q ?T_q ?e_q ?v_q ?n_q ?_ ?g_q ?h_q ?a_q ?b_q ?d_q; (case F_q => with_reducible assumption); (case X_q => k_asm); (case T_q => k_asm); (case a_q => exact rfl); (case b_q => exact rfl); (case e_q => k_is); (case v_q => boot_fast); (case n_q => decide); (case g_q => exact rfl); (case h_q => exact rfl); (case d_q => decide); k_whole)))))
  (k_with "call ref" => (((with_reducible show wpAny _ _ (call (Value.ref 492) [Value.ref _, Value.int _ _]) _ _ _); k_dflt (refine' liftI ?F_q ?N_q ?X_q ?T_q (cellZ _ _) (fun R hR => cell_code ⟨Frag.In.keeps (by k_asm) (Fr.keep (by k_asm)), _, _, _, _, _, Top.keeps (by k_asm) (Fr.keep (by k_asm))⟩ (Room.le (by assumption) (by decide)) (stays_list (Fr.keep (by with_reducible assumption)) (by with_reducible assumption)) (by with_reducible assumption) (by with_reducible assumption) (by omega) (by omega) hR) ?_; (case F_q => k_asm); (case N_q => k_asm); (case X_q => k_asm); (case T_q => k_asm)); intro _ _ _ _ _ _)))
  (k_with "exec For" => ((with_unfolding_all refine for_at ?_)))
  (k_with "pyIter ref" => (first | (with_reducible refine hold_pyF ?_) | (with_reducible refine hold_pyC ?_)))
  (k_with "call builtin:len" => (((with_reducible show wpAny _ _ (call (Value.builtin "len") [Value.ref _]) _ _ _); k_dflt (refine' len_old ?F_q ?l_q ?f_q ?_; (case F_q => with_reducible assumption); (case l_q => with_reducible assumption); (case f_q => omega)))))
  (k_with "subscriptTail Name Name ref int" => (((with_reducible show wpAny _ _ (subscriptTail _ _ (Value.ref _) (Value.int _ _)) _ _ _); k_dflt (refine' item_at ?l_q ?a_q ?b_q ?x_q ?_ ?s_q; (case l_q => with_reducible assumption); (case x_q => with_reducible assumption); (case a_q => omega); (case b_q => omega); (case s_q => with_unfolding_all rfl)))))
  (k_with "compareOp In int ref" => ((k_dflt (refine' in_list_ints ?l_q ?i_q ?_; (case l_q => with_reducible assumption); (case i_q => with_reducible assumption)))))
  (k_with "call builtin:len" => (((with_reducible show wpAny _ _ (call (Value.builtin "len") [Value.ref _]) _ _ _); k_dflt (refine' len_cur ?l_q ?f_q ?_; (case l_q => with_reducible assumption); (case f_q => omega)))))
  (k_with "exec For Name Call cons nil" => ((with_unfolding_all refine for_at ?_)))
  (k_with "exec For Name Name cons nil" => ((with_unfolding_all refine for_at ?_)))
  (k_with "call ref" => (((with_reducible show wpAny _ _ (call (Value.ref 511) [Value.str (nameAt _) _, Value.int _ _]) _ _ _); k_dflt (refine' liftPair ?F_q ?N_q ?X_q ?T_q (gN (fnAt _) _) (gD (fnAt _) _) (fun R hR => gain_code ⟨Frag.In.keeps (by k_asm) (Fr.keep (by k_asm)), _, _, _, _, _, Top.keeps (by k_asm) (Fr.keep (by k_asm))⟩ (Room.le (by assumption) (by decide)) (by assumption) (by omega) (by omega) hR) ?_; (case F_q => k_asm); (case N_q => k_asm); (case X_q => k_asm); (case T_q => k_asm)); intro _ _ _ _ _ _ _ l9q; replace l9q := allNe_of l9q; simp only [AllNe, and_true] at l9q)))
  (k_with "call ref" => (((with_reducible show wpAny _ _ (call (Value.ref 518) [Value.ref _, Value.ref _]) _ _ _); k_dflt (refine' liftPair ?F_q ?N_q ?X_q ?T_q _ _ (fun R hR => add_code ⟨Frag.In.keeps (by k_asm) (Fr.keep (by k_asm)), _, _, _, _, _, Top.keeps (by k_asm) (Fr.keep (by k_asm))⟩ (Room.le (by assumption) (by decide)) (pairOfNews (by k_asm) (by k_mem)) (pairOfNews (by k_asm) (by k_mem)) (by with_reducible assumption) (by with_reducible assumption) (by with_reducible assumption) (by with_reducible assumption) (by omega) hR) ?_; (case F_q => k_asm); (case N_q => k_asm); (case X_q => k_asm); (case T_q => k_asm)); intro _ _ _ _ _ _ _ l9q; replace l9q := allNe_of l9q; simp only [AllNe, and_true] at l9q)))
  trivial
section
theorem prof_for {prog : Program} {w : World} {A : Around} {s : Shared} {h₀ : Heap} {L : Addr} {m mg mb : Str → Option Value} {news : List (Addr × Obj)} {p : Program} {loose : List Str} {mean : ExcName → Option Value} {E : Value → Shared → Prop} (F : Fr h₀ L s.heap m) (N : News h₀ L s.heap news) (X : (hd.heap_1 w.params).In h₀) (T : Top p loose mean mg mb h₀) (hh : A.handled = none) (hroom : A.depth < recursionLimit) {x dx V : Addr} {nc : Nat} {vs : List Value} (PA : ProfAt h₀ x dx V nc) (hV : h₀.IsList V vs.toArray) (B : AllBare s.gens)
    {target : PySem.Expr} {tbody : List Stmt} {env : Env} {Qf : Flow → Shared → Prop} (J : Nat → (Str → Option Value) → List (Addr × Obj) → Prop) (hj : J 0 m news)
    (turn : ∀ I C a i v m₁ news₁ (u : Shared) oI oC oa, vs[i]? = some v → J i m₁ news₁ → u.os = s.os → Fr h₀ L u.heap m₁ → News h₀ L u.heap ((I, oI) :: (C, oC) :: (a, oa) :: news₁) → (∀ p ∈ news₁, p.1 ≠ I ∧ p.1 ≠ C ∧ p.1 ≠ a) → @Ne Nat I C → @Ne Nat I a → @Ne Nat C a →
      wpAny (model prog w) A (assign target env v) (fun _ s₂ => wpAny (model prog w) A (execs tbody env) (FEndV h₀ L I C a oI oC oa (J (i + 1)) u) (fun _ _ => False) s₂) (fun _ _ => False) u)
    (done : ∀ m₁ news₁ (u : Shared), J vs.length m₁ news₁ → u.os = s.os → AllBare u.gens → Fr h₀ L u.heap m₁ → News h₀ L u.heap news₁ → Qf .next u)
    (ht : ∀ a v, letOwnedTupleGo target (.ref a) v = pure () := by intro _ _; rfl) :
    wpAny (model prog w) A (pyIter (.ref x)) (fun it s₂ => ForAt prog w A target tbody env Qf E it s₂) E s := by
  (refine xa_9_4 (id PA) ?_; intro C D hs1 hs2 hs3 t1 t2 t3 cv' g1 g2 g3 g4)
  have Xs := X.keeps F.keep
  w_on
  k_dflt (refine' for_voters (K := hd.heap_1 w.params) (f := 413) (Cl := 444) (binds := [(Str.ofString "self", .ref x)]) hh hroom F N X T.nolimit ?I ?s ?f ?o ?c ?b ?l ?co ?gen ?k ?cell ?xv ?dbg ?int ?fold hV B ?iter J hj turn done ht; (case I => exact inst_old F g1 g2); (case o => k_is); (case s => k_is); (case f => k_is); (case c => k_is); (case b => first | exact BindsTo.of_eq rfl | exact binds_K Xs rfl (by k_is) rfl rfl rfl); (case l => exact locs rfl); (case co => exact rfl); (case gen => exact rfl); (case k => exact rfl); (case cell => decide); (case xv => exact rfl); (case dbg => decide); (case int => (intro _; exact rfl)); (case fold => (intro _ _; rfl)))
  clear Xs F N turn done
  intro C5 A5 E5 u hA5 F5
  obtain ⟨ha, da, fa, ga, ua⟩ := A5
  dsimp only at hA5
  subst hA5
  have N5 := newsNil F5
  w_strict (k_steps)
end
section
theorem words37 : True := by
  (k_with "call ref" => (((with_reducible show wpAny _ _ (call (Value.ref _) [Value.int _ _]) _ _ _); k_dflt (refine' liftF ?F_q ?N_q ?X_q ?T_q (FnP _ _) (fun R hR => fn_call ⟨Frag.In.keeps (by k_asm) (Fr.keep (by k_asm)), _, _, _, _, _, Top.keeps (by k_asm) (Fr.keep (by k_asm))⟩ (Room.le (by assumption) (by decide)) (IsFn.keep (by with_reducible assumption) (Fr.keep (by with_reducible assumption))) (by omega) (by omega) hR) ?_; (case F_q => k_asm); (case N_q => k_asm); (case X_q => k_asm); (case T_q => k_asm)); intro _ _ _ _ _ _ _ _ _ _ _ _ _ _ _ _ _ P9q; obtain ⟨P19, P29, P39, P49⟩ := P9q; replace P39 := Sz.mono P39 (show 1 ≤ 40 by decide))))
  (k_with "loadName" => ((k_dflt (refine' lnL ?F_q ?e_q ?v_q ?_ ?a_q ?b_q; (case F_q => with_reducible assumption); (case e_q => exact rfl); (case v_q => first | with_reducible assumption | ((try dsimp only); first | exact (if_neg (by decide)).trans (by with_reducible assumption) | exact (if_neg (by decide)).trans ((if_neg (by decide)).trans (by with_reducible assumption)) | exact (if_neg (by decide)).trans ((if_neg (by decide)).trans ((if_neg (by decide)).trans (by with_reducible assumption)))) | exact rfl); (case a_q => exact rfl); (case b_q => exact rfl); k_whole))))
  (k_with "call ref nil" => (((with_reducible show wpAny _ _ (call (Value.ref _) ([] ++ _)) _ _ _); dsimp only [List.nil_append])))
  (k_with "inplaceOp Add ref" => (((with_reducible show wpAny _ _ (inplaceOp _ (Value.ref _) (Value.ref _)) _ _ _); k_dflt (refine' inplace_K ?k1_q ?k2_q ?k3_q ?k4_q ?k5_q ?k8_q ?k11_q ?k9_q ?k10_q ?k6_q ?k7_q ?_; (case k1_q => k_asm); (case k2_q => k_asm); (case k3_q => k_inst); (case k4_q => k_typeOf); (case k5_q => k_is); (case k8_q => k_is); (case k11_q => exact rfl); (case k9_q => k_is); (case k10_q => k_is); (case k6_q => k_is); (case k7_q => k_is); k_whole))))
  (k_with "call ref" => (((with_reducible show wpAny _ _ (call (Value.ref 95) [Value.ref _, Value.ref _]) _ _ _); k_dflt (refine' frac_add_k ?F_q ?N_q ?X_q ?T_q ?A_q ?v_q ?u_q ?d1_q ?d2_q ?z1_q ?z2_q ?z3_q ?z4_q ?z5_q ?_; (case F_q => k_asm); (case N_q => k_asm); (case X_q => k_asm); (case T_q => k_asm); (case A_q => exact Room.le (by assumption) (by decide)); (case v_q => exact fracOfNews (by k_asm) (by k_mem) (by k_mem)); (case u_q => exact fracOfNews (by k_asm) (by k_mem) (by k_mem)); (case d1_q => with_reducible assumption); (case d2_q => with_reducible assumption); (case z1_q => with_reducible assumption); (case z2_q => with_reducible assumption); (case z3_q => with_reducible assumption); (case z4_q => with_reducible assumption); (case z5_q => omega)); intro _ _ _ _ _ _ _ _ _ _ _ _ _ _ _ _ _ _ _ _ _)))
  (k_with "CmpBack ref" => (with_reducible refine cmpBack_ref ?_))
  (k_with "call type:set cons nil" => (((with_reducible show wpAny _ _ (call (Value.type "set") [Value.ref _]) _ _ _); k_dflt (refine' set_list_k ?F_q ?N_q rfl ?l_q ?i_q ?n_q ?_; (case F_q => k_asm); (case N_q => k_asm); (case l_q => exact stays_list (Fr.keep (by k_asm)) (by with_reducible assumption)); (case i_q => with_reducible assumption); (case n_q => omega)); intro _ _ _ _ _ _ l9q _; replace l9q := allNe_of l9q; simp only [AllNe, and_true] at l9q)))
  (k_with "call builtin:len cons nil" => (((with_reducible show wpAny _ _ (call (Value.builtin "len") [Value.ref _]) _ _ _); k_dflt (refine' len_small_set (News.get ?N_q ?m_q) ?s_q ?_; (case N_q => k_asm); (case m_q => k_mem); (case s_q => with_reducible assumption)))))
  (k_with "call ref" => (((with_reducible show wpAny _ _ (call (Value.ref 245) [Value.str (nameAt _) _, Value.int _ _]) _ _ _); k_dflt (refine' liftFn ?F_q ?N_q ?X_q ?T_q (fnAt _) (fun R hR => gms2 ⟨Frag.In.keeps (by k_asm) (Fr.keep (by k_asm)), _, _, _, _, _, Top.keeps (by k_asm) (Fr.keep (by k_asm))⟩ (Room.le (by assumption) (by decide)) (by assumption) hR) ?_; (case F_q => k_asm); (case N_q => k_asm); (case X_q => k_asm); (case T_q => k_asm)); intro _ _ _ _ _ _ _ _ _ _ _ _ _ _ _ _)))
  (k_with "binaryOp BitAnd" => (((with_reducible show wpAny _ _ (binaryOp _ (Value.ref _) (Value.ref _)) _ _ _); k_dflt (refine' and_k ?F_q ?N_q (News.get ?N2_q ?m_q) (Fr.keep ?F2_q _ _ ?o_q) (new_old ?N3_q ?m3_q ?o3_q) ?s_q ?t_q ?_; (case F_q => k_asm); (case N_q => k_asm); (case N2_q => k_asm); (case N3_q => k_asm); (case F2_q => k_asm); (case m_q => k_mem); (case m3_q => k_mem); (case o_q => with_reducible assumption); (case o3_q => with_reducible assumption); (case s_q => with_reducible assumption); (case t_q => with_reducible assumption)); intro _ _ _ _ _ _ l9q _; replace l9q := allNe_of l9q; simp only [AllNe, and_true] at l9q)))
  (k_with "call ref" => (((with_reducible show wpAny _ _ (call (Value.ref _) [Value.int _ _]) _ _ _); k_dflt (refine' liftF ?F_q ?N_q ?X_q ?T_q (FnP (fnAt _) _) (fun R hR => fn_call ⟨Frag.In.keeps (by k_asm) (Fr.keep (by k_asm)), _, _, _, _, _, Top.keeps (by k_asm) (Fr.keep (by k_asm))⟩ (Room.le (by assumption) (by decide)) (fnOfNews (by k_asm) (by k_mem) (by k_mem) (by with_reducible assumption)) (by omega) (by omega) hR) ?_; (case F_q => k_asm); (case N_q => k_asm); (case X_q => k_asm); (case T_q => k_asm)); intro _ _ _ _ _ _ _ _ _ _ _ _ _ _ _ _ _ P9q; obtain ⟨P19, P29, P39, P49⟩ := P9q; replace P39 := Sz.mono P39 (show 1 ≤ 40 by decide))))
  (k_with "call ref" => (((with_reducible show wpAny _ _ (call (Value.ref 123) [Value.ref _, Value.int _ _]) _ _ _); k_dflt (refine' frac_mul_k (k := 40) (j := 10) ?F_q ?N_q ?X_q ?T_q ?A_q ?v_q ?d1_q ?z1_q ?z2_q ?z3_q ?z5_q ?_; (case F_q => k_asm); (case N_q => k_asm); (case X_q => k_asm); (case T_q => k_asm); (case A_q => exact Room.le (by assumption) (by decide)); (case v_q => exact fracOfNews (by k_asm) (by k_mem) (by k_mem)); (case d1_q => with_reducible assumption); (case z1_q => with_reducible assumption); (case z2_q => with_reducible assumption); (case z3_q => with_reducible assumption); (case z5_q => decide)); intro _ _ _ _ _ _ _ _ _ _ _ _ _ _ _ _ _ _ _ hn9q hz9q; replace hn9q := Sz.mono hn9q (show 40 + 10 ≤ 50 by decide); replace hz9q := Sz.mono hz9q (show 40 ≤ 50 by decide))))
  trivial
section
theorem frac_mul_eq {n₁ d₁ n₂ d₂ wt gn gd : Int} (hd : 0 < d₂) (e : n₁ * d₂ = n₂ * wt * d₁) (e2 : n₂ * gd = gn * d₂) : n₁ * gd = gn * wt * d₁ := by
  refine Int.eq_of_mul_eq_mul_right (Int.ne_of_gt hd) ?_
  have h1 : n₁ * gd * d₂ = (n₁ * d₂) * gd := by grind
  have h2 : gn * wt * d₁ * d₂ = (gn * d₂) * (wt * d₁) := by grind
  rw [h1, h2, e, ← e2]
  grind
theorem headFracFn {h₀ h : Heap} {L x dx g dg : Addr} {hs1 hs2 n d hs3 hs4 : Int} {t1 t2 t3 t4 t5 t6 t7 : Tok} {pv : Value} {f : Fn} {rest : List (Addr × Obj)} (N : News h₀ L h ((x, instObj 182 dx) :: (dx, fracD hs1 hs2 n d t1 t2 t3 t4) :: (g, instObj 233 dg) :: (dg, dictOf [⟨hs3, .str (Str.ofString "name") t5, .str (fnName f) t6⟩, ⟨hs4, .str (Str.ofString "param") t7, pv⟩] 2) :: rest)) :
    ∃ y dy ks1 ks2 a b u1 u2 u3 u4 g' dg' l1 l2 w1 w2 w3 pw, News h₀ L h ((y, instObj 182 dy) :: (dy, fracD ks1 ks2 a b u1 u2 u3 u4) :: (g', instObj 233 dg') :: (dg', dictOf [⟨l1, .str (Str.ofString "name") w1, .str (fnName f) w2⟩, ⟨l2, .str (Str.ofString "param") w3, pw⟩] 2) :: rest) ∧ y = x ∧ dy = dx ∧ a = n ∧ b = d ∧ g' = g ∧ dg' = dg ∧ pw = pv :=
  ⟨_, _, _, _, _, _, _, _, _, _, _, _, _, _, _, _, _, _, N, rfl, rfl, rfl, rfl, rfl, rfl, rfl⟩
theorem thiele_code {prog : Program} {w : World} {A : Around} {s : Shared} {R : Result → Shared → Prop} (G : Gnd w s.heap) (GB : AllBare s.gens) (hA : Room A 16) {k : Nat} (hk : k < 11) {t : Tok} {x : Addr} {nc : Nat} {ms : List Nat} {ws : List Int} (P : IsProfile w s.heap x nc ms ws) {lc : Addr} {cv : List Value} {km : Nat} (hc : s.heap.IsList lc cv.toArray) (hci : IntsAre cv (intsOf km)) (hkm : km < 32)
    (h4 : ms.length ≤ 4) (hm : ∀ m ∈ ms, m < 32) (hw1 : ∀ x ∈ ws, 1 ≤ x ∧ x ≤ 1000)
    (hR : ∀ v s' a b, DoneG s s' → NewFrac s.heap s'.heap v a b → 0 < b → a * (scoreP (fnAt k) (ms.map intsOf) ws (intsOf km) ms.length).2 = (scoreP (fnAt k) (ms.map intsOf) ws (intsOf km) ms.length).1 * b → Sz 1100 a → Sz 1100 b → R (.ok (.ret v)) s') :
    codeAny (model prog w) A (.call (.ref 252) ⟨[.str (nameAt k) t, .ref x, .ref lc], []⟩) R s := by
  obtain ⟨X, p, loose, mean, mg, mb, T⟩ := G
  have hc0 := hci.length
  have hc1 := intsOf_len km
  have hc2 := zs_le km
  (refine xa_3_5 (P) ?_; intro dx V vs PA hV hvl hwl hvv; (try clear P))
  (refine xa_9_4 (id PA) ?_; intro C D hs1 hs2 hs3 t1 t2 t3 cv' g1 g2 g3 g4)
  w_on
  w_strict (k_dflt (refine' enter (K := hd.heap_1 w.params) (binds := [(Str.ofString "scorefct_id", .str (nameAt k) t), (Str.ofString "profile", .ref x), (Str.ofString "committee", .ref lc)]) X T.nolimit ?o ?c ?b ?l hA (fun L h₁ F N dp un fr gd hA' => ?_) ?c2 ?c3 ?c4 ?c5; (case o => k_is); (case c => k_is); (case b => first | exact BindsTo.of_eq rfl | exact binds_K X rfl (by k_is) rfl rfl rfl); (case l => exact locs rfl); (case c2 => exact rfl); (case c3 => exact rfl); (case c4 => exact rfl); (case c5 => decide)))
  dsimp only
  w_strict (k_fold)
  w_strict (k_steps)
  unfold Hold
  rename Fr _ _ _ _ => F1
  rename News _ _ _ _ => N1
  rename FnParam _ _ => fp
  refine Classical.byContradiction fun hg9 => ?_
  obtain ⟨y, dy, ks1, ks2, a, b, u1, u2, u3, u4, g, dg, l1, l2, w1, w2, w3, pw, N0, r919, r920, r921, r922, r923, r924, r925⟩ := headFracFn N1
  subst r919
  subst r920
  subst r921
  subst r922
  subst r923
  subst r924
  subst r925
  refine hg9 ?_
  clear hg9
  clear N1
  refine prof_for F1 N0 X T rfl hA'.lim PA hV (by exact GB) (fun i m₁ news₁ => E10 fun y dy ks1 ks2 a b u1 u2 u3 u4 => A10 (news₁ = [(y, instObj 182 dy), (dy, fracD ks1 ks2 a b u1 u2 u3 u4), (g, instObj 233 dg), (dg, dictOf [⟨l1, .str (Str.ofString "name") w1, .str (fnName (fnAt k)) w2⟩, ⟨l2, .str (Str.ofString "param") w3, pw⟩] 2)]) (@LT.lt Nat _ L dy) (@LT.lt Nat _ dy y) (m₁ (Str.ofString "marginal_scorefct") = some (.ref g)) (m₁ (Str.ofString "score") = some (.ref y)) (m₁ (Str.ofString "committee") = some (.ref lc)) (0 < b) (a * (scoreP (fnAt k) (ms.map intsOf) ws (intsOf km) i).2 = (scoreP (fnAt k) (ms.map intsOf) ws (intsOf km) i).1 * b) (Sz (255 * i + 1) a) (Sz (255 * i + 1) b)) ?_ ?_ ?_
  · exact ⟨y, dy, _, _, 0, 1, _, _, _, _, rfl, by assumption, by assumption, rfl, rfl, rfl, by decide, by simp [scoreP], by unfold Sz; decide, by unfold Sz; decide⟩
  · clear F1 N0
    rintro I C5 a5 i v m₁ _ u oI oC oa hvi hJ912 hos F1 N1 hn nIC nIa nCa
    refine Classical.byContradiction fun hg9 => ?_
    obtain ⟨y, dy, ks1, ks2, a, b, u1, u2, u3, u4, r910, o1, o2', e1, e2, e3, hb, hab, za, zb⟩ := hJ912
    subst r910
    refine hg9 ?_
    clear hg9
    have hil : i < vs.length := (List.getElem?_eq_some_iff.mp hvi).1
    have him : i < ms.length := by omega
    have hiw : i < ws.length := by omega
    (refine xa_1_2 (hvv i ms[i] ws[i] (List.getElem?_eq_getElem him) (List.getElem?_eq_getElem hiw)) ?_; intro v' e4 hv)
    rw [hvi] at e4
    obtain rfl : v = v' := Option.some.inj e4
    refine Classical.byContradiction fun hg9 => ?_
    (refine xa_9_5 (hv) ?_; intro vx vdx S o k1 k2 r1 r2 r3 r99 g5 g6 g7 sm; (try clear hv))
    subst r99
    refine hg9 ?_
    clear hg9
    have hm32 := hm ms[i] (List.getElem_mem him)
    have hwt := hw1 ws[i] (List.getElem_mem hiw)
    have hwz : Sz 10 ws[i] := by unfold Sz; omega
    w_strict (k_steps)
    unfold Hold
    rename Fr _ _ _ _ => F2
    rename News _ _ _ _ => N2
    rename SmallSet _ _ (km &&& _) => sm2
    refine Classical.byContradiction fun hg9 => ?_
    (refine xa_2_3 (headOne N2) ?_; intro S2 o2 N2 r93 r94)
    subst r93
    subst r94
    refine hg9 ?_
    clear hg9
    have N3 : News s.heap L _ ([(S2, o2)] ++ [(y, instObj 182 dy), (dy, fracD ks1 ks2 a b u1 u2 u3 u4), (g, instObj 233 dg), (dg, dictOf [⟨l1, .str (Str.ofString "name") w1, .str (fnName (fnAt k)) w2⟩, ⟨l2, .str (Str.ofString "param") w3, pw⟩] 2), (I, oI), (C5, oC), (a5, oa)]) := newsSub N2 (by first | ((try dsimp only [List.cons_append, List.nil_append]); (repeat (refine List.forall_mem_cons.mpr ⟨(by k_mem), ?_⟩)); first | exact List.forall_mem_nil _ | (intro p9 h9; (repeat (first | exact h9 | (refine List.Mem.tail _ ?_))); done)) | ((first | (((try dsimp only [List.cons_append, List.nil_append]); repeat' (first | exact List.forall_mem_nil _ | (refine fmc (by (first | k_mem | ((repeat (first | (with_reducible exact List.Mem.head _) | exact List.mem_append_left _ (by with_reducible assumption) | exact List.mem_append_left _ (List.Mem.head _) | (with_reducible assumption) | (refine List.Mem.tail _ ?_) | (refine List.mem_append_right _ ?_))); done))) ?_) | (refine fma ?_ ?_) | (intro p9 h9; ((repeat (first | exact h9 | exact List.mem_append_left _ h9 | exact List.mem_append_left _ (List.mem_append_left _ h9) | (refine List.Mem.tail _ ?_) | (refine List.mem_append_right _ ?_))); done)))); done) | (intro p9 h9; simp only [List.mem_append, List.mem_cons, List.not_mem_nil, or_false, List.cons_append, List.nil_append] at h9 ⊢; grind))))
    clear N2
    have y1 : (y : Addr) ≠ I ∧ y ≠ C5 ∧ y ≠ a5 := hn _ (.head _)
    have y2 : (dy : Addr) ≠ I ∧ dy ≠ C5 ∧ dy ≠ a5 := hn _ (.tail _ (.head _))
    have y3 : (g : Addr) ≠ I ∧ g ≠ C5 ∧ g ≠ a5 := hn _ (.tail _ (.tail _ (.head _)))
    have y4 : (dg : Addr) ≠ I ∧ dg ≠ C5 ∧ dg ≠ a5 := hn _ (.tail _ (.tail _ (.tail _ (.head _))))
    clear hn
    have ez : (zsOf (km &&& ms[i])).length = cnt (intsOf ms[i]) (intsOf km) := cnt_inter hm32 hkm
    have ez5 := zs_le (km &&& ms[i])
    refine for_set (fix := [(S2, o2)]) rfl F2 N3 sm2 (fun h _ N => (N _ (.head _)).1)
      (fun ord j m₂ news₂ => E10 fun y dy ks1 ks2 a b u1 u2 u3 u4 => A14 (news₂ = [(y, instObj 182 dy), (dy, fracD ks1 ks2 a b u1 u2 u3 u4), (g, instObj 233 dg), (dg, dictOf [⟨l1, .str (Str.ofString "name") w1, .str (fnName (fnAt k)) w2⟩, ⟨l2, .str (Str.ofString "param") w3, pw⟩] 2), (I, oI), (C5, oC), (a5, oa)]) (@LT.lt Nat _ L dy) (@LT.lt Nat _ dy y) (((y : Addr) ≠ I ∧ y ≠ C5 ∧ y ≠ a5)) (((dy : Addr) ≠ I ∧ dy ≠ C5 ∧ dy ≠ a5)) (m₂ (Str.ofString "marginal_scorefct") = some (.ref g)) (m₂ (Str.ofString "score") = some (.ref y)) (m₂ (Str.ofString "committee") = some (.ref lc)) (m₂ (Str.ofString "vote") = some (.ref vx)) ((∃ tj, m₂ (Str.ofString "cand_in_com") = some (.int (j : Int) tj))) (0 < b) (a * (placesP (fnAt k) ws[i] (scoreP (fnAt k) (ms.map intsOf) ws (intsOf km) i) j).2 = (placesP (fnAt k) ws[i] (scoreP (fnAt k) (ms.map intsOf) ws (intsOf km) i) j).1 * b) (Sz (255 * i + 1 + 51 * j) a) (Sz (255 * i + 1 + 51 * j) b)) ?_ ?_ ?_
    · exact fun _ _ => ⟨y, dy, _, _, a, b, _, _, _, _, rfl, o1, o2', y1, y2, e1, e2, e3, rfl, ⟨_, rfl⟩, hb, hab, za, zb⟩
    · clear F2 N3
      rintro ord j z tz m₂ _ h₅ tk₅ I₂ oI₂ hp hoj hJ912 F4 N4 hn4
      refine Classical.byContradiction fun hg9 => ?_
      obtain ⟨y, dy, ks1, ks2, a, b, u1, u2, u3, u4, r910, o1, o3, y1, y2, e1, e2, e3, e5, n919, hb, hab, za, zb⟩ := hJ912
      subst r910
      obtain ⟨tj, e6⟩ := n919
      refine hg9 ?_
      clear hg9
      have hjl : j < ord.length := (List.getElem?_eq_some_iff.mp hoj).1
      have hj5 : j < 5 := by have := hp.length_eq; omega
      replace N4 : News s.heap L h₅ [(I₂, oI₂), (S2, o2), (y, instObj 182 dy), (dy, fracD ks1 ks2 a b u1 u2 u3 u4), (g, instObj 233 dg), (dg, dictOf [⟨l1, .str (Str.ofString "name") w1, .str (fnName (fnAt k)) w2⟩, ⟨l2, .str (Str.ofString "param") w3, pw⟩] 2), (I, oI), (C5, oC), (a5, oa)] := N4
      w_strict (k_steps)
      rename Fr _ _ _ _ => F6
      rename News _ _ _ _ => N6
      rename _ * (_ * _) = _ => he
      rename _ * gD _ _ = _ => he2
      rename _ = _ * ws[i] * _ => he3
      rename ∀ p : Addr × Obj, p ∈ _ → p.1 < _ => lA
      refine Classical.byContradiction fun hg9 => ?_
      (refine xa_10_5 (headFrac N6) ?_; intro y' dy' ks1' ks2' c d v1 v2 v3 v4 N7 r911 r912 r913 r914)
      subst r911
      subst r912
      subst r913
      subst r914
      refine hg9 ?_
      clear hg9
      clear N6
      have lt1 : ∀ q ∈ [(I₂, oI₂), (S2, o2), (I, oI), (C5, oC), (a5, oa)], q.1 ≠ dy' := (by (repeat (refine fmc (Nat.ne_of_lt (lA _ (by k_mem))) ?_)); exact List.forall_mem_nil _)
      have lt2 : ∀ q ∈ [(I₂, oI₂), (S2, o2), (I, oI), (C5, oC), (a5, oa)], q.1 ≠ y' := (by (repeat (refine fmc (Nat.ne_of_lt (Nat.lt_trans (lA _ (by k_mem)) (by assumption))) ?_)); exact List.forall_mem_nil _)
      refine ⟨rfl, _, _, _, [(y', instObj 182 dy'), (dy', fracD ks1' ks2' c d v1 v2 v3 v4), (g, instObj 233 dg), (dg, dictOf [⟨l1, .str (Str.ofString "name") w1, .str (fnName (fnAt k)) w2⟩, ⟨l2, .str (Str.ofString "param") w3, pw⟩] 2), (I, oI), (C5, oC), (a5, oa)], rfl, F6, newsSub N7 ?sub, ?ne, y', dy', _, _, c, d, _, _, _, _, rfl, by assumption, by assumption, ?y1, ?y2, e1, rfl, e3, e5, ⟨_, rfl⟩, by assumption, ?eq, Sz.mono (k := 255 * i + 1 + 51 * (j + 1)) (by assumption) (by omega), Sz.mono (k := 255 * i + 1 + 51 * (j + 1)) (by assumption) (by omega)⟩
      case sub => (first | ((try dsimp only [List.cons_append, List.nil_append]); (repeat (refine List.forall_mem_cons.mpr ⟨(by k_mem), ?_⟩)); first | exact List.forall_mem_nil _ | (intro p9 h9; (repeat (first | exact h9 | (refine List.Mem.tail _ ?_))); done)) | ((first | (((try dsimp only [List.cons_append, List.nil_append]); repeat' (first | exact List.forall_mem_nil _ | (refine fmc (by (first | k_mem | ((repeat (first | (with_reducible exact List.Mem.head _) | exact List.mem_append_left _ (by with_reducible assumption) | exact List.mem_append_left _ (List.Mem.head _) | (with_reducible assumption) | (refine List.Mem.tail _ ?_) | (refine List.mem_append_right _ ?_))); done))) ?_) | (refine fma ?_ ?_) | (intro p9 h9; ((repeat (first | exact h9 | exact List.mem_append_left _ h9 | exact List.mem_append_left _ (List.mem_append_left _ h9) | (refine List.Mem.tail _ ?_) | (refine List.mem_append_right _ ?_))); done)))); done) | (intro p9 h9; simp only [List.mem_append, List.mem_cons, List.not_mem_nil, or_false, List.cons_append, List.nil_append] at h9 ⊢; grind))))
      case y1 => exact ⟨Ne.symm (lt2 (I, oI) (by k_mem)), Ne.symm (lt2 (C5, oC) (by k_mem)), Ne.symm (lt2 (a5, oa) (by k_mem))⟩
      case y2 => exact ⟨Ne.symm (lt1 (I, oI) (by k_mem)), Ne.symm (lt1 (C5, oC) (by k_mem)), Ne.symm (lt1 (a5, oa) (by k_mem))⟩
      case eq => exact frac_add_eq hb (by assumption) he hab (frac_mul_eq (by assumption) he3 he2)
      case ne =>
        simp only [List.mem_cons, List.not_mem_nil, or_false]
        rintro p (rfl | rfl | rfl | rfl | rfl | rfl | rfl)
        · exact Ne.symm (lt2 (I₂, oI₂) (by k_mem))
        · exact Ne.symm (lt1 (I₂, oI₂) (by k_mem))
        all_goals exact hn4 _ (by simp only [List.mem_append, List.mem_cons, List.not_mem_nil, or_false]; grind)
    · clear F2 N3
      rintro ord m₂ _ h₅ tk₅ hp hJ96 F4 N4
      refine Classical.byContradiction fun hg9 => ?_
      obtain ⟨y, dy, ks1, ks2, a, b, u1, u2, u3, u4, r910, o1, o3, y1, y2, e1, e2, e3, e5, _, hb, hab, za, zb⟩ := hJ96
      subst r910
      refine hg9 ?_
      clear hg9
      w_strict (k_steps)
      have eb : scoreP (fnAt k) (ms.map intsOf) ws (intsOf km) (i + 1) = placesP (fnAt k) ws[i] (scoreP (fnAt k) (ms.map intsOf) ws (intsOf km) i) ord.length := by
        rw [hp.length_eq, ez]
        show placesP _ (ws.getD i 0) _ (cnt ((ms.map intsOf).getD i []) _) = _
        have q1 : ws.getD i 0 = ws[i] := by simp [List.getD_eq_getElem?_getD, hiw]
        have q2 : (ms.map intsOf).getD i [] = intsOf ms[i] := by simp [List.getD_eq_getElem?_getD, him]
        rw [q1, q2]
      rw [← eb] at hab
      have ho5 : ord.length ≤ 5 := by rw [hp.length_eq]; exact ez5
      refine ⟨rfl, rfl, rfl, _, [(y, instObj 182 dy), (dy, fracD ks1 ks2 a b u1 u2 u3 u4), (g, instObj 233 dg), (dg, dictOf [⟨l1, .str (Str.ofString "name") w1, .str (fnName (fnAt k)) w2⟩, ⟨l2, .str (Str.ofString "param") w3, pw⟩] 2)], F4, newsSub N4 ?sub, ?ne, y, dy, _, _, a, b, _, _, _, _, rfl, o1, o3, e1, e2, e3, hb, hab, za.mono (by omega), zb.mono (by omega)⟩
      case sub => (first | ((try dsimp only [List.cons_append, List.nil_append]); (repeat (refine List.forall_mem_cons.mpr ⟨(by k_mem), ?_⟩)); first | exact List.forall_mem_nil _ | (intro p9 h9; (repeat (first | exact h9 | (refine List.Mem.tail _ ?_))); done)) | ((first | (((try dsimp only [List.cons_append, List.nil_append]); repeat' (first | exact List.forall_mem_nil _ | (refine fmc (by (first | k_mem | ((repeat (first | (with_reducible exact List.Mem.head _) | exact List.mem_append_left _ (by with_reducible assumption) | exact List.mem_append_left _ (List.Mem.head _) | (with_reducible assumption) | (refine List.Mem.tail _ ?_) | (refine List.mem_append_right _ ?_))); done))) ?_) | (refine fma ?_ ?_) | (intro p9 h9; ((repeat (first | exact h9 | exact List.mem_append_left _ h9 | exact List.mem_append_left _ (List.mem_append_left _ h9) | (refine List.Mem.tail _ ?_) | (refine List.mem_append_right _ ?_))); done)))); done) | (intro p9 h9; simp only [List.mem_append, List.mem_cons, List.not_mem_nil, or_false, List.cons_append, List.nil_append] at h9 ⊢; grind))))
      case ne =>
        simp only [List.mem_cons, List.not_mem_nil, or_false]
        rintro p (rfl | rfl | rfl | rfl)
        · exact y1
        · exact y2
        · exact y3
        · exact y4
  · clear F1 N0
    rintro m₁ _ u hJ93 hos GB1 F1 N1
    refine Classical.byContradiction fun hg9 => ?_
    obtain ⟨y, dy, ks1, ks2, a, b, u1, u2, u3, u4, r910, o1, o2', e1, e2, e3, hb, hab, za, zb⟩ := hJ93
    subst r910
    refine hg9 ?_
    clear hg9
    w_strict (k_steps)
    rw [hvl] at hab za zb
    exact hR _ _ a b ⟨F1.keep, GB1, hos⟩ ⟨_, _, _, _, _, _, _, _, rfl, Nat.le_of_lt (Nat.lt_of_le_of_lt F1.above o1), o2', (N1 _ (.head _)).1, (N1 _ (.tail _ (.head _))).1⟩ hb hab (za.mono (by omega)) (zb.mono (by omega))
end
end
section
noncomputable def upd {α : Type} (f : Nat → α) (c : Nat) (v : α) : Nat → α := fun k => if k = c then v else f k
theorem upd_self {α : Type} (f : Nat → α) (c : Nat) (v : α) : upd f c v c = v := if_pos rfl
theorem upd_ne {α : Type} {f : Nat → α} {c k : Nat} {v : α} (h : k ≠ c) : upd f c v k = f k := if_neg h
/-- a list of Fractions in a ledger -/
noncomputable def FracsIn (imm : List (Addr × Obj)) (vs : List Value) (a b : Nat → Int) (K : Nat) : Prop :=
  ∀ c, c < vs.length → ∃ x dx hs1 hs2 t1 t2 t3 t4, vs[c]? = some (Value.ref x) ∧ (x, instObj 182 dx) ∈ imm ∧ (dx, fracD hs1 hs2 (a c) (b c) t1 t2 t3 t4) ∈ imm ∧ 0 < b c ∧ Sz K (a c) ∧ Sz K (b c)
theorem FracsIn.set {imm imm' : List (Addr × Obj)} {vs : List Value} {a b : Nat → Int} {K K' : Nat} (F : FracsIn imm vs a b K) (hK : K ≤ K') (sub : ∀ p ∈ imm, p ∈ imm') {c : Nat} {y dy : Addr} {n d hs1 hs2 : Int} {t1 t2 t3 t4 : Tok}
    (h1 : (y, instObj 182 dy) ∈ imm') (h2 : (dy, fracD hs1 hs2 n d t1 t2 t3 t4) ∈ imm') (hd : 0 < d) (zn : Sz K' n) (zd : Sz K' d) : FracsIn imm' (vs.set c (.ref y)) (upd a c n) (upd b c d) K' := by
  intro k hk
  rw [List.length_set] at hk
  by_cases e : k = c
  · subst e
    rw [upd_self, upd_self]
    exact ⟨y, dy, _, _, _, _, _, _, by rw [List.getElem?_set_self hk], h1, h2, hd, zn, zd⟩
  · rw [upd_ne e, upd_ne e]
    (refine xa_8_6 (F k hk) ?_; intro x dx k1 k2 u1 u2 u3 u4 q1 q2 q3 q4 q5 q6)
    exact ⟨x, dx, k1, k2, u1, u2, u3, u4, by rw [List.getElem?_set_ne (Ne.symm e)]; exact q1, sub _ q2, sub _ q3, q4, q5.mono hK, q6.mono hK⟩
theorem FracsIn.mono {imm imm' : List (Addr × Obj)} {vs : List Value} {a b : Nat → Int} {K K' : Nat} (F : FracsIn imm vs a b K) (hK : K ≤ K') (sub : ∀ p ∈ imm, p ∈ imm') : FracsIn imm' vs a b K' := by
  intro k hk
  (refine xa_8_6 (F k hk) ?_; intro x dx k1 k2 u1 u2 u3 u4 q1 q2 q3 q4 q5 q6)
  exact ⟨x, dx, k1, k2, u1, u2, u3, u4, q1, sub _ q2, sub _ q3, q4, q5.mono hK, q6.mono hK⟩
theorem FracsIn.all {imm : List (Addr × Obj)} {x dx : Addr} {n : Nat} {p d hs1 hs2 : Int} {t1 t2 t3 t4 : Tok} {K : Nat} (h1 : (x, instObj 182 dx) ∈ imm) (h2 : (dx, fracD hs1 hs2 p d t1 t2 t3 t4) ∈ imm) (hd : 0 < d) (zn : Sz K p) (zd : Sz K d) : FracsIn imm (List.replicate n (.ref x)) (fun _ => p) (fun _ => d) K := by
  intro k hk
  rw [List.length_replicate] at hk
  exact ⟨x, dx, _, _, _, _, _, _, by rw [List.getElem?_replicate, if_pos hk], h1, h2, hd, zn, zd⟩
/-- what candidate c's entry is, i voters walked; sh: the place asked beyond what is there -/
noncomputable def margP (f : Fn) (ms : List Nat) (ws : List Int) (km sh : Nat) : Nat → Nat → Int × Int
  | 0, _ => (0, 1)
  | i + 1, c => if (ms.getD i 0).testBit c then addP (margP f ms ws km sh i c) (gainP f (ws.getD i 0) (((zsOf (ms.getD i 0 &&& km)).length + sh : Nat) : Int)) else margP f ms ws km sh i c
theorem rep_obj (n : Nat) (v : Value) : ({ cls := Value.type "list", data := Data.seq (List.foldl (fun x1 x2 => x1 ++ x2) #[] (List.replicate (if (#[v] : Array Value).isEmpty = true then 0 else ((n : Nat) : Int).toNat) #[v])) } : Obj) = W.listOf (List.toArray (List.replicate n v)) 0 := by
  have e := listMul_foldl_if #[v] n
  have e2 : ((n : Nat) : Int).toNat = n := Int.toNat_natCast n
  rw [e2, e]
  have e3 : (List.replicate n ([v] : List Value)).flatten = List.replicate n v := by
    induction n with
    | zero => rfl
    | succ k ih => rw [List.replicate_succ, List.flatten_cons, ih (by first | exact listMul_foldl_if #[v] k) (Int.toNat_natCast k)]; rfl
  rw [show (#[v] : Array Value).toList = [v] from rfl, e3]
theorem headOne2 {h₀ h : Heap} {L a x dx : Addr} {o : Obj} {n d hs1 hs2 : Int} {t1 t2 t3 t4 : Tok} {rest : List (Addr × Obj)} {m : (Addr × Obj)} (N : News h₀ L h ((a, o) :: m :: (x, instObj 182 dx) :: (dx, fracD hs1 hs2 n d t1 t2 t3 t4) :: rest)) : ∃ a' y dy, News h₀ L h ((a', o) :: (y, instObj 182 dy) :: (dy, fracD hs1 hs2 n d t1 t2 t3 t4) :: rest) ∧ a' = a ∧ y = x ∧ dy = dx :=
  ⟨a, x, dx, fun p hp => N p (by
    rcases List.mem_cons.mp hp with rfl | hp
    · exact .head _
    · exact .tail _ (.tail _ hp)), rfl, rfl, rfl⟩
theorem objNe {h₀ h : Heap} {L a b : Addr} {oa ob : Obj} {news : List (Addr × Obj)} (N : News h₀ L h news) (ha : (a, oa) ∈ news) (hb : (b, ob) ∈ news) (hc : oa.cls ≠ ob.cls) : a ≠ b := fun q => by
  have e1 := (N _ ha).1
  have e2 := (N _ hb).1
  dsimp only at e1 e2
  rw [q, e2] at e1
  cases e1
  exact hc rfl
theorem zs_nodup (n : Nat) : (zsOf n).Nodup := List.Pairwise.sublist List.filter_sublist List.nodup_range
theorem not_in_take {ord : List Nat} {n j z : Nat} (hp : List.Perm ord (zsOf n)) (h : ord[j]? = some z) : z ∉ ord.take j := by
  have nd : ord.Nodup := hp.nodup_iff.mpr (zs_nodup n)
  intro hm
  obtain ⟨i, hi, e⟩ := List.getElem_of_mem hm
  have hi' : i < j := by have := hi; rw [List.length_take] at this; omega
  have hj : j < ord.length := (List.getElem?_eq_some_iff.mp h).1
  rw [List.getElem_take] at e
  have e2 : ord[j] = z := (List.getElem?_eq_some_iff.mp h).2
  exact (List.pairwise_iff_getElem.mp nd) i j (by omega) hj hi' (by rw [e, e2])
theorem take_succ_mem {ord : List Nat} {j z c : Nat} (h : ord[j]? = some z) : c ∈ ord.take (j + 1) ↔ c ∈ ord.take j ∨ c = z := by
  have hj : j < ord.length := (List.getElem?_eq_some_iff.mp h).1
  have e : ord[j] = z := (List.getElem?_eq_some_iff.mp h).2
  rw [List.take_succ_eq_append_getElem hj, List.mem_append, List.mem_singleton, e]
section
variable {prog : Program} {w : World} {A : Around} {E : Value → Shared → Prop} {s : Shared} {h₀ : Heap} {L D : Addr} {m : Str → Option Value} {news : List (Addr × Obj)}
theorem getItem_k {vs : List Value} {ep : Nat} {k : Int} {t : Tok} {v : Value} {Q : Value → Shared → Prop} (N : News h₀ L s.heap news) (hm : (D, W.listOf (List.toArray vs) ep) ∈ news) (h0 : 0 ≤ k) (h1 : k < 1000) (hx : vs[k.toNat]? = some v) (h : Q v s) :
    wpAny (model prog w) A (getItem (.ref D) (.int k t)) Q E s :=
  wpAny_getItem_list ⟨_, (N _ hm).1, rfl, _, rfl⟩ h0 (by omega) (by simpa using hx) h
theorem setItem_k {vs : List Value} {ep : Nat} {g : Obj → List (Addr × Obj)} {k : Int} {t : Tok} {v : Value} {Q : Unit → Shared → Prop} (F : Fr h₀ L s.heap m) (N : News h₀ L s.heap news) (U : UpdF D (W.listOf (List.toArray vs) ep) news g) (h0 : 0 ≤ k) (h1 : k < 1000) (hk : k < vs.length)
    (h : ∀ h', Fr h₀ L h' m → News h₀ L h' (g (W.listOf (List.toArray (vs.set k.toNat v)) ep)) → Q () { s with heap := h' }) : wpAny (model prog w) A (setItem (.ref D) (.int k t) v) Q E s := by
  refine Classical.byContradiction fun hg9 => ?_
  (refine xa_2_4 (U.split) ?_; intro pre post r92 hg a b)
  subst r92
  refine hg9 ?_
  clear hg9
  have z := N (D, W.listOf (List.toArray vs) ep) (List.mem_append.mpr (.inr (.head _)))
  refine ki_setAt z.1 h0 (by omega) (by simpa using hk) (h _ (F.change (Heap.SameBut.update ..) z.2.1 z.2.2) ?_)
  rw [hg]
  refine ki_turn _ N a b ?_ ?_
  · simp
  · rw [if_pos (by simp)]
end
theorem sz_zero (k : Nat) (h : 1 ≤ k) : Sz k 0 := Sz.mono (show Sz 1 0 by unfold Sz; decide) h
theorem margP_in {f : Fn} {ms : List Nat} {ws : List Int} {km sh i c : Nat} (him : i < ms.length) (hiw : i < ws.length) (h : ms[i].testBit c = true) : margP f ms ws km sh (i + 1) c = addP (margP f ms ws km sh i c) (gainP f ws[i] (((zsOf (ms[i] &&& km)).length + sh : Nat) : Int)) := by
  have q1 : ws.getD i 0 = ws[i] := by simp [List.getD_eq_getElem?_getD, hiw]
  have q2 : ms.getD i 0 = ms[i] := by simp [List.getD_eq_getElem?_getD, him]
  show (if (ms.getD i 0).testBit c then _ else _) = _
  rw [q2, if_pos h, q1]
theorem margP_out {f : Fn} {ms : List Nat} {ws : List Int} {km sh i c : Nat} (him : i < ms.length) (h : ¬ ms[i].testBit c = true) : margP f ms ws km sh (i + 1) c = margP f ms ws km sh i c := by
  have q2 : ms.getD i 0 = ms[i] := by simp [List.getD_eq_getElem?_getD, him]
  show (if (ms.getD i 0).testBit c then _ else _) = _
  rw [q2, if_neg h]
theorem zs_at {cv : List Value} {km j : Nat} (hi : IntsAre cv (intsOf km)) {v : Value} (hv : cv[j]? = some v) : ∃ z t, (zsOf km)[j]? = some z ∧ v = .int ((z : Nat) : Int) t := by
  have hl : j < (intsOf km).length := by rw [← hi.length]; exact (List.getElem?_eq_some_iff.mp hv).1
  have hz : j < (zsOf km).length := by rw [← intsOf_len]; exact hl
  obtain ⟨t, ht⟩ := hi.get j (((zsOf km)[j] : Nat) : Int) (by simp [intsOf, hz])
  rw [hv] at ht
  exact ⟨_, t, List.getElem?_eq_getElem hz, Option.some.inj ht⟩
/-- one entry turned: what holds of the others -/
theorem marg_step {ord : List Nat} {n j z nc : Nat} {a b : Nat → Int} {c d : Int} {T0 T1 : Nat → Int × Int} (hp : List.Perm ord (zsOf n)) (hoj : ord[j]? = some z)
    (hab : ∀ k, k < nc → a k * (if k ∈ ord.take j then T1 k else T0 k).2 = (if k ∈ ord.take j then T1 k else T0 k).1 * b k) (hz : c * (T1 z).2 = (T1 z).1 * d) :
    ∀ k, k < nc → upd a z c k * (if k ∈ ord.take (j + 1) then T1 k else T0 k).2 = (if k ∈ ord.take (j + 1) then T1 k else T0 k).1 * upd b z d k := by
  intro k hk
  by_cases e : k = z
  · subst e
    rw [if_pos ((take_succ_mem hoj).mpr (.inr rfl)), upd_self, upd_self]
    exact hz
  · rw [upd_ne e, upd_ne e]
    have q : k ∈ ord.take (j + 1) ↔ k ∈ ord.take j := (take_succ_mem hoj).trans ⟨fun h => h.elim id fun h => absurd h e, .inl⟩
    simp only [q]
    exact hab k hk
noncomputable def addT (f : Fn) (ms : List Nat) (ws : List Int) (km c : Nat) : Int × Int := if c ∈ zsOf km then (-1, 1) else margP f ms ws km 1 ms.length c
end
section
theorem frac_le_trans {a b c d e f : Int} (hb : 0 < b) (hd : 0 < d) (hf : 0 < f) (h1 : a * d ≤ c * b) (h2 : c * f ≤ e * d) : a * f ≤ e * b := by
  have k1 : a * d * f ≤ c * b * f := Int.mul_le_mul_of_nonneg_right h1 (Int.le_of_lt hf)
  have k2 : c * f * b ≤ e * d * b := Int.mul_le_mul_of_nonneg_right h2 (Int.le_of_lt hb)
  have e1 : c * b * f = c * f * b := by grind
  have e2 : a * d * f = a * f * d := by grind
  have e3 : e * d * b = e * b * d := by grind
  refine Int.le_of_mul_le_mul_right (a := d) ?_ hd
  omega
section
variable {prog : Program} {w : World} {A : Around} {R : Result → Shared → Prop}
/-- the walk of max over a list of instances that compare -/
theorem max_loop {hb : Heap} {I S l : Addr} {vs : List Value} {a b : Nat → Int} (hh : A.handled = none) (nI : hb.get? I = none) (nS : hb.get? S = none) (hSI : S ≠ I) (hl : hb.IsList l vs.toArray) (hpos : ∀ i, i < vs.length → 0 < b i)
    (hcmp : ∀ (i j : Nat) (s : Shared) (Q : Value → Shared → Prop) (E : Value → Shared → Prop), (hi : i < vs.length) → (hj : j < vs.length) → (∀ c o, hb.get? c = some o → s.heap.get? c = some o) → (∀ s', Done s s' → Q (.bool (decide (a i * b j > a j * b i))) s') → wpAny (model prog w) A.in1 (richCompare .Gt vs[i] vs[j]) Q E s) :
    ∀ (k j best : Nat) (s : Shared) (c : Nat), vs.length - (j + 1) = k → j + 1 ≤ vs.length → (hbe : best < vs.length) → (∀ i, i ≤ j → a i * b best ≤ a best * b i) → s.heap.IsListIter I l (j + 1) → (∀ d o, hb.get? d = some o → s.heap.get? d = some o) →
      s.heap.get? S = some { cls := .type "list", dict := none, data := .seq #[vs[best], vs[best]] c, slots := #[] } →
      (∀ (best : Nat) (h' : Heap) (tk : Nat), (hbe : best < vs.length) → (∀ i, i < vs.length → a i * b best ≤ a best * b i) → (∀ d o, hb.get? d = some o → h'.get? d = some o) → R (.ok (.ret vs[best])) { s with heap := h', toks := tk }) →
      codeAny (model prog w) A (.builtin "max.loop" ⟨[.ref I, .none, .ref S], []⟩) R s := by
  have hname : (toString "max" ++ toString ".loop" : String) = "max.loop" := by decide
  intro k
  induction k with
  | zero =>
    intro j best s c hk hj hbe hmax hit hkeep hS hR
    refine codeAny_builtin F.entry_max_loop ?_
    rw [Around.under_plainId F.plain_max_loop _]
    show wpAny _ A.in1 (seqItems? (.ref S) >>= _) _ _ s
    refine wpAny_bind (wpAny_seqItems hS rfl ?_)
    show wpAny _ A.in1 (tryCatch (pyNext (.ref I)) _ >>= _) _ _ s
    refine wpAny_bind (wpAny_tryCatch (wpAny_pyNext_list_end hh hit (stays_list hkeep hl) (by simp; omega) fun h' he => ?_))
    have hS' := he S _ hSI hS
    show wpAny _ A.in1 (updateSeq S (fun _ => #[]) >>= _) _ _ _
    refine wpAny_bind ?_
    refine wpAny_updateSeq hS' rfl (wpAny_bind (wpAny_letGo (wpAny_pure ?_)))
    exact hR best _ _ hbe (fun i hi => hmax i (by omega)) fun d o e => (Heap.get?_update_other _ _ (fun q : S = d => by rw [← q, nS] at e; cases e)).trans (he d o (fun q => by rw [q, nI] at e; cases e) (hkeep d o e))
  | succ k ih =>
    intro j best s c hk hj hbe hmax hit hkeep hS hR
    have hlt : j + 1 < vs.length := by omega
    refine codeAny_builtin F.entry_max_loop ?_
    rw [Around.under_plainId F.plain_max_loop _]
    show wpAny _ A.in1 (seqItems? (.ref S) >>= _) _ _ s
    refine wpAny_bind (wpAny_seqItems hS rfl ?_)
    show wpAny _ A.in1 (tryCatch (pyNext (.ref I)) _ >>= _) _ _ s
    refine wpAny_bind (wpAny_tryCatch (wpAny_pyNext_list_item (x := vs[j + 1]) hit (stays_list hkeep hl) (by simp [hlt]) fun h₁ hit₁ hs₁ => ?_))
    have hS₁ : h₁.get? S = _ := (hs₁.2 S hSI).trans hS
    have hk₁ : ∀ d o, hb.get? d = some o → h₁.get? d = some o := fun d o e => (hs₁.2 d (fun q => by rw [q, nI] at e; cases e)).trans (hkeep d o e)
    show wpAny _ A.in1 (tryCatch (holding [vs[j + 1], vs[j + 1]] (richCompare .Gt vs[j + 1] vs[best] >>= _)) _ >>= _) _ _ _
    refine wpAny_bind (wpAny_tryCatch (wpAny_holding (wpAny_bind (hcmp (j + 1) best _ _ _ hlt hbe hk₁ fun s₂ D => ?_))))
    refine wpAny_bind (wpAny_holding (wpAny_truthy_bool ?_))
    refine wpAny_bind (wpAny_letGo (wpAny_pure ?_))
    have hS₂ := D.keep _ _ hS₁
    have hk₂ : ∀ d o, hb.get? d = some o → s₂.heap.get? d = some o := fun d o e => D.keep _ _ (hk₁ d o e)
    have hit₂ : s₂.heap.IsListIter I l (j + 1 + 1) := hit₁.at fun o e => D.keep _ _ e
    have e₂ := D.is
    by_cases hg : a (j + 1) * b best > a best * b (j + 1)
    · rw [decide_eq_true hg]
      simp only [if_true]
      refine wpAny_bind ?_
      refine wpAny_updateSeq hS₂ rfl (wpAny_bind (wpAny_letGo ?_))
      rw [hname]
      refine wpAny_pure ⟨plainId_quiet F.plain_max_loop _, ih (j + 1) (j + 1) _ _ (by omega) hlt hlt (fun i hi => ?_) (hit₂.at fun o e => (Heap.get?_update_other _ _ hSI).trans e) (fun d o e => (Heap.get?_update_other _ _ (fun q : S = d => by rw [← q, nS] at e; cases e)).trans (hk₂ d o e)) (Heap.get?_update_self _ hS₂ rfl) fun be h' tk q1 q2 q3 => ?_⟩
      · rcases Nat.lt_or_ge i (j + 1) with q | q
        · exact frac_le_trans (hpos i (by omega)) (hpos best hbe) (hpos (j + 1) hlt) (hmax i (by omega)) (Int.le_of_lt hg)
        · obtain rfl : i = j + 1 := by omega
          exact Int.le_refl _
      · have := hR be h' tk q1 q2 q3
        rw [e₂]
        exact this
    · rw [decide_eq_false hg]
      simp only [Bool.false_eq_true, if_false]
      refine wpAny_bind (wpAny_letGo ?_)
      rw [hname]
      refine wpAny_pure ⟨plainId_quiet F.plain_max_loop _, ih (j + 1) best s₂ c (by omega) hlt hbe (fun i hi => ?_) hit₂ hk₂ hS₂ fun be h' tk q1 q2 q3 => ?_⟩
      · rcases Nat.lt_or_ge i (j + 1) with q | q
        · exact hmax i (by omega)
        · obtain rfl : i = j + 1 := by omega
          exact Int.not_lt.mp hg
      · have := hR be h' tk q1 q2 q3
        rw [e₂]
        exact this
theorem call_max {s : Shared} {E : Value → Shared → Prop} {l : Addr} {vs : List Value} {a b : Nat → Int} {Q : Value → Shared → Prop} (hh : A.handled = none) (hl : s.heap.IsList l vs.toArray) (hn : 0 < vs.length) (hpos : ∀ i, i < vs.length → 0 < b i)
    (hcmp : ∀ (i j : Nat) (s' : Shared) (Q : Value → Shared → Prop) (E : Value → Shared → Prop), (hi : i < vs.length) → (hj : j < vs.length) → (∀ c o, s.heap.get? c = some o → s'.heap.get? c = some o) → (∀ s'', Done s' s'' → Q (.bool (decide (a i * b j > a j * b i))) s'') → wpAny (model prog w) A.in1 (richCompare .Gt vs[i] vs[j]) Q E s')
    (h : ∀ (best : Nat) (h' : Heap) (tk : Nat), (hbe : best < vs.length) → (∀ i, i < vs.length → a i * b best ≤ a best * b i) → (∀ d o, s.heap.get? d = some o → h'.get? d = some o) → Q vs[best] { s with heap := h', toks := tk }) :
    wpAny (model prog w) A (call (.builtin "max") [.ref l]) Q E s := by
  have hname : (toString "max" ++ toString ".loop" : String) = "max.loop" := by decide
  refine call_function_tree F.kind_max F.plain_max F.entry_max (F.args_max1 _) ?_
  show wpAny _ A.in1 (Builtin.Builtins.bindParams "max" ["key", "default"] 0 ⟨[], []⟩ >>= _) _ _ s
  refine wpAny_bind (wpAny_of_eq (show Builtin.Builtins.bindParams "max" ["key", "default"] 0 ⟨[], []⟩ = pure [none, none] from rfl) ?_)
  refine wpAny_bind (wpAny_pure ?_)
  refine wpAny_bind (wpAny_pyIter_list hl ?_)
  refine wpAny_bind (wpAny_newObj_type ?_)
  rw [hname]
  have nI : s.heap.get? s.heap.objs.size = none := Heap.get?_none_of_le (Nat.le_refl _)
  have nS : s.heap.get? (s.heap.objs.size + 1) = none := Heap.get?_none_of_le (Nat.le_succ _)
  have eS : ∀ o, (s.heap.push o).objs.size = s.heap.objs.size + 1 := fun o => Heap.size_push ..
  have nSI : s.heap.objs.size + 1 ≠ s.heap.objs.size := Nat.succ_ne_self _
  refine wpAny_pure ⟨plainId_quiet F.plain_max_loop _, ?_⟩
  rw [show ∀ o, (({ s with heap := s.heap.push o } : Shared).heap.objs.size) = s.heap.objs.size + 1 from eS]
  refine codeAny_builtin F.entry_max_loop ?_
  rw [Around.under_plainId F.plain_max_loop _]
  have hS : ∀ o, ((s.heap.push o).push { cls := .type "list", data := .seq #[] }).get? (s.heap.objs.size + 1) = some { cls := .type "list", dict := none, data := .seq #[] 0, slots := #[] } := fun o => by
    have := Heap.get?_push_size (s.heap.push o) (o := { cls := .type "list", data := .seq #[] }) rfl
    rwa [eS] at this
  have k0 : ∀ o o' d ob, s.heap.get? d = some ob → ((s.heap.push o).push o').get? d = some ob := fun o o' d ob e => Heap.get?_push_of_some _ (Heap.get?_push_of_some _ e)
  show wpAny _ A.in1 (seqItems? (.ref (s.heap.objs.size + 1)) >>= _) _ _ _
  refine wpAny_bind (wpAny_seqItems (hS _) rfl ?_)
  show wpAny _ A.in1 (tryCatch (pyNext (.ref s.heap.objs.size)) _ >>= _) _ _ _
  refine wpAny_bind (wpAny_tryCatch (wpAny_pyNext_list_item (l := l) (i := 0) (x := vs[0]) ⟨_, Heap.get?_push_of_some _ (Heap.get?_push_size _ rfl), rfl, rfl⟩ (stays_list (k0 _ _) hl) (by simp [hn]) fun h₁ hit₁ hs₁ => ?_))
  have hS₁ := (hs₁.2 _ nSI).trans (hS _)
  have hk₁ : ∀ d o, s.heap.get? d = some o → h₁.get? d = some o := fun d o e => (hs₁.2 d (fun q => by rw [q, nI] at e; cases e)).trans (k0 _ _ d o e)
  show wpAny _ A.in1 (updateSeq (s.heap.objs.size + 1) (fun _ => #[vs[0], vs[0]]) >>= _) _ _ _
  refine wpAny_bind ?_
  refine wpAny_updateSeq hS₁ rfl ?_
  rw [hname]
  refine wpAny_pure ⟨plainId_quiet F.plain_max_loop _, max_loop hh nI nS nSI hl hpos hcmp (vs.length - 1) 0 0 _ _ rfl hn hn (fun i hi => ?_) (hit₁.at fun o e => (Heap.get?_update_other _ _ nSI).trans e) (fun d o e => (Heap.get?_update_other _ _ (fun q => by rw [← q, nS] at e; cases e)).trans (hk₁ d o e)) (Heap.get?_update_self _ hS₁ rfl) fun be h' tk q1 q2 q3 => ?_⟩
  · obtain rfl : i = 0 := by omega
    exact Int.le_refl _
  · exact h be h' tk q1 q2 q3
end
end
theorem words38 : True := by
  k_with_none
  (k_with "ite" => (first | (refine ite_pos (by ((try simp only [beq_iff_eq, bne_iff_ne, decide_eq_true_eq, Bool.not_eq_true', decide_eq_false_iff_not, beq_eq_false_iff_ne, ne_eq]); omega)) ?_) | (refine ite_neg (by ((try simp only [beq_iff_eq, bne_iff_ne, decide_eq_true_eq, Bool.not_eq_true', decide_eq_false_iff_not, beq_eq_false_iff_ne, ne_eq]); omega)) ?_)))
  (k_with "binaryOp FloorDiv int int" => ((k_dflt (refine' floordiv_int ?h1_q ?_ (Or.inl (PyProof.noPylong_of_log2 ?h2_q)); (case h1_q => omega); (case h2_q => first | assumption | exact Sz.log (by assumption))))))
  (k_with "binaryOp Mult int int" => ((k_dflt (refine' mul_int ?_ ?hm_q; (case hm_q => exact Sz.ok (by with_reducible assumption) (by with_reducible assumption) (by omega))))))
  (k_with "call ref" => (((with_reducible show wpAny _ _ (call (Value.ref 182) [Value.int _ _, Value.int _ _]) _ _ _); k_dflt (refine' frac_k ?F_q ?N_q ?X_q ?T_q ?A_q ?b_q ?z_q ?k_q ?_; (case F_q => k_asm); (case N_q => k_asm); (case X_q => k_asm); (case T_q => k_asm); (case A_q => exact Room.le (by assumption) (by decide)); (case b_q => first | assumption | omega | (exact Int.mul_pos (by assumption) (by assumption))); (case z_q => first | assumption | exact Sz.mul (by assumption) (by assumption)); (case k_q => omega)); intro _ _ _ _ _ _ _ _ _ _ _ _ _ _ _ _ _ _ _ _ _)))
  (k_with "binaryOp Pow int int" => ((k_dflt (refine' pow_int_small ?h1_q ?h2_q ?h3_q ?_; (case h1_q => omega); (case h2_q => omega); (case h3_q => omega)))))
  (k_with "call ref" => (((with_reducible show wpAny _ _ (call (Value.ref 182) [Value.int _ _]) _ _ _); k_dflt (refine' frac1_k ?F_q ?N_q ?X_q ?T_q ?A_q ?_; (case F_q => k_asm); (case N_q => k_asm); (case X_q => k_asm); (case T_q => k_asm); (case A_q => exact Room.le (by assumption) (by decide))); intro _ _ _ _ _ _ _ _ _ _ _ _ _ _ _)))
  (k_with "eval Name" => ((k_dflt (first | (refine' nmL ?F_q ?e_q ?v_q ?_ ?a_q ?b_q ?d_q; (case F_q => with_reducible assumption); (case e_q => exact rfl); (case v_q => first | with_reducible assumption | ((try dsimp only); first | exact (if_neg (by decide)).trans (by with_reducible assumption) | exact (if_neg (by decide)).trans ((if_neg (by decide)).trans (by with_reducible assumption)) | exact (if_neg (by decide)).trans ((if_neg (by decide)).trans ((if_neg (by decide)).trans (by with_reducible assumption)))) | exact rfl); (case a_q => exact rfl); (case b_q => exact rfl); (case d_q => decide); k_whole) | (refine' nmC ?F_q ?c_q ?o_q ?d_q ?_ ?a_q ?b_q ?g_q; (case F_q => with_reducible assumption); (case a_q => exact rfl); (case b_q => exact rfl); (case c_q => exact rfl); (case o_q => with_reducible assumption); (case d_q => with_reducible assumption); (case g_q => decide); k_whole) | (refine' nameG_K ?F_q ?X_q ?T_q ?e_q ?_ ?g_q ?a_q ?b_q ?d_q; (case F_q => with_reducible assumption); (case X_q => k_asm); (case T_q => k_asm); (case a_q => exact rfl); (case b_q => exact rfl); (case e_q => k_is); (case g_q => exact rfl); (case d_q => decide); k_whole) | (refine' nmB ?F_q ?X_q ?T_q ?e_q ?v_q ?n_q ?_ ?g_q ?h_q ?a_q ?b_q ?d_q; (case F_q => with_reducible assumption); (case X_q => k_asm); (case T_q => k_asm); (case a_q => exact rfl); (case b_q => exact rfl); (case e_q => k_is); (case v_q => boot_fast); (case n_q => decide); (case g_q => exact rfl); (case h_q => exact rfl); (case d_q => decide); k_whole)))))
  (k_with "call ref" => (((with_reducible show wpAny _ _ (call (Value.ref 492) [Value.ref _, Value.int _ _]) _ _ _); k_dflt (refine' liftI ?F_q ?N_q ?X_q ?T_q (cellZ _ _) (fun R hR => cell_code ⟨Frag.In.keeps (by k_asm) (Fr.keep (by k_asm)), _, _, _, _, _, Top.keeps (by k_asm) (Fr.keep (by k_asm))⟩ (Room.le (by assumption) (by decide)) (stays_list (Fr.keep (by with_reducible assumption)) (by with_reducible assumption)) (by with_reducible assumption) (by with_reducible assumption) (by omega) (by omega) hR) ?_; (case F_q => k_asm); (case N_q => k_asm); (case X_q => k_asm); (case T_q => k_asm)); intro _ _ _ _ _ _)))
  (k_with "exec For" => ((with_unfolding_all refine for_at ?_)))
  (k_with "pyIter ref" => (first | (with_reducible refine hold_pyF ?_) | (with_reducible refine hold_pyC ?_)))
  (k_with "call builtin:len" => (((with_reducible show wpAny _ _ (call (Value.builtin "len") [Value.ref _]) _ _ _); k_dflt (refine' len_old ?F_q ?l_q ?f_q ?_; (case F_q => with_reducible assumption); (case l_q => with_reducible assumption); (case f_q => omega)))))
  (k_with "subscriptTail Name Name ref int" => (((with_reducible show wpAny _ _ (subscriptTail _ _ (Value.ref _) (Value.int _ _)) _ _ _); k_dflt (refine' item_at ?l_q ?a_q ?b_q ?x_q ?_ ?s_q; (case l_q => with_reducible assumption); (case x_q => with_reducible assumption); (case a_q => omega); (case b_q => omega); (case s_q => with_unfolding_all rfl)))))
  (k_with "compareOp In int ref" => ((k_dflt (refine' in_list_ints ?l_q ?i_q ?_; (case l_q => with_reducible assumption); (case i_q => with_reducible assumption)))))
  (k_with "call builtin:len" => (((with_reducible show wpAny _ _ (call (Value.builtin "len") [Value.ref _]) _ _ _); k_dflt (refine' len_cur ?l_q ?f_q ?_; (case l_q => with_reducible assumption); (case f_q => omega)))))
  (k_with "exec For Name Call cons nil" => ((with_unfolding_all refine for_at ?_)))
  (k_with "exec For Name Name cons nil" => ((with_unfolding_all refine for_at ?_)))
  (k_with "call ref" => (((with_reducible show wpAny _ _ (call (Value.ref 511) [Value.str (nameAt _) _, Value.int _ _]) _ _ _); k_dflt (refine' liftPair ?F_q ?N_q ?X_q ?T_q (gN (fnAt _) _) (gD (fnAt _) _) (fun R hR => gain_code ⟨Frag.In.keeps (by k_asm) (Fr.keep (by k_asm)), _, _, _, _, _, Top.keeps (by k_asm) (Fr.keep (by k_asm))⟩ (Room.le (by assumption) (by decide)) (by assumption) (by omega) (by omega) hR) ?_; (case F_q => k_asm); (case N_q => k_asm); (case X_q => k_asm); (case T_q => k_asm)); intro _ _ _ _ _ _ _ l9q; replace l9q := allNe_of l9q; simp only [AllNe, and_true] at l9q)))
  (k_with "call ref" => (((with_reducible show wpAny _ _ (call (Value.ref 518) [Value.ref _, Value.ref _]) _ _ _); k_dflt (refine' liftPair ?F_q ?N_q ?X_q ?T_q _ _ (fun R hR => add_code ⟨Frag.In.keeps (by k_asm) (Fr.keep (by k_asm)), _, _, _, _, _, Top.keeps (by k_asm) (Fr.keep (by k_asm))⟩ (Room.le (by assumption) (by decide)) (pairOfNews (by k_asm) (by k_mem)) (pairOfNews (by k_asm) (by k_mem)) (by with_reducible assumption) (by with_reducible assumption) (by with_reducible assumption) (by with_reducible assumption) (by omega) hR) ?_; (case F_q => k_asm); (case N_q => k_asm); (case X_q => k_asm); (case T_q => k_asm)); intro _ _ _ _ _ _ _ l9q; replace l9q := allNe_of l9q; simp only [AllNe, and_true] at l9q)))
  trivial
section
theorem max_k {prog : Program} {w : World} {A : Around} {s : Shared} {h₀ : Heap} {L : Addr} {m mg mb : Str → Option Value} {news : List (Addr × Obj)} {p : Program} {loose : List Str} {mean : ExcName → Option Value} {Q : Value → Shared → Prop} {E : Value → Shared → Prop} (F : Fr h₀ L s.heap m) (N : News h₀ L s.heap news) (X : (hd.heap_1 w.params).In h₀) (T : Top p loose mean mg mb h₀) (hA : Room A 12) {l : Addr} {vs : List Value} {ep K : Nat} {a b : Nat → Int} {imm : List (Addr × Obj)} (hm : (l, W.listOf (List.toArray vs) ep) ∈ news) (hfr : FracsIn imm vs a b K) (sub : ∀ p ∈ imm, p ∈ news) (hK : K + K ≤ 7000) (hn : 0 < vs.length)
    (h : ∀ (best : Nat) (h' : Heap) (tk : Nat), (hbe : best < vs.length) → (∀ i, i < vs.length → a i * b best ≤ a best * b i) → Fr h₀ L h' m → News h₀ L h' news → Q vs[best] { s with heap := h', toks := tk }) :
    wpAny (model prog w) A (call (.builtin "max") [.ref l]) Q E s := by
  w_on
  refine call_max hA.hd ⟨_, (N _ hm).1, rfl, _, rfl⟩ hn (fun i hi => (by obtain ⟨_, _, _, _, _, _, _, _, _, _, _, hp, _⟩ := hfr i hi; exact hp)) (fun i j s' Q' E' hi hj hk hq => ?_) fun best h' tk hbe hmx hk => h best h' tk hbe hmx (F.after hk) (newsAfter N hk)
  (refine xa_8_6 (hfr i hi) ?_; intro x dx hs1 hs2 t1 t2 t3 t4 q1 q2 q3 q4 q5 q6)
  (refine xa_8_6 (hfr j hj) ?_; intro y dy hs3 hs4 u1 u2 u3 u4 r1 r2 r3 r4 r5 r6)
  rw [List.getElem?_eq_getElem hi] at q1
  rw [List.getElem?_eq_getElem hj] at r1
  rw [Option.some.inj q1, Option.some.inj r1]
  have F9 := F.after hk
  have N9 := newsAfter N hk
  have I9 : InstAt s'.heap x (instObj 182 dx) 182 (some (fracD hs1 hs2 (a i) (b i) t1 t2 t3 t4)) := ⟨(N9 _ (sub _ q2)).1, rfl, rfl, (N9 _ (sub _ q3)).1⟩
  have J9 : InstAt s'.heap y (instObj 182 dy) 182 (some (fracD hs3 hs4 (a j) (b j) u1 u2 u3 u4)) := ⟨(N9 _ (sub _ r2)).1, rfl, rfl, (N9 _ (sub _ r3)).1⟩
  have hA1 : Room A.in1 11 := hA.in1
  have hun : A.in1.units < cLine := by
    have h9 := hA1.units
    have h10 : (9000 : Nat) < cLine := by decide
    omega
  k_dflt (refine' cmp_K (K := hd.heap_1 w.params) (f := 172) hun F9 X I9 (InstAt.type J9) ?k6 ?k7 ?k8 ?_; (case k6 => k_is); (case k7 => k_is); (case k8 => k_is))
  refine call_of (frac_gt_code ⟨X.keeps F9.keep, p, loose, mean, mg, mb, T.keeps F9.keep⟩ (hA1.le (by decide)) ⟨x, dx, _, _, _, _, _, _, rfl, I9.1, (N9 _ (sub _ q3)).1⟩ ⟨y, dy, _, _, _, _, _, _, rfl, J9.1, (N9 _ (sub _ r3)).1⟩ q5 q6 r5 r6 hK fun s'' D => ?_)
  exact hq s'' D
end
section
section
local macro_rules | `(tactic| k_all) => `(tactic| first | exact List.forall_mem_nil _ | with_reducible assumption | (refine' List.forall_mem_cons.mpr ⟨?a, ?b⟩; (case a => k_ne); (case b => k_all)))
theorem words39 : True := by
  (k_with "call ref" => (((with_reducible show wpAny _ _ (call (Value.ref _) [Value.int _ _]) _ _ _); k_dflt (refine' liftF ?F_q ?N_q ?X_q ?T_q (FnP _ _) (fun R hR => fn_call ⟨Frag.In.keeps (by k_asm) (Fr.keep (by k_asm)), _, _, _, _, _, Top.keeps (by k_asm) (Fr.keep (by k_asm))⟩ (Room.le (by assumption) (by decide)) (IsFn.keep (by with_reducible assumption) (Fr.keep (by with_reducible assumption))) (by omega) (by omega) hR) ?_; (case F_q => k_asm); (case N_q => k_asm); (case X_q => k_asm); (case T_q => k_asm)); intro _ _ _ _ _ _ _ _ _ _ _ _ _ _ _ _ _ P9q; obtain ⟨P19, P29, P39, P49⟩ := P9q; replace P39 := Sz.mono P39 (show 1 ≤ 40 by decide))))
  (k_with "loadName" => ((k_dflt (refine' lnL ?F_q ?e_q ?v_q ?_ ?a_q ?b_q; (case F_q => with_reducible assumption); (case e_q => exact rfl); (case v_q => first | with_reducible assumption | ((try dsimp only); first | exact (if_neg (by decide)).trans (by with_reducible assumption) | exact (if_neg (by decide)).trans ((if_neg (by decide)).trans (by with_reducible assumption)) | exact (if_neg (by decide)).trans ((if_neg (by decide)).trans ((if_neg (by decide)).trans (by with_reducible assumption)))) | exact rfl); (case a_q => exact rfl); (case b_q => exact rfl); k_whole))))
  (k_with "call ref nil" => (((with_reducible show wpAny _ _ (call (Value.ref _) ([] ++ _)) _ _ _); dsimp only [List.nil_append])))
  (k_with "inplaceOp Add ref" => (((with_reducible show wpAny _ _ (inplaceOp _ (Value.ref _) (Value.ref _)) _ _ _); k_dflt (refine' inplace_K ?k1_q ?k2_q ?k3_q ?k4_q ?k5_q ?k8_q ?k11_q ?k9_q ?k10_q ?k6_q ?k7_q ?_; (case k1_q => k_asm); (case k2_q => k_asm); (case k3_q => k_inst); (case k4_q => k_typeOf); (case k5_q => k_is); (case k8_q => k_is); (case k11_q => exact rfl); (case k9_q => k_is); (case k10_q => k_is); (case k6_q => k_is); (case k7_q => k_is); k_whole))))
  (k_with "call ref" => (((with_reducible show wpAny _ _ (call (Value.ref 95) [Value.ref _, Value.ref _]) _ _ _); k_dflt (refine' frac_add_k ?F_q ?N_q ?X_q ?T_q ?A_q ?v_q ?u_q ?d1_q ?d2_q ?z1_q ?z2_q ?z3_q ?z4_q ?z5_q ?_; (case F_q => k_asm); (case N_q => k_asm); (case X_q => k_asm); (case T_q => k_asm); (case A_q => exact Room.le (by assumption) (by decide)); (case v_q => exact fracOfNews (by k_asm) (by k_mem) (by k_mem)); (case u_q => exact fracOfNews (by k_asm) (by k_mem) (by k_mem)); (case d1_q => with_reducible assumption); (case d2_q => with_reducible assumption); (case z1_q => with_reducible assumption); (case z2_q => with_reducible assumption); (case z3_q => with_reducible assumption); (case z4_q => with_reducible assumption); (case z5_q => omega)); intro _ _ _ _ _ _ _ _ _ _ _ _ _ _ _ _ _ _ _ _ _)))
  (k_with "CmpBack ref" => (with_reducible refine cmpBack_ref ?_))
  (k_with "call type:set cons nil" => (((with_reducible show wpAny _ _ (call (Value.type "set") [Value.ref _]) _ _ _); k_dflt (refine' set_list_k ?F_q ?N_q rfl ?l_q ?i_q ?n_q ?_; (case F_q => k_asm); (case N_q => k_asm); (case l_q => exact stays_list (Fr.keep (by k_asm)) (by with_reducible assumption)); (case i_q => with_reducible assumption); (case n_q => omega)); intro _ _ _ _ _ _ l9q _; replace l9q := allNe_of l9q; simp only [AllNe, and_true] at l9q)))
  (k_with "call builtin:len cons nil" => (((with_reducible show wpAny _ _ (call (Value.builtin "len") [Value.ref _]) _ _ _); k_dflt (refine' len_small_set (News.get ?N_q ?m_q) ?s_q ?_; (case N_q => k_asm); (case m_q => k_mem); (case s_q => with_reducible assumption)))))
  (k_with "getAttr ref true" => (((with_reducible show wpAny _ _ (getAttr (Value.ref _) (PySem.Str.ofString "num_cand") _) _ _ _); k_dflt (refine' get_prop ?k1_q ?k2_q ?k3_q ?k4_q ?k5_q ?k6_q ?k7_q ?k8_q ?k9_q ?_; (case k1_q => k_asm); (case k2_q => k_asm); (case k3_q => k_inst); (case k4_q => k_is); (case k5_q => k_is); (case k6_q => k_is); (case k7_q => k_is); (case k8_q => k_is); (case k9_q => k_is); k_whole); k_dflt (refine' numcand_k ?F_q ?N_q ?X_q ?T_q ?A_q (ProfAt.keep ?P_q ?K_q) ?h_q ?_; (case F_q => k_asm); (case N_q => k_asm); (case X_q => k_asm); (case T_q => k_asm); (case A_q => exact Room.le (by assumption) (by decide)); (case P_q => with_reducible assumption); (case K_q => exact Fr.keep (by k_asm)); (case h_q => with_reducible assumption)); intro _ _ _ _ _)))
  (k_with "call ref" => (((with_reducible show wpAny _ _ (call (Value.ref 481) [Value.ref _] _) _ _ _); (k_dflt (show wpAny _ _ (call (Value.ref 481) [Value.ref _] [(Str.ofString "weight", Value.int _ _)]) _ _ _)); k_dflt (refine' voter_k ?F_q ?N_q ?X_q ?T_q ?C_q ?U_q ?t_q ?B_q (fun G9 R hR => voter_list_code G9 (Room.le (by assumption) (by decide)) ?l_q ?i_q ?n_q ?w_q hR) ?_; (case F_q => k_asm); (case N_q => k_asm); (case X_q => k_asm); (case T_q => k_asm); (case C_q => k_asm); (case U_q => k_updF); (case t_q => with_reducible assumption); (case B_q => with_reducible assumption); (case l_q => exact stays_list (Fr.keep (by k_asm)) (by with_reducible assumption)); (case i_q => with_reducible assumption); (case n_q => omega); (case w_q => with_reducible assumption)); intro _ _ _ _ _ _ _ _ _ _ _ _ N9q lx9q ly9q lz9q _ _ _ _ _ _ _; (try dsimp only at N9q lx9q ly9q lz9q); replace lx9q := allNe_of lx9q; replace ly9q := allNe_of ly9q; replace lz9q := allNe_of lz9q; simp only [AllNe, and_true] at lx9q ly9q lz9q)))
  (k_with "call ref" => (((with_reducible show wpAny _ _ (call (Value.ref 481) [Value.ref _] _) _ _ _); (k_dflt (show wpAny _ _ (call (Value.ref 481) [Value.ref _] [(Str.ofString "weight", Value.int _ _), (Str.ofString "num_cand", Value.int _ _)]) _ _ _)); k_dflt (refine' voter_k ?F_q ?N_q ?X_q ?T_q ?C_q ?U_q ?t_q ?B_q (fun G9 R hR => voter_set_code G9 (Room.le (by assumption) (by decide)) ?l_q ?i_q ?n_q ?w_q hR) ?_; (case F_q => k_asm); (case N_q => k_asm); (case X_q => k_asm); (case T_q => k_asm); (case C_q => k_asm); (case U_q => k_updF); (case t_q => with_reducible assumption); (case B_q => with_reducible assumption); (case l_q => exact Fr.keep (by k_asm) _ _ (by with_reducible assumption)); (case i_q => with_reducible assumption); (case n_q => with_reducible assumption); (case w_q => with_reducible assumption)); intro _ _ _ _ _ _ _ _ _ _ _ _ N9q lx9q ly9q lz9q _ _ _ _ _ _ _; (try dsimp only at N9q lx9q ly9q lz9q); replace lx9q := allNe_of lx9q; replace ly9q := allNe_of ly9q; replace lz9q := allNe_of lz9q; simp only [AllNe, and_true] at lx9q ly9q lz9q)))
  (k_with "call ref" => (((with_reducible show wpAny _ _ (call (Value.ref 245) [Value.str (nameAt _) _, Value.int _ _]) _ _ _); k_dflt (refine' liftFn ?F_q ?N_q ?X_q ?T_q (fnAt _) (fun R hR => gms2 ⟨Frag.In.keeps (by k_asm) (Fr.keep (by k_asm)), _, _, _, _, _, Top.keeps (by k_asm) (Fr.keep (by k_asm))⟩ (Room.le (by assumption) (by decide)) (by assumption) hR) ?_; (case F_q => k_asm); (case N_q => k_asm); (case X_q => k_asm); (case T_q => k_asm)); intro _ _ _ _ _ _ _ _ _ _ _ _ _ _ _ _)))
  (k_with "binaryOp BitAnd" => (((with_reducible show wpAny _ _ (binaryOp _ (Value.ref _) (Value.ref _)) _ _ _); k_dflt (refine' and_k ?F_q ?N_q (News.get ?N2_q ?m_q) (Fr.keep ?F2_q _ _ ?o_q) (new_old ?N3_q ?m3_q ?o3_q) ?s_q ?t_q ?_; (case F_q => k_asm); (case N_q => k_asm); (case N2_q => k_asm); (case N3_q => k_asm); (case F2_q => k_asm); (case m_q => k_mem); (case m3_q => k_mem); (case o_q => with_reducible assumption); (case o3_q => with_reducible assumption); (case s_q => with_reducible assumption); (case t_q => with_reducible assumption)); intro _ _ _ _ _ _ l9q _; replace l9q := allNe_of l9q; simp only [AllNe, and_true] at l9q)))
  (k_with "call ref" => (((with_reducible show wpAny _ _ (call (Value.ref 123) [Value.ref _, Value.int _ _]) _ _ _); k_dflt (refine' frac_mul_k (k := 40) (j := 10) ?F_q ?N_q ?X_q ?T_q ?A_q ?v_q ?d1_q ?z1_q ?z2_q ?z3_q ?z5_q ?_; (case F_q => k_asm); (case N_q => k_asm); (case X_q => k_asm); (case T_q => k_asm); (case A_q => exact Room.le (by assumption) (by decide)); (case v_q => exact fracOfNews (by k_asm) (by k_mem) (by k_mem)); (case d1_q => with_reducible assumption); (case z1_q => with_reducible assumption); (case z2_q => with_reducible assumption); (case z3_q => with_reducible assumption); (case z5_q => decide)); intro _ _ _ _ _ _ _ _ _ _ _ _ _ _ _ _ _ _ _ hn9q hz9q; replace hn9q := Sz.mono hn9q (show 40 + 10 ≤ 50 by decide); replace hz9q := Sz.mono hz9q (show 40 ≤ 50 by decide))))
  (k_with "getMethod ref" => (((with_reducible show wpAny _ _ (getMethod (Value.ref _) (PySem.Str.ofString "intersection") _) _ _ _); k_dflt (refine' getMethod_inter (Fr.keep ?F_q _ _ ?o_q) ?s_q ?_; (case F_q => k_asm); (case o_q => with_reducible assumption); (case s_q => with_reducible assumption)))))
  (k_with "call builtin:set.intersection" => (((with_reducible show wpAny _ _ (call (Value.builtin "set.intersection") _) _ _ _); (k_dflt (show wpAny _ _ (call (Value.builtin "set.intersection") [Value.ref _, Value.ref _]) _ _ _)); k_dflt (refine' inter_list_k ?F_q ?N_q rfl (Fr.keep ?F2_q _ _ ?o_q) ?s_q (stays_list (Fr.keep ?F3_q) ?l_q) ?i_q ?n_q ?_; (case F_q => k_asm); (case N_q => k_asm); (case F2_q => k_asm); (case F3_q => k_asm); (case o_q => with_reducible assumption); (case s_q => with_reducible assumption); (case l_q => with_reducible assumption); (case i_q => with_reducible assumption); (case n_q => with_reducible assumption)); intro _ _ _ _ _ _ l9q _; replace l9q := allNe_of l9q; simp only [AllNe, and_true] at l9q)))
  (k_with "exec For Name Attribute cons nil" => ((with_unfolding_all refine for_at ?_)))
  (k_with "getItem ref int" => ((k_dflt (refine' getItem_k ?N_q ?m_q ?a_q ?b_q ?x_q ?_; (case N_q => k_asm); (case m_q => k_mem); (case a_q => omega); (case b_q => omega); (case x_q => with_reducible assumption)))))
  (k_with "setItem ref int" => ((refine hold ?_)))
  (k_with "call ref" => (((with_reducible show wpAny _ _ (call (Value.ref 371) [Value.ref _, Value.ref _]) _ _ _); refine hold ?_)))
  (k_with "call ref" => (((with_reducible show wpAny _ _ (call (Value.ref 444) [Value.int _ _]) _ _ _); refine hold ?_)))
  trivial
section
theorem add_scores_code {prog : Program} {w : World} {A : Around} {s : Shared} {R : Result → Shared → Prop} (G : Gnd w s.heap) (GB : AllBare s.gens) (hA : Room A 16) {gf : Addr} {f : Fn} (hf : IsFn s.heap (.ref gf) f) {x : Addr} {nc : Nat} {ms : List Nat} {ws : List Int} (P : IsProfile w s.heap x nc ms ws) {lc : Addr} {cv : List Value} {km : Nat} (hc : s.heap.IsList lc cv.toArray) (hci : IntsAre cv (intsOf km)) (hkm : km < 32)
    (h1 : 1 ≤ nc) (h5 : nc ≤ 5) (h4 : ms.length ≤ 4) (hm : ∀ m ∈ ms, m < 32 ∧ ∀ z ∈ zsOf m, z < nc) (hw1 : ∀ x ∈ ws, 1 ≤ x ∧ x ≤ 1000)
    (hkc : ∀ z ∈ zsOf km, z < nc)
    (hR : ∀ D' vl ep imm a b s', DoneG s s' → Made s.heap s'.heap ((D', W.listOf (List.toArray vl) ep) :: imm) → vl.length = nc → FracsIn imm vl a b 300 → (∀ c, c < nc → a c * (addT f ms ws km c).2 = (addT f ms ws km c).1 * b c) → R (.ok (.ret (.ref D'))) s') :
    codeAny (model prog w) A (.call (.ref 315) ⟨[.ref gf, .ref x, .ref lc], []⟩) R s := by
  obtain ⟨X, p, loose, mean, mg, mb, T⟩ := G
  (refine xa_8_4 (id hf) ?_; intro _ dg hs1g hs2g tg1 tg2 tg3 pv hge hg1 hg2 hg3)
  cases hge
  have hc0 := hci.length
  have hc1 := intsOf_len km
  have hc2 := zs_le km
  (refine xa_3_5 (P) ?_; intro dx V vs PA hV hvl hwl hvv; (try clear P))
  (refine xa_9_4 (id PA) ?_; intro C D hs1 hs2 hs3 t1 t2 t3 cv' g1 g2 g3 g4)
  w_on
  w_strict (k_dflt (refine' enter (K := hd.heap_1 w.params) (binds := [(Str.ofString "marginal_scorefct", .ref gf), (Str.ofString "profile", .ref x), (Str.ofString "committee", .ref lc)]) X T.nolimit ?o ?c ?b ?l hA (fun L h₁ F N dp un fr gd hA' => ?_) ?c2 ?c3 ?c4 ?c5; (case o => k_is); (case c => k_is); (case b => first | exact BindsTo.of_eq rfl | exact binds_K X rfl (by k_is) rfl rfl rfl); (case l => exact locs rfl); (case c2 => exact rfl); (case c3 => exact rfl); (case c4 => exact rfl); (case c5 => decide)))
  dsimp only
  w_strict (k_fold)
  w_strict (k_steps)
  unfold Hold
  rename Fr _ _ _ _ => F1
  rename News _ _ _ _ => N1
  refine Classical.byContradiction fun hg9 => ?_
  (refine xa_3_4 (headOne2 N1) ?_; intro D' y dy N0 eD r95 r96)
  subst r95
  subst r96
  refine hg9 ?_
  clear hg9
  rw [rep_obj] at N0
  rw [← eD] at F1
  clear N1 eD
  have nD1 : (y : Addr) ≠ D' := objNe N0 (.tail _ (.head _)) (.head _) (show Value.ref 182 ≠ Value.type "list" from nofun)
  have nD2 : (dy : Addr) ≠ D' := objNe N0 (.tail _ (.tail _ (.head _))) (.head _) (show Value.type "dict" ≠ Value.type "list" by decide)
  refine prof_for F1 N0 X T rfl hA'.lim PA hV (by exact GB) (fun i m₁ news₁ => E5 fun vs ep a b imm => A8 (news₁ = (D', W.listOf (List.toArray vs) ep) :: imm) (vs.length = nc) (FracsIn imm vs a b (51 * i + 1)) ((∀ c, c < nc → a c * (margP f ms ws km 1 i c).2 = (margP f ms ws km 1 i c).1 * b c)) ((∀ p ∈ imm, p.1 ≠ D')) (m₁ (Str.ofString "marginal") = some (.ref D')) (m₁ (Str.ofString "marginal_scorefct") = some (.ref gf)) (m₁ (Str.ofString "committee") = some (.ref lc))) ?_ ?_ ?_
  · refine ⟨_, 0, fun _ => 0, fun _ => 1, [(y, instObj 182 dy), (dy, _)], rfl, List.length_replicate .., FracsIn.all (.head _) (.tail _ (.head _)) (by decide) (by unfold Sz; decide) (by unfold Sz; decide), fun c _ => by simp [margP], fun p hp => ?_, rfl, rfl, rfl⟩
    rcases List.mem_cons.mp hp with rfl | hp
    · exact nD1
    · rw [List.mem_singleton.mp hp]; exact nD2
  · clear F1 N0
    rintro I C5 a5 i v m₁ _ u oI oC oa hvi hJ912 hos F1 N1 hn nIC nIa nCa
    refine Classical.byContradiction fun hg9 => ?_
    obtain ⟨vl, ep, a, b, imm, r95, hlen, hfr, hab, hnD, e1, e2, e3⟩ := hJ912
    subst r95
    refine hg9 ?_
    clear hg9
    have hil : i < vs.length := (List.getElem?_eq_some_iff.mp hvi).1
    have him : i < ms.length := by omega
    have hiw : i < ws.length := by omega
    (refine xa_1_2 (hvv i ms[i] ws[i] (List.getElem?_eq_getElem him) (List.getElem?_eq_getElem hiw)) ?_; intro v' e4 hv)
    rw [hvi] at e4
    obtain rfl : v = v' := Option.some.inj e4
    refine Classical.byContradiction fun hg9 => ?_
    (refine xa_9_5 (hv) ?_; intro vx vdx S o k1 k2 r1 r2 r3 r99 g5 g6 g7 sm; (try clear hv))
    subst r99
    refine hg9 ?_
    clear hg9
    have hm32 := (hm ms[i] (List.getElem_mem him)).1
    have hwt := hw1 ws[i] (List.getElem_mem hiw)
    have hwz : Sz 10 ws[i] := by unfold Sz; omega
    w_strict (k_steps)
    unfold Hold
    rename Fr _ _ _ _ => F2
    rename News _ _ _ _ => N2
    have ez5 := zs_le (ms[i] &&& km)
    have N3 : News s.heap L _ ([] ++ (D', W.listOf (List.toArray vl) ep) :: (I, oI) :: (C5, oC) :: (a5, oa) :: imm) := newsSub N2 (by first | ((try dsimp only [List.cons_append, List.nil_append]); (repeat (refine List.forall_mem_cons.mpr ⟨(by k_mem), ?_⟩)); first | exact List.forall_mem_nil _ | (intro p9 h9; (repeat (first | exact h9 | (refine List.Mem.tail _ ?_))); done)) | ((first | (((try dsimp only [List.cons_append, List.nil_append]); repeat' (first | exact List.forall_mem_nil _ | (refine fmc (by (first | k_mem | ((repeat (first | (with_reducible exact List.Mem.head _) | exact List.mem_append_left _ (by with_reducible assumption) | exact List.mem_append_left _ (List.Mem.head _) | (with_reducible assumption) | (refine List.Mem.tail _ ?_) | (refine List.mem_append_right _ ?_))); done))) ?_) | (refine fma ?_ ?_) | (intro p9 h9; ((repeat (first | exact h9 | exact List.mem_append_left _ h9 | exact List.mem_append_left _ (List.mem_append_left _ h9) | (refine List.Mem.tail _ ?_) | (refine List.mem_append_right _ ?_))); done)))); done) | (intro p9 h9; simp only [List.mem_append, List.mem_cons, List.not_mem_nil, or_false, List.cons_append, List.nil_append] at h9 ⊢; grind))))
    clear N2
    have nI := (hn (D', W.listOf (List.toArray vl) ep) (.head _))
    refine for_set (fix := []) rfl F2 N3 sm (fun h k _ => k _ _ g7)
      (fun ord j m₂ news₂ => E5 fun vl ep a b imm => A11 (news₂ = (D', W.listOf (List.toArray vl) ep) :: (I, oI) :: (C5, oC) :: (a5, oa) :: imm) (vl.length = nc) (FracsIn imm vl a b (51 * (i + 1) + 1)) ((∀ c, c < nc → a c * (if c ∈ ord.take j then margP f ms ws km 1 (i + 1) c else margP f ms ws km 1 i c).2 = (if c ∈ ord.take j then margP f ms ws km 1 (i + 1) c else margP f ms ws km 1 i c).1 * b c)) ((∀ c, c < nc → c ∉ ord.take j → Sz (51 * i + 1) (a c) ∧ Sz (51 * i + 1) (b c))) ((∀ p ∈ imm, p.1 ≠ D' ∧ p.1 ≠ I ∧ p.1 ≠ C5 ∧ p.1 ≠ a5)) (m₂ (Str.ofString "marginal") = some (.ref D')) (m₂ (Str.ofString "marginal_scorefct") = some (.ref gf)) (m₂ (Str.ofString "committee") = some (.ref lc)) (m₂ (Str.ofString "voter") = some (.ref vx)) ((∃ tj, m₂ (Str.ofString "intersectionsize") = some (.int ((zsOf (ms[i] &&& km)).length : Int) tj)))) ?_ ?_ ?_
    · refine fun ord _ => ⟨vl, ep, a, b, imm, rfl, hlen, hfr.mono (by omega) (fun _ h => h), fun c hc => by simpa using hab c hc, fun c hc _ => ?_, fun q hq => ⟨hnD q hq, hn q (.tail _ hq)⟩, e1, e2, e3, rfl, _, rfl⟩
      (refine xa_8_6 (hfr c (by omega)) ?_; intro _ _ _ _ _ _ _ _ _ _ _ _ s1 s2)
      exact ⟨s1, s2⟩
    · clear F2 N3
      rintro ord j z tz m₂ _ h₅ tk₅ I₂ oI₂ hp hoj hJ912 F4 N4 hn4
      refine Classical.byContradiction fun hg9 => ?_
      obtain ⟨vl, ep, a, b, imm, r95, hlen, hfr, hab, hsz, hnD, e1, e2, e3, e5, tj, e6⟩ := hJ912
      subst r95
      refine hg9 ?_
      clear hg9
      have hzm : z ∈ zsOf ms[i] := hp.mem_iff.mp (List.mem_of_getElem? hoj)
      have hz : z < nc := (hm ms[i] (List.getElem_mem him)).2 z hzm
      have hzt : ms[i].testBit z = true := (mem_zs.mp hzm).2
      have hz5 : z < 5 := (mem_zs.mp hzm).1
      have hnt : z ∉ ord.take j := not_in_take hp hoj
      obtain ⟨hsa, hsb⟩ := hsz z hz hnt
      (refine xa_8_6 (hfr z (by omega)) ?_; intro fx fdx l1 l2 w1 w2 w3 w4 q1 q2 q3 hb0 c912 c913)
      clear c912 c913
      replace N4 : News s.heap L h₅ ((fx, instObj 182 fdx) :: (fdx, fracD l1 l2 (a z) (b z) w1 w2 w3 w4) :: (I₂, oI₂) :: (D', W.listOf (List.toArray vl) ep) :: (I, oI) :: (C5, oC) :: (a5, oa) :: imm) := newsSub N4 (by
        refine fmc (.tail _ (.tail _ (.tail _ (.tail _ (.tail _ q2))))) ?_
        refine fmc (.tail _ (.tail _ (.tail _ (.tail _ (.tail _ q3))))) ?_
        intro p hp
        · exact hp)
      have hvz : vl[((z : Nat) : Int).toNat]? = some (.ref fx) := by rw [Int.toNat_natCast]; exact q1
      w_strict (k_steps)
      unfold Hold
      rename Fr _ _ _ _ => F6
      rename News _ _ _ _ => N6
      rename _ * (_ * _) = _ => he
      rename _ * gD _ _ = _ => he2
      rename _ = _ * ws[i] * _ => he3
      rename ∀ p : Addr × Obj, p ∈ _ → p.1 < _ => lA
      refine Classical.byContradiction fun hg9 => ?_
      (refine xa_10_5 (headFrac N6) ?_; intro y' dy' ks1' ks2' c d v1 v2 v3 v4 N7 r911 r912 r913 r914)
      subst r911
      subst r912
      subst r913
      subst r914
      refine hg9 ?_
      clear hg9
      clear N6
      have lt1 : ∀ q ∈ [(D', W.listOf (List.toArray vl) ep), (I₂, oI₂), (I, oI), (C5, oC), (a5, oa)], q.1 ≠ dy' := (by (repeat (refine fmc (Nat.ne_of_lt (lA _ (by k_mem))) ?_)); exact List.forall_mem_nil _)
      have lt2 : ∀ q ∈ [(D', W.listOf (List.toArray vl) ep), (I₂, oI₂), (I, oI), (C5, oC), (a5, oa)], q.1 ≠ y' := (by (repeat (refine fmc (Nat.ne_of_lt (Nat.lt_trans (lA _ (by k_mem)) (by assumption))) ?_)); exact List.forall_mem_nil _)
      have N8 : News s.heap L _ ((D', W.listOf (List.toArray vl) ep) :: (y', instObj 182 dy') :: (dy', fracD ks1' ks2' c d v1 v2 v3 v4) :: (I₂, oI₂) :: (I, oI) :: (C5, oC) :: (a5, oa) :: imm) := newsSub N7 (by first | ((try dsimp only [List.cons_append, List.nil_append]); (repeat (refine List.forall_mem_cons.mpr ⟨(by k_mem), ?_⟩)); first | exact List.forall_mem_nil _ | (intro p9 h9; (repeat (first | exact h9 | (refine List.Mem.tail _ ?_))); done)) | ((first | (((try dsimp only [List.cons_append, List.nil_append]); repeat' (first | exact List.forall_mem_nil _ | (refine fmc (by (first | k_mem | ((repeat (first | (with_reducible exact List.Mem.head _) | exact List.mem_append_left _ (by with_reducible assumption) | exact List.mem_append_left _ (List.Mem.head _) | (with_reducible assumption) | (refine List.Mem.tail _ ?_) | (refine List.mem_append_right _ ?_))); done))) ?_) | (refine fma ?_ ?_) | (intro p9 h9; ((repeat (first | exact h9 | exact List.mem_append_left _ h9 | exact List.mem_append_left _ (List.mem_append_left _ h9) | (refine List.Mem.tail _ ?_) | (refine List.mem_append_right _ ?_))); done)))); done) | (intro p9 h9; simp only [List.mem_append, List.mem_cons, List.not_mem_nil, or_false, List.cons_append, List.nil_append] at h9 ⊢; grind))))
      clear N7
      refine setItem_k F6 N8 (UpdF.head ?hne) (by omega) (by omega) (by omega) ?_
      case hne =>
        refine fmc (Ne.symm (lt2 (D', W.listOf (List.toArray vl) ep) (by k_mem))) ?_
        refine fmc (Ne.symm (lt1 (D', W.listOf (List.toArray vl) ep) (by k_mem))) ?_
        refine fmc (Ne.symm (hn4 (D', W.listOf (List.toArray vl) ep) (by k_mem))) ?_
        refine fmc (Ne.symm nI.1) ?_
        refine fmc (Ne.symm nI.2.1) ?_
        refine fmc (Ne.symm nI.2.2) ?_
        intro q hq
        · exact (hnD q hq).1
      intro h₆ F9 N9
      clear F6 N8
      rw [Int.toNat_natCast] at N9
      w_strict (k_steps)
      rename Sz _ c => zc
      rename Sz _ d => zd
      have hrel : c * (margP f ms ws km 1 (i + 1) z).2 = (margP f ms ws km 1 (i + 1) z).1 * d := by
        have h0 := hab z hz
        rw [if_neg hnt] at h0
        rw [margP_in him hiw hzt]
        exact frac_add_eq hb0 (by assumption) he h0 (frac_mul_eq (by assumption) he3 he2)
      refine ⟨rfl, _, _, _, (D', W.listOf (List.toArray (vl.set z (Value.ref y'))) ep) :: (I, oI) :: (C5, oC) :: (a5, oa) :: (y', instObj 182 dy') :: (dy', fracD ks1' ks2' c d v1 v2 v3 v4) :: imm, rfl, F9, newsSub N9 ?sub, ?ne, vl.set z (Value.ref y'), ep, upd a z c, upd b z d, (y', instObj 182 dy') :: (dy', fracD ks1' ks2' c d v1 v2 v3 v4) :: imm, rfl, by rw [List.length_set]; exact hlen, hfr.set (Nat.le_refl _) (fun q hq => .tail _ (.tail _ hq)) (.head _) (.tail _ (.head _)) (by assumption) (zc.mono (by omega)) (zd.mono (by omega)), marg_step hp hoj hab hrel, ?sz, ?nd, e1, e2, e3, e5, tj, e6⟩
      case sub => (first | ((try dsimp only [List.cons_append, List.nil_append]); (repeat (refine List.forall_mem_cons.mpr ⟨(by k_mem), ?_⟩)); first | exact List.forall_mem_nil _ | (intro p9 h9; (repeat (first | exact h9 | (refine List.Mem.tail _ ?_))); done)) | ((first | (((try dsimp only [List.cons_append, List.nil_append]); repeat' (first | exact List.forall_mem_nil _ | (refine fmc (by (first | k_mem | ((repeat (first | (with_reducible exact List.Mem.head _) | exact List.mem_append_left _ (by with_reducible assumption) | exact List.mem_append_left _ (List.Mem.head _) | (with_reducible assumption) | (refine List.Mem.tail _ ?_) | (refine List.mem_append_right _ ?_))); done))) ?_) | (refine fma ?_ ?_) | (intro p9 h9; ((repeat (first | exact h9 | exact List.mem_append_left _ h9 | exact List.mem_append_left _ (List.mem_append_left _ h9) | (refine List.Mem.tail _ ?_) | (refine List.mem_append_right _ ?_))); done)))); done) | (intro p9 h9; simp only [List.mem_append, List.mem_cons, List.not_mem_nil, or_false, List.cons_append, List.nil_append] at h9 ⊢; grind))))
      case sz =>
        intro k hk hnk
        have hnk2 := fun h => hnk ((take_succ_mem hoj).mpr h)
        have e : k ≠ z := fun h => hnk2 (.inr h)
        rw [upd_ne e, upd_ne e]
        exact hsz k hk fun h => hnk2 (.inl h)
      case nd =>
        refine fmc (⟨Ne.symm (lt2 (D', W.listOf (List.toArray vl) ep) (by k_mem)), Ne.symm (lt2 (I, oI) (by k_mem)), Ne.symm (lt2 (C5, oC) (by k_mem)), Ne.symm (lt2 (a5, oa) (by k_mem))⟩) ?_
        refine fmc (⟨Ne.symm (lt1 (D', W.listOf (List.toArray vl) ep) (by k_mem)), Ne.symm (lt1 (I, oI) (by k_mem)), Ne.symm (lt1 (C5, oC) (by k_mem)), Ne.symm (lt1 (a5, oa) (by k_mem))⟩) ?_
        intro q hq
        · exact hnD q hq
      case ne =>
        refine fmc (hn4 (D', W.listOf (List.toArray vl) ep) (by k_mem)) ?_
        refine fmc (hn4 (I, oI) (by k_mem)) ?_
        refine fmc (hn4 (C5, oC) (by k_mem)) ?_
        refine fmc (hn4 (a5, oa) (by k_mem)) ?_
        refine fmc (Ne.symm (lt2 (I₂, oI₂) (by k_mem))) ?_
        refine fmc (Ne.symm (lt1 (I₂, oI₂) (by k_mem))) ?_
        intro q hq
        · exact hn4 q (.tail _ (.tail _ (.tail _ (.tail _ hq))))
    · clear F2 N3
      rintro ord m₂ _ h₅ tk₅ hp hJ96 F4 N4
      refine Classical.byContradiction fun hg9 => ?_
      obtain ⟨vl, ep, a, b, imm, r95, hlen, hfr, hab, hsz, hnD, e1, e2, e3, e5, tj, e6⟩ := hJ96
      subst r95
      refine hg9 ?_
      clear hg9
      w_strict (k_steps)
      refine ⟨rfl, rfl, rfl, _, (D', W.listOf (List.toArray vl) ep) :: imm, F4, newsSub N4 ?sub, ?ne, vl, ep, a, b, imm, rfl, hlen, hfr, ?ab, fun q hq => (hnD q hq).1, e1, e2, e3⟩
      case sub => (first | ((try dsimp only [List.cons_append, List.nil_append]); (repeat (refine List.forall_mem_cons.mpr ⟨(by k_mem), ?_⟩)); first | exact List.forall_mem_nil _ | (intro p9 h9; (repeat (first | exact h9 | (refine List.Mem.tail _ ?_))); done)) | ((first | (((try dsimp only [List.cons_append, List.nil_append]); repeat' (first | exact List.forall_mem_nil _ | (refine fmc (by (first | k_mem | ((repeat (first | (with_reducible exact List.Mem.head _) | exact List.mem_append_left _ (by with_reducible assumption) | exact List.mem_append_left _ (List.Mem.head _) | (with_reducible assumption) | (refine List.Mem.tail _ ?_) | (refine List.mem_append_right _ ?_))); done))) ?_) | (refine fma ?_ ?_) | (intro p9 h9; ((repeat (first | exact h9 | exact List.mem_append_left _ h9 | exact List.mem_append_left _ (List.mem_append_left _ h9) | (refine List.Mem.tail _ ?_) | (refine List.mem_append_right _ ?_))); done)))); done) | (intro p9 h9; simp only [List.mem_append, List.mem_cons, List.not_mem_nil, or_false, List.cons_append, List.nil_append] at h9 ⊢; grind))))
      case ne =>
        refine fmc (nI) ?_
        intro q hq
        · exact (hnD q hq).2
      case ab =>
        intro c hc
        have h0 := hab c hc
        rw [List.take_of_length_le (Nat.le_refl _)] at h0
        by_cases hm' : c ∈ ord
        · rwa [if_pos hm'] at h0
        · rw [if_neg hm'] at h0
          rw [margP_out him fun hb => hm' (hp.mem_iff.mpr (mem_zs.mpr ⟨by omega, hb⟩))]
          exact h0
  · clear F1 N0
    rintro m₁ _ u hJ93 hos GB1 F1 N1
    refine Classical.byContradiction fun hg9 => ?_
    obtain ⟨vl, ep, a, b, imm, r95, hlen, hfr, hab, hnD, e1, e2, e3⟩ := hJ93
    subst r95
    refine hg9 ?_
    clear hg9
    w_strict (k_steps)
    unfold Hold
    rename Fr _ _ _ _ => F2
    rename News _ _ _ _ => N2
    have h300 : 51 * vs.length + 1 ≤ 300 := by omega
    have hab' : ∀ c, c < nc → a c * (margP f ms ws km 1 ms.length c).2 = (margP f ms ws km 1 ms.length c).1 * b c := by rw [← hvl]; exact hab
    refine for_list (fix := []) rfl F2 N2 (fun h k _ => stays_list k hc)
      (fun j m₂ news₂ => E5 fun vl ep a b imm => A6 (news₂ = (D', W.listOf (List.toArray vl) ep) :: imm) (vl.length = nc) (FracsIn imm vl a b 300) ((∀ c, c < nc → a c * (if c ∈ (zsOf km).take j then ((-1, 1) : Int × Int) else margP f ms ws km 1 ms.length c).2 = (if c ∈ (zsOf km).take j then ((-1, 1) : Int × Int) else margP f ms ws km 1 ms.length c).1 * b c)) ((∀ p ∈ imm, p.1 ≠ D')) (m₂ (Str.ofString "marginal") = some (.ref D'))) ?_ ?_ ?_
    · exact ⟨vl, ep, a, b, imm, rfl, hlen, hfr.mono h300 fun _ h => h, fun c hc' => by simpa using hab' c hc', hnD, e1⟩
    · clear F2 N2
      rintro j v m₂ _ h₅ tk₅ I₂ oI₂ hvj hJ99 F4 N4 hn4
      refine Classical.byContradiction fun hg9 => ?_
      obtain ⟨vl, ep, a, b, imm, r95, hlen, hfr, hab, hnD, e1⟩ := hJ99
      subst r95
      refine hg9 ?_
      clear hg9
      refine Classical.byContradiction fun hg9 => ?_
      (refine xa_2_2 (zs_at hci hvj) ?_; intro z t hz r93)
      subst r93
      refine hg9 ?_
      clear hg9
      have hz1 : z < nc := hkc z (List.mem_of_getElem? hz)
      replace N4 : News s.heap L h₅ ((I₂, oI₂) :: (D', W.listOf (List.toArray vl) ep) :: imm) := N4
      w_strict (k_steps)
      unfold Hold
      rename Fr _ _ _ _ => F6
      rename News _ _ _ _ => N6
      rename ∀ p : Addr × Obj, p ∈ _ → p.1 < _ => lA
      refine Classical.byContradiction fun hg9 => ?_
      (refine xa_10_5 (headFrac N6) ?_; intro y' dy' ks1' ks2' c d v1 v2 v3 v4 N7 r911 r912 r913 r914)
      subst r911
      subst r912
      subst r913
      subst r914
      refine hg9 ?_
      clear hg9
      clear N6
      have lt1 : ∀ q ∈ [(D', W.listOf (List.toArray vl) ep), (I₂, oI₂)], q.1 ≠ dy' := (by (repeat (refine fmc (Nat.ne_of_lt (lA _ (by k_mem))) ?_)); exact List.forall_mem_nil _)
      have lt2 : ∀ q ∈ [(D', W.listOf (List.toArray vl) ep), (I₂, oI₂)], q.1 ≠ y' := (by (repeat (refine fmc (Nat.ne_of_lt (Nat.lt_trans (lA _ (by k_mem)) (by assumption))) ?_)); exact List.forall_mem_nil _)
      have N8 : News s.heap L _ ((D', W.listOf (List.toArray vl) ep) :: (y', instObj 182 dy') :: (dy', fracD ks1' ks2' (-1) 1 v1 v2 v3 v4) :: (I₂, oI₂) :: imm) := newsSub N7 (by first | ((try dsimp only [List.cons_append, List.nil_append]); (repeat (refine List.forall_mem_cons.mpr ⟨(by k_mem), ?_⟩)); first | exact List.forall_mem_nil _ | (intro p9 h9; (repeat (first | exact h9 | (refine List.Mem.tail _ ?_))); done)) | ((first | (((try dsimp only [List.cons_append, List.nil_append]); repeat' (first | exact List.forall_mem_nil _ | (refine fmc (by (first | k_mem | ((repeat (first | (with_reducible exact List.Mem.head _) | exact List.mem_append_left _ (by with_reducible assumption) | exact List.mem_append_left _ (List.Mem.head _) | (with_reducible assumption) | (refine List.Mem.tail _ ?_) | (refine List.mem_append_right _ ?_))); done))) ?_) | (refine fma ?_ ?_) | (intro p9 h9; ((repeat (first | exact h9 | exact List.mem_append_left _ h9 | exact List.mem_append_left _ (List.mem_append_left _ h9) | (refine List.Mem.tail _ ?_) | (refine List.mem_append_right _ ?_))); done)))); done) | (intro p9 h9; simp only [List.mem_append, List.mem_cons, List.not_mem_nil, or_false, List.cons_append, List.nil_append] at h9 ⊢; grind))))
      clear N7
      refine setItem_k F6 N8 (UpdF.head ?hne) (by omega) (by omega) (by omega) ?_
      case hne =>
        refine fmc (Ne.symm (lt2 (D', W.listOf (List.toArray vl) ep) (by k_mem))) ?_
        refine fmc (Ne.symm (lt1 (D', W.listOf (List.toArray vl) ep) (by k_mem))) ?_
        refine fmc (Ne.symm (hn4 (D', W.listOf (List.toArray vl) ep) (by k_mem))) ?_
        intro q hq
        · exact hnD q hq
      intro h₆ F9 N9
      clear F6 N8
      rw [Int.toNat_natCast] at N9
      w_strict (k_steps)
      refine ⟨rfl, _, _, _, (D', W.listOf (List.toArray (vl.set z (Value.ref y'))) ep) :: (y', instObj 182 dy') :: (dy', fracD ks1' ks2' (-1) 1 v1 v2 v3 v4) :: imm, rfl, F9, newsSub N9 ?sub, ?ne, vl.set z (Value.ref y'), ep, upd a z (-1), upd b z 1, (y', instObj 182 dy') :: (dy', fracD ks1' ks2' (-1) 1 v1 v2 v3 v4) :: imm, rfl, by rw [List.length_set]; exact hlen, hfr.set (Nat.le_refl _) (fun q hq => .tail _ (.tail _ hq)) (.head _) (.tail _ (.head _)) (by decide) (Sz.mono (show Sz 1 (-1) by unfold Sz; decide) (by decide)) (Sz.mono (show Sz 1 1 by unfold Sz; decide) (by decide)), marg_step (T0 := fun c => margP f ms ws km 1 ms.length c) (T1 := fun _ => (-1, 1)) (List.Perm.refl (zsOf km)) hz hab rfl, ?nd, e1⟩
      case sub => (first | ((try dsimp only [List.cons_append, List.nil_append]); (repeat (refine List.forall_mem_cons.mpr ⟨(by k_mem), ?_⟩)); first | exact List.forall_mem_nil _ | (intro p9 h9; (repeat (first | exact h9 | (refine List.Mem.tail _ ?_))); done)) | ((first | (((try dsimp only [List.cons_append, List.nil_append]); repeat' (first | exact List.forall_mem_nil _ | (refine fmc (by (first | k_mem | ((repeat (first | (with_reducible exact List.Mem.head _) | exact List.mem_append_left _ (by with_reducible assumption) | exact List.mem_append_left _ (List.Mem.head _) | (with_reducible assumption) | (refine List.Mem.tail _ ?_) | (refine List.mem_append_right _ ?_))); done))) ?_) | (refine fma ?_ ?_) | (intro p9 h9; ((repeat (first | exact h9 | exact List.mem_append_left _ h9 | exact List.mem_append_left _ (List.mem_append_left _ h9) | (refine List.Mem.tail _ ?_) | (refine List.mem_append_right _ ?_))); done)))); done) | (intro p9 h9; simp only [List.mem_append, List.mem_cons, List.not_mem_nil, or_false, List.cons_append, List.nil_append] at h9 ⊢; grind))))
      case nd =>
        refine fmc (Ne.symm (lt2 (D', W.listOf (List.toArray vl) ep) (by k_mem))) ?_
        refine fmc (Ne.symm (lt1 (D', W.listOf (List.toArray vl) ep) (by k_mem))) ?_
        intro q hq
        · exact hnD q hq
      case ne =>
        refine fmc (hn4 (D', W.listOf (List.toArray vl) ep) (by k_mem)) ?_
        refine fmc (Ne.symm (lt2 (I₂, oI₂) (by k_mem))) ?_
        refine fmc (Ne.symm (lt1 (I₂, oI₂) (by k_mem))) ?_
        intro q hq
        · exact hn4 q (.tail _ hq)
    · clear F2 N2
      rintro m₂ _ h₅ tk₅ hJ94 F4 N4
      refine Classical.byContradiction fun hg9 => ?_
      obtain ⟨vl, ep, a, b, imm, r95, hlen, hfr, hab, hnD, e1⟩ := hJ94
      subst r95
      refine hg9 ?_
      clear hg9
      replace N4 : News s.heap L h₅ ((D', W.listOf (List.toArray vl) ep) :: imm) := N4
      have et : (zsOf km).take cv.length = zsOf km := List.take_of_length_le (by omega)
      rw [et] at hab
      w_strict (k_steps)
      exact hR D' vl ep imm a b _ ⟨F4.keep, GB1, hos⟩ (fun q hq => ⟨(N4 q hq).2.2, (N4 q hq).1⟩) hlen hfr hab
end
end
section
section
variable {prog : Program} {w : World} {A : Around} {E : Value → Shared → Prop} {s : Shared}
theorem notIn_t {a : Addr} {o : Obj} {n : Nat} {k : Int} {tk : Tok} {Q : Value → Shared → Prop} (ho : s.heap.get? a = some o) (hs : SmallSet w o n) (hb : inSmall n k = true) (h : Q (.bool false) { s with toks := s.toks + 1 }) :
    wpAny (model prog w) A (compareOp .NotIn (.int k tk) (.ref a)) Q E s := notIn_small ho hs (by rw [hb]; exact h)
theorem notIn_f {a : Addr} {o : Obj} {n : Nat} {k : Int} {tk : Tok} {Q : Value → Shared → Prop} (ho : s.heap.get? a = some o) (hs : SmallSet w o n) (hb : inSmall n k = false) (h : Q (.bool true) { s with toks := s.toks + 1 }) :
    wpAny (model prog w) A (compareOp .NotIn (.int k tk) (.ref a)) Q E s := notIn_small ho hs (by rw [hb]; exact h)
end
theorem range_at {cv : List Value} {nc i : Nat} (hi : IntsAre cv (rangeKs 0 nc)) {v : Value} (hv : cv[i]? = some v) : i < nc ∧ ∃ t, v = .int (i : Int) t := by
  have hl : i < (rangeKs 0 nc).length := by rw [← hi.length]; exact (List.getElem?_eq_some_iff.mp hv).1
  have hn : i < nc := by rwa [rangeKs_length] at hl
  obtain ⟨t, ht⟩ := hi.get i (i : Int) (by simp [rangeKs, hn])
  rw [hv] at ht
  exact ⟨hn, t, Option.some.inj ht⟩
theorem inSmall_mem {n i : Nat} (h : i ∈ zsOf n) : inSmall n ((i : Nat) : Int) = true := by rw [inSmall_of]; exact (mem_zs.mp h).2
theorem inSmall_not {n i : Nat} (h5 : i < 5) (h : i ∉ zsOf n) : inSmall n ((i : Nat) : Int) = false := by
  rw [inSmall_of]
  cases e : n.testBit i with
  | false => rfl
  | true => exact absurd (mem_zs.mpr ⟨h5, e⟩) h
theorem above_max {ad bd ab bb n' d' : Int} (hbd : 0 < bd) (hbb : 0 < bb) (hd' : 0 < d') (h : ad * bb ≤ ab * bd) (e : n' * bb = (ab + 1 * bb) * d') : ad * d' < n' * bd := by
  have k1 : ad * bb * d' ≤ ab * bd * d' := Int.mul_le_mul_of_nonneg_right h (Int.le_of_lt hd')
  have k2 : 0 < bb * d' * bd := Int.mul_pos (Int.mul_pos hbb hd') hbd
  have e1 : n' * bd * bb = ab * bd * d' + bb * d' * bd := by
    have : n' * bd * bb = n' * bb * bd := by grind
    rw [this, e]; grind
  have e2 : ad * d' * bb = ad * bb * d' := by grind
  have : ad * d' * bb < n' * bd * bb := by omega
  exact Int.lt_of_mul_lt_mul_right this (Int.le_of_lt hbb)
end
section
local macro_rules | `(tactic| k_all) => `(tactic| first | exact List.forall_mem_nil _ | with_reducible assumption | (refine' List.forall_mem_cons.mpr ⟨?a, ?b⟩; (case a => k_ne); (case b => k_all)))
theorem words40 : True := by
  k_with_none
  (k_with "ite" => (first | (refine ite_pos (by ((try simp only [beq_iff_eq, bne_iff_ne, decide_eq_true_eq, Bool.not_eq_true', decide_eq_false_iff_not, beq_eq_false_iff_ne, ne_eq]); omega)) ?_) | (refine ite_neg (by ((try simp only [beq_iff_eq, bne_iff_ne, decide_eq_true_eq, Bool.not_eq_true', decide_eq_false_iff_not, beq_eq_false_iff_ne, ne_eq]); omega)) ?_)))
  (k_with "binaryOp FloorDiv int int" => ((k_dflt (refine' floordiv_int ?h1_q ?_ (Or.inl (PyProof.noPylong_of_log2 ?h2_q)); (case h1_q => omega); (case h2_q => first | assumption | exact Sz.log (by assumption))))))
  (k_with "binaryOp Mult int int" => ((k_dflt (refine' mul_int ?_ ?hm_q; (case hm_q => exact Sz.ok (by with_reducible assumption) (by with_reducible assumption) (by omega))))))
  (k_with "call ref" => (((with_reducible show wpAny _ _ (call (Value.ref 182) [Value.int _ _, Value.int _ _]) _ _ _); k_dflt (refine' frac_k ?F_q ?N_q ?X_q ?T_q ?A_q ?b_q ?z_q ?k_q ?_; (case F_q => k_asm); (case N_q => k_asm); (case X_q => k_asm); (case T_q => k_asm); (case A_q => exact Room.le (by assumption) (by decide)); (case b_q => first | assumption | omega | (exact Int.mul_pos (by assumption) (by assumption))); (case z_q => first | assumption | exact Sz.mul (by assumption) (by assumption)); (case k_q => omega)); intro _ _ _ _ _ _ _ _ _ _ _ _ _ _ _ _ _ _ _ _ _)))
  (k_with "binaryOp Pow int int" => ((k_dflt (refine' pow_int_small ?h1_q ?h2_q ?h3_q ?_; (case h1_q => omega); (case h2_q => omega); (case h3_q => omega)))))
  (k_with "call ref" => (((with_reducible show wpAny _ _ (call (Value.ref 182) [Value.int _ _]) _ _ _); k_dflt (refine' frac1_k ?F_q ?N_q ?X_q ?T_q ?A_q ?_; (case F_q => k_asm); (case N_q => k_asm); (case X_q => k_asm); (case T_q => k_asm); (case A_q => exact Room.le (by assumption) (by decide))); intro _ _ _ _ _ _ _ _ _ _ _ _ _ _ _)))
  (k_with "eval Name" => ((k_dflt (first | (refine' nmL ?F_q ?e_q ?v_q ?_ ?a_q ?b_q ?d_q; (case F_q => with_reducible assumption); (case e_q => exact rfl); (case v_q => first | with_reducible assumption | ((try dsimp only); first | exact (if_neg (by decide)).trans (by with_reducible assumption) | exact (if_neg (by decide)).trans ((if_neg (by decide)).trans (by with_reducible assumption)) | exact (if_neg (by decide)).trans ((if_neg (by decide)).trans ((if_neg (by decide)).trans (by with_reducible assumption)))) | exact rfl); (case a_q => exact rfl); (case b_q => exact rfl); (case d_q => decide); k_whole) | (refine' nmC ?F_q ?c_q ?o_q ?d_q ?_ ?a_q ?b_q ?g_q; (case F_q => with_reducible assumption); (case a_q => exact rfl); (case b_q => exact rfl); (case c_q => exact rfl); (case o_q => with_reducible assumption); (case d_q => with_reducible assumption); (case g_q => decide); k_whole) | (refine' nameG_K ?F_q ?X_q ?T_q ?e_q ?_ ?g_q ?a_q ?b_q ?d_q; (case F_q => with_reducible assumption); (case X_q => k_asm); (case T_q => k_asm); (case a_q => exact rfl); (case b_q => exact rfl); (case e_q => k_is); (case g_q => exact rfl); (case d_q => decide); k_whole) | (refine' nmB ?F_q ?X_q ?T_q ?e_q ?v_q ?n_q ?_ ?g_q ?h_q ?a_q ?b_q ?d_q; (case F_q => with_reducible assumption); (case X_q => k_asm); (case T_q => k_asm); (case a_q => exact rfl); (case b_q => exact rfl); (case e_q => k_is); (case v_q => boot_fast); (case n_q => decide); (case g_q => exact rfl); (case h_q => exact rfl); (case d_q => decide); k_whole)))))
  (k_with "call ref" => (((with_reducible show wpAny _ _ (call (Value.ref 492) [Value.ref _, Value.int _ _]) _ _ _); k_dflt (refine' liftI ?F_q ?N_q ?X_q ?T_q (cellZ _ _) (fun R hR => cell_code ⟨Frag.In.keeps (by k_asm) (Fr.keep (by k_asm)), _, _, _, _, _, Top.keeps (by k_asm) (Fr.keep (by k_asm))⟩ (Room.le (by assumption) (by decide)) (stays_list (Fr.keep (by with_reducible assumption)) (by with_reducible assumption)) (by with_reducible assumption) (by with_reducible assumption) (by omega) (by omega) hR) ?_; (case F_q => k_asm); (case N_q => k_asm); (case X_q => k_asm); (case T_q => k_asm)); intro _ _ _ _ _ _)))
  (k_with "exec For" => ((with_unfolding_all refine for_at ?_)))
  (k_with "pyIter ref" => (first | (with_reducible refine hold_pyF ?_) | (with_reducible refine hold_pyC ?_)))
  (k_with "call builtin:len" => (((with_reducible show wpAny _ _ (call (Value.builtin "len") [Value.ref _]) _ _ _); k_dflt (refine' len_old ?F_q ?l_q ?f_q ?_; (case F_q => with_reducible assumption); (case l_q => with_reducible assumption); (case f_q => omega)))))
  (k_with "subscriptTail Name Name ref int" => (((with_reducible show wpAny _ _ (subscriptTail _ _ (Value.ref _) (Value.int _ _)) _ _ _); k_dflt (refine' item_at ?l_q ?a_q ?b_q ?x_q ?_ ?s_q; (case l_q => with_reducible assumption); (case x_q => with_reducible assumption); (case a_q => omega); (case b_q => omega); (case s_q => with_unfolding_all rfl)))))
  (k_with "compareOp In int ref" => ((k_dflt (refine' in_list_ints ?l_q ?i_q ?_; (case l_q => with_reducible assumption); (case i_q => with_reducible assumption)))))
  (k_with "call builtin:len" => (((with_reducible show wpAny _ _ (call (Value.builtin "len") [Value.ref _]) _ _ _); k_dflt (refine' len_cur ?l_q ?f_q ?_; (case l_q => with_reducible assumption); (case f_q => omega)))))
  (k_with "exec For Name Call cons nil" => ((with_unfolding_all refine for_at ?_)))
  (k_with "exec For Name Name cons nil" => ((with_unfolding_all refine for_at ?_)))
  (k_with "call ref" => (((with_reducible show wpAny _ _ (call (Value.ref 511) [Value.str (nameAt _) _, Value.int _ _]) _ _ _); k_dflt (refine' liftPair ?F_q ?N_q ?X_q ?T_q (gN (fnAt _) _) (gD (fnAt _) _) (fun R hR => gain_code ⟨Frag.In.keeps (by k_asm) (Fr.keep (by k_asm)), _, _, _, _, _, Top.keeps (by k_asm) (Fr.keep (by k_asm))⟩ (Room.le (by assumption) (by decide)) (by assumption) (by omega) (by omega) hR) ?_; (case F_q => k_asm); (case N_q => k_asm); (case X_q => k_asm); (case T_q => k_asm)); intro _ _ _ _ _ _ _ l9q; replace l9q := allNe_of l9q; simp only [AllNe, and_true] at l9q)))
  (k_with "call ref" => (((with_reducible show wpAny _ _ (call (Value.ref 518) [Value.ref _, Value.ref _]) _ _ _); k_dflt (refine' liftPair ?F_q ?N_q ?X_q ?T_q _ _ (fun R hR => add_code ⟨Frag.In.keeps (by k_asm) (Fr.keep (by k_asm)), _, _, _, _, _, Top.keeps (by k_asm) (Fr.keep (by k_asm))⟩ (Room.le (by assumption) (by decide)) (pairOfNews (by k_asm) (by k_mem)) (pairOfNews (by k_asm) (by k_mem)) (by with_reducible assumption) (by with_reducible assumption) (by with_reducible assumption) (by with_reducible assumption) (by omega) hR) ?_; (case F_q => k_asm); (case N_q => k_asm); (case X_q => k_asm); (case T_q => k_asm)); intro _ _ _ _ _ _ _ l9q; replace l9q := allNe_of l9q; simp only [AllNe, and_true] at l9q)))
  (k_with "call ref" => (((with_reducible show wpAny _ _ (call (Value.ref _) [Value.int _ _]) _ _ _); k_dflt (refine' liftF ?F_q ?N_q ?X_q ?T_q (FnP _ _) (fun R hR => fn_call ⟨Frag.In.keeps (by k_asm) (Fr.keep (by k_asm)), _, _, _, _, _, Top.keeps (by k_asm) (Fr.keep (by k_asm))⟩ (Room.le (by assumption) (by decide)) (IsFn.keep (by with_reducible assumption) (Fr.keep (by with_reducible assumption))) (by omega) (by omega) hR) ?_; (case F_q => k_asm); (case N_q => k_asm); (case X_q => k_asm); (case T_q => k_asm)); intro _ _ _ _ _ _ _ _ _ _ _ _ _ _ _ _ _ P9q; obtain ⟨P19, P29, P39, P49⟩ := P9q; replace P39 := Sz.mono P39 (show 1 ≤ 40 by decide))))
  (k_with "loadName" => ((k_dflt (refine' lnL ?F_q ?e_q ?v_q ?_ ?a_q ?b_q; (case F_q => with_reducible assumption); (case e_q => exact rfl); (case v_q => first | with_reducible assumption | ((try dsimp only); first | exact (if_neg (by decide)).trans (by with_reducible assumption) | exact (if_neg (by decide)).trans ((if_neg (by decide)).trans (by with_reducible assumption)) | exact (if_neg (by decide)).trans ((if_neg (by decide)).trans ((if_neg (by decide)).trans (by with_reducible assumption)))) | exact rfl); (case a_q => exact rfl); (case b_q => exact rfl); k_whole))))
  (k_with "call ref nil" => (((with_reducible show wpAny _ _ (call (Value.ref _) ([] ++ _)) _ _ _); dsimp only [List.nil_append])))
  (k_with "inplaceOp Add ref" => (((with_reducible show wpAny _ _ (inplaceOp _ (Value.ref _) (Value.ref _)) _ _ _); k_dflt (refine' inplace_K ?k1_q ?k2_q ?k3_q ?k4_q ?k5_q ?k8_q ?k11_q ?k9_q ?k10_q ?k6_q ?k7_q ?_; (case k1_q => k_asm); (case k2_q => k_asm); (case k3_q => k_inst); (case k4_q => k_typeOf); (case k5_q => k_is); (case k8_q => k_is); (case k11_q => exact rfl); (case k9_q => k_is); (case k10_q => k_is); (case k6_q => k_is); (case k7_q => k_is); k_whole))))
  (k_with "call ref" => (((with_reducible show wpAny _ _ (call (Value.ref 95) [Value.ref _, Value.ref _]) _ _ _); k_dflt (refine' frac_add_k ?F_q ?N_q ?X_q ?T_q ?A_q ?v_q ?u_q ?d1_q ?d2_q ?z1_q ?z2_q ?z3_q ?z4_q ?z5_q ?_; (case F_q => k_asm); (case N_q => k_asm); (case X_q => k_asm); (case T_q => k_asm); (case A_q => exact Room.le (by assumption) (by decide)); (case v_q => exact fracOfNews (by k_asm) (by k_mem) (by k_mem)); (case u_q => exact fracOfNews (by k_asm) (by k_mem) (by k_mem)); (case d1_q => with_reducible assumption); (case d2_q => with_reducible assumption); (case z1_q => with_reducible assumption); (case z2_q => with_reducible assumption); (case z3_q => with_reducible assumption); (case z4_q => with_reducible assumption); (case z5_q => omega)); intro _ _ _ _ _ _ _ _ _ _ _ _ _ _ _ _ _ _ _ _ _)))
  (k_with "CmpBack ref" => (with_reducible refine cmpBack_ref ?_))
  (k_with "call type:set cons nil" => (((with_reducible show wpAny _ _ (call (Value.type "set") [Value.ref _]) _ _ _); k_dflt (refine' set_list_k ?F_q ?N_q rfl ?l_q ?i_q ?n_q ?_; (case F_q => k_asm); (case N_q => k_asm); (case l_q => exact stays_list (Fr.keep (by k_asm)) (by with_reducible assumption)); (case i_q => with_reducible assumption); (case n_q => omega)); intro _ _ _ _ _ _ l9q _; replace l9q := allNe_of l9q; simp only [AllNe, and_true] at l9q)))
  (k_with "call builtin:len cons nil" => (((with_reducible show wpAny _ _ (call (Value.builtin "len") [Value.ref _]) _ _ _); k_dflt (refine' len_small_set (News.get ?N_q ?m_q) ?s_q ?_; (case N_q => k_asm); (case m_q => k_mem); (case s_q => with_reducible assumption)))))
  (k_with "getAttr ref true" => (((with_reducible show wpAny _ _ (getAttr (Value.ref _) (PySem.Str.ofString "num_cand") _) _ _ _); k_dflt (refine' get_prop ?k1_q ?k2_q ?k3_q ?k4_q ?k5_q ?k6_q ?k7_q ?k8_q ?k9_q ?_; (case k1_q => k_asm); (case k2_q => k_asm); (case k3_q => k_inst); (case k4_q => k_is); (case k5_q => k_is); (case k6_q => k_is); (case k7_q => k_is); (case k8_q => k_is); (case k9_q => k_is); k_whole); k_dflt (refine' numcand_k ?F_q ?N_q ?X_q ?T_q ?A_q (ProfAt.keep ?P_q ?K_q) ?h_q ?_; (case F_q => k_asm); (case N_q => k_asm); (case X_q => k_asm); (case T_q => k_asm); (case A_q => exact Room.le (by assumption) (by decide)); (case P_q => with_reducible assumption); (case K_q => exact Fr.keep (by k_asm)); (case h_q => with_reducible assumption)); intro _ _ _ _ _)))
  (k_with "call ref" => (((with_reducible show wpAny _ _ (call (Value.ref 481) [Value.ref _] _) _ _ _); (k_dflt (show wpAny _ _ (call (Value.ref 481) [Value.ref _] [(Str.ofString "weight", Value.int _ _)]) _ _ _)); k_dflt (refine' voter_k ?F_q ?N_q ?X_q ?T_q ?C_q ?U_q ?t_q ?B_q (fun G9 R hR => voter_list_code G9 (Room.le (by assumption) (by decide)) ?l_q ?i_q ?n_q ?w_q hR) ?_; (case F_q => k_asm); (case N_q => k_asm); (case X_q => k_asm); (case T_q => k_asm); (case C_q => k_asm); (case U_q => k_updF); (case t_q => with_reducible assumption); (case B_q => with_reducible assumption); (case l_q => exact stays_list (Fr.keep (by k_asm)) (by with_reducible assumption)); (case i_q => with_reducible assumption); (case n_q => omega); (case w_q => with_reducible assumption)); intro _ _ _ _ _ _ _ _ _ _ _ _ N9q lx9q ly9q lz9q _ _ _ _ _ _ _; (try dsimp only at N9q lx9q ly9q lz9q); replace lx9q := allNe_of lx9q; replace ly9q := allNe_of ly9q; replace lz9q := allNe_of lz9q; simp only [AllNe, and_true] at lx9q ly9q lz9q)))
  (k_with "call ref" => (((with_reducible show wpAny _ _ (call (Value.ref 481) [Value.ref _] _) _ _ _); (k_dflt (show wpAny _ _ (call (Value.ref 481) [Value.ref _] [(Str.ofString "weight", Value.int _ _), (Str.ofString "num_cand", Value.int _ _)]) _ _ _)); k_dflt (refine' voter_k ?F_q ?N_q ?X_q ?T_q ?C_q ?U_q ?t_q ?B_q (fun G9 R hR => voter_set_code G9 (Room.le (by assumption) (by decide)) ?l_q ?i_q ?n_q ?w_q hR) ?_; (case F_q => k_asm); (case N_q => k_asm); (case X_q => k_asm); (case T_q => k_asm); (case C_q => k_asm); (case U_q => k_updF); (case t_q => with_reducible assumption); (case B_q => with_reducible assumption); (case l_q => exact Fr.keep (by k_asm) _ _ (by with_reducible assumption)); (case i_q => with_reducible assumption); (case n_q => with_reducible assumption); (case w_q => with_reducible assumption)); intro _ _ _ _ _ _ _ _ _ _ _ _ N9q lx9q ly9q lz9q _ _ _ _ _ _ _; (try dsimp only at N9q lx9q ly9q lz9q); replace lx9q := allNe_of lx9q; replace ly9q := allNe_of ly9q; replace lz9q := allNe_of lz9q; simp only [AllNe, and_true] at lx9q ly9q lz9q)))
  (k_with "call ref" => (((with_reducible show wpAny _ _ (call (Value.ref 245) [Value.str (nameAt _) _, Value.int _ _]) _ _ _); k_dflt (refine' liftFn ?F_q ?N_q ?X_q ?T_q (fnAt _) (fun R hR => gms2 ⟨Frag.In.keeps (by k_asm) (Fr.keep (by k_asm)), _, _, _, _, _, Top.keeps (by k_asm) (Fr.keep (by k_asm))⟩ (Room.le (by assumption) (by decide)) (by assumption) hR) ?_; (case F_q => k_asm); (case N_q => k_asm); (case X_q => k_asm); (case T_q => k_asm)); intro _ _ _ _ _ _ _ _ _ _ _ _ _ _ _ _)))
  (k_with "binaryOp BitAnd" => (((with_reducible show wpAny _ _ (binaryOp _ (Value.ref _) (Value.ref _)) _ _ _); k_dflt (refine' and_k ?F_q ?N_q (News.get ?N2_q ?m_q) (Fr.keep ?F2_q _ _ ?o_q) (new_old ?N3_q ?m3_q ?o3_q) ?s_q ?t_q ?_; (case F_q => k_asm); (case N_q => k_asm); (case N2_q => k_asm); (case N3_q => k_asm); (case F2_q => k_asm); (case m_q => k_mem); (case m3_q => k_mem); (case o_q => with_reducible assumption); (case o3_q => with_reducible assumption); (case s_q => with_reducible assumption); (case t_q => with_reducible assumption)); intro _ _ _ _ _ _ l9q _; replace l9q := allNe_of l9q; simp only [AllNe, and_true] at l9q)))
  (k_with "call ref" => (((with_reducible show wpAny _ _ (call (Value.ref 123) [Value.ref _, Value.int _ _]) _ _ _); k_dflt (refine' frac_mul_k (k := 40) (j := 10) ?F_q ?N_q ?X_q ?T_q ?A_q ?v_q ?d1_q ?z1_q ?z2_q ?z3_q ?z5_q ?_; (case F_q => k_asm); (case N_q => k_asm); (case X_q => k_asm); (case T_q => k_asm); (case A_q => exact Room.le (by assumption) (by decide)); (case v_q => exact fracOfNews (by k_asm) (by k_mem) (by k_mem)); (case d1_q => with_reducible assumption); (case z1_q => with_reducible assumption); (case z2_q => with_reducible assumption); (case z3_q => with_reducible assumption); (case z5_q => decide)); intro _ _ _ _ _ _ _ _ _ _ _ _ _ _ _ _ _ _ _ hn9q hz9q; replace hn9q := Sz.mono hn9q (show 40 + 10 ≤ 50 by decide); replace hz9q := Sz.mono hz9q (show 40 ≤ 50 by decide))))
  (k_with "getMethod ref" => (((with_reducible show wpAny _ _ (getMethod (Value.ref _) (PySem.Str.ofString "intersection") _) _ _ _); k_dflt (refine' getMethod_inter (Fr.keep ?F_q _ _ ?o_q) ?s_q ?_; (case F_q => k_asm); (case o_q => with_reducible assumption); (case s_q => with_reducible assumption)))))
  (k_with "call builtin:set.intersection" => (((with_reducible show wpAny _ _ (call (Value.builtin "set.intersection") _) _ _ _); (k_dflt (show wpAny _ _ (call (Value.builtin "set.intersection") [Value.ref _, Value.ref _]) _ _ _)); k_dflt (refine' inter_list_k ?F_q ?N_q rfl (Fr.keep ?F2_q _ _ ?o_q) ?s_q (stays_list (Fr.keep ?F3_q) ?l_q) ?i_q ?n_q ?_; (case F_q => k_asm); (case N_q => k_asm); (case F2_q => k_asm); (case F3_q => k_asm); (case o_q => with_reducible assumption); (case s_q => with_reducible assumption); (case l_q => with_reducible assumption); (case i_q => with_reducible assumption); (case n_q => with_reducible assumption)); intro _ _ _ _ _ _ l9q _; replace l9q := allNe_of l9q; simp only [AllNe, and_true] at l9q)))
  (k_with "exec For Name Attribute cons nil" => ((with_unfolding_all refine for_at ?_)))
  (k_with "getItem ref int" => ((k_dflt (refine' getItem_k ?N_q ?m_q ?a_q ?b_q ?x_q ?_; (case N_q => k_asm); (case m_q => k_mem); (case a_q => omega); (case b_q => omega); (case x_q => with_reducible assumption)))))
  (k_with "setItem ref int" => ((refine hold ?_)))
  (k_with "call builtin:set.intersection" => (((with_reducible show wpAny _ _ (call (Value.builtin "set.intersection") _) _ _ _); (k_dflt (show wpAny _ _ (call (Value.builtin "set.intersection") [Value.ref _, Value.ref _]) _ _ _)); k_dflt (refine' inter_set_k ?F_q ?N_q (Fr.keep ?F2_q _ _ ?o_q) (Fr.keep ?F3_q _ _ ?l_q) ?ne_q ?s_q ?t_q ?_; (case F_q => k_asm); (case N_q => k_asm); (case F2_q => k_asm); (case F3_q => k_asm); (case o_q => with_reducible assumption); (case s_q => with_reducible assumption); (case l_q => with_reducible assumption); (case t_q => with_reducible assumption); (case ne_q => with_reducible assumption)); intro _ _ _ _ _ _ l9q _; replace l9q := allNe_of l9q; simp only [AllNe, and_true] at l9q)))
  (k_with "compareOp NotIn int ref" => ((k_dflt (first | (refine' notIn_t (Fr.keep ?F_q _ _ ?o_q) ?s_q ?b_q ?_; (case F_q => k_asm); (case o_q => with_reducible assumption); (case s_q => with_reducible assumption); (case b_q => with_reducible assumption)) | (refine' notIn_f (Fr.keep ?F_q _ _ ?o_q) ?s_q ?b_q ?_; (case F_q => k_asm); (case o_q => with_reducible assumption); (case s_q => with_reducible assumption); (case b_q => with_reducible assumption))))))
  (k_with "call builtin:max cons nil" => ((refine hold ?_)))
  (k_with "call ref" => (((with_reducible show wpAny _ _ (call (Value.ref 95) [Value.ref _, Value.int _ _]) _ _ _); k_dflt (refine' frac_addi_k (j := 1) ?F_q ?N_q ?X_q ?T_q ?A_q ?v_q ?d1_q ?z1_q ?z2_q ?z3_q ?z5_q ?_; (case F_q => k_asm); (case N_q => k_asm); (case X_q => k_asm); (case T_q => k_asm); (case A_q => exact Room.le (by assumption) (by decide)); (case v_q => exact fracOfNews (by k_asm) (by k_mem) (by k_mem)); (case d1_q => with_reducible assumption); (case z1_q => with_reducible assumption); (case z2_q => with_reducible assumption); (case z3_q => (unfold Sz; decide)); (case z5_q => omega)); intro _ _ _ _ _ _ _ _ _ _ _ _ _ _ _ _ _ _ _ _ _)))
  (k_with "call ref" => (((with_reducible show wpAny _ _ (call (Value.ref 371) [Value.ref _, Value.ref _]) _ _ _); refine hold ?_)))
  (k_with "call ref" => (((with_reducible show wpAny _ _ (call (Value.ref 444) [Value.int _ _]) _ _ _); refine hold ?_)))
  trivial
section
theorem rem_scores_code {prog : Program} {w : World} {A : Around} {s : Shared} {R : Result → Shared → Prop} (G : Gnd w s.heap) (GB : AllBare s.gens) (hA : Room A 16) {gf : Addr} {f : Fn} (hf : IsFn s.heap (.ref gf) f) {hP : Heap} {x : Addr} {nc : Nat} {ms : List Nat} {ws : List Int} (P : IsProfile w hP x nc ms ws) (hPk : ∀ b o, hP.get? b = some o → s.heap.get? b = some o) {lc : Addr} {oc : Obj} {km : Nat} (nlc : hP.get? lc = none) (hc : s.heap.get? lc = some oc) (hsc : SmallSet w oc km) (hkm : km < 32)
    (h1 : 1 ≤ nc) (h5 : nc ≤ 5) (h4 : ms.length ≤ 4) (hm : ∀ m ∈ ms, m < 32 ∧ ∀ z ∈ zsOf m, z < nc) (hw1 : ∀ x ∈ ws, 1 ≤ x ∧ x ≤ 1000) (hkc : ∀ z ∈ zsOf km, z < nc)
    (hR : ∀ D' vl ep imm a b s', DoneG s s' → Made s.heap s'.heap ((D', W.listOf (List.toArray vl) ep) :: imm) → vl.length = nc → FracsIn imm vl a b 300 → (∀ c ∈ zsOf km, a c * (margP f ms ws km 0 ms.length c).2 = (margP f ms ws km 0 ms.length c).1 * b c) → (∀ c, c < nc → c ∉ zsOf km → ∀ d ∈ zsOf km, a d * b c < a c * b d) → R (.ok (.ret (.ref D'))) s') :
    codeAny (model prog w) A (.call (.ref 322) ⟨[.ref gf, .ref x, .ref lc], []⟩) R s := by
  obtain ⟨X, p, loose, mean, mg, mb, T⟩ := G
  (refine xa_8_4 (id hf) ?_; intro _ dg hs1g hs2g tg1 tg2 tg3 pv hge hg1 hg2 hg3)
  cases hge
  (refine xa_3_5 (P) ?_; intro dx V vs PA hV hvl hwl hvv; (try clear P))
  replace PA := PA.keep hPk
  replace hV := stays_list hPk hV
  (refine xa_9_4 (id PA) ?_; intro C D hs1 hs2 hs3 t1 t2 t3 cv' g1 g2 g3 g4)
  w_on
  w_strict (k_dflt (refine' enter (K := hd.heap_1 w.params) (binds := [(Str.ofString "marginal_scorefct", .ref gf), (Str.ofString "profile", .ref x), (Str.ofString "committee", .ref lc)]) X T.nolimit ?o ?c ?b ?l hA (fun L h₁ F N dp un fr gd hA' => ?_) ?c2 ?c3 ?c4 ?c5; (case o => k_is); (case c => k_is); (case b => first | exact BindsTo.of_eq rfl | exact binds_K X rfl (by k_is) rfl rfl rfl); (case l => exact locs rfl); (case c2 => exact rfl); (case c3 => exact rfl); (case c4 => exact rfl); (case c5 => decide)))
  dsimp only
  w_strict (k_fold)
  w_strict (k_steps)
  unfold Hold
  rename Fr _ _ _ _ => F1
  rename News _ _ _ _ => N1
  refine Classical.byContradiction fun hg9 => ?_
  (refine xa_3_4 (headOne2 N1) ?_; intro D' y dy N0 eD r95 r96)
  subst r95
  subst r96
  refine hg9 ?_
  clear hg9
  rw [rep_obj] at N0
  rw [← eD] at F1
  clear N1 eD
  have nD1 : (y : Addr) ≠ D' := objNe N0 (.tail _ (.head _)) (.head _) (show Value.ref 182 ≠ Value.type "list" from nofun)
  have nD2 : (dy : Addr) ≠ D' := objNe N0 (.tail _ (.tail _ (.head _))) (.head _) (show Value.type "dict" ≠ Value.type "list" by decide)
  refine prof_for F1 N0 X T rfl hA'.lim PA hV (by exact GB) (fun i m₁ news₁ => E5 fun vs ep a b imm => A9 (news₁ = (D', W.listOf (List.toArray vs) ep) :: imm) (vs.length = nc) (FracsIn imm vs a b (51 * i + 1)) ((∀ c, c < nc → a c * (margP f ms ws km 0 i c).2 = (margP f ms ws km 0 i c).1 * b c)) ((∀ p ∈ imm, p.1 ≠ D')) (m₁ (Str.ofString "marg_util_cand") = some (.ref D')) (m₁ (Str.ofString "marginal_scorefct") = some (.ref gf)) (m₁ (Str.ofString "committee") = some (.ref lc)) (m₁ (Str.ofString "profile") = some (.ref x))) ?_ ?_ ?_
  · refine ⟨_, 0, fun _ => 0, fun _ => 1, [(y, instObj 182 dy), (dy, _)], rfl, List.length_replicate .., FracsIn.all (.head _) (.tail _ (.head _)) (by decide) (by unfold Sz; decide) (by unfold Sz; decide), fun c _ => by simp [margP], fun p hp => ?_, rfl, rfl, rfl, rfl⟩
    rcases List.mem_cons.mp hp with rfl | hp
    · exact nD1
    · rw [List.mem_singleton.mp hp]; exact nD2
  · clear F1 N0
    rintro I C5 a5 i v m₁ _ u oI oC oa hvi hJ912 hos F1 N1 hn nIC nIa nCa
    refine Classical.byContradiction fun hg9 => ?_
    obtain ⟨vl, ep, a, b, imm, r95, hlen, hfr, hab, hnD, e1, e2, e3, e9⟩ := hJ912
    subst r95
    refine hg9 ?_
    clear hg9
    have hil : i < vs.length := (List.getElem?_eq_some_iff.mp hvi).1
    have him : i < ms.length := by omega
    have hiw : i < ws.length := by omega
    (refine xa_1_2 (hvv i ms[i] ws[i] (List.getElem?_eq_getElem him) (List.getElem?_eq_getElem hiw)) ?_; intro v' e4 hv)
    rw [hvi] at e4
    obtain rfl : v = v' := Option.some.inj e4
    refine Classical.byContradiction fun hg9 => ?_
    (refine xa_9_5 (hv) ?_; intro vx vdx S o k1 k2 r1 r2 r3 r99 g5 g6 g7 sm; (try clear hv))
    subst r99
    refine hg9 ?_
    clear hg9
    have nSl : S ≠ lc := fun q => by rw [q, nlc] at g7; cases g7
    replace g5 := hPk _ _ g5
    replace g6 := hPk _ _ g6
    replace g7 := hPk _ _ g7
    have hm32 := (hm ms[i] (List.getElem_mem him)).1
    have hwt := hw1 ws[i] (List.getElem_mem hiw)
    have hwz : Sz 10 ws[i] := by unfold Sz; omega
    w_strict (k_steps)
    unfold Hold
    rename Fr _ _ _ _ => F2
    rename News _ _ _ _ => N2
    have ez5 := zs_le (ms[i] &&& km)
    have N3 : News s.heap L _ ([] ++ (D', W.listOf (List.toArray vl) ep) :: (I, oI) :: (C5, oC) :: (a5, oa) :: imm) := newsSub N2 (by first | ((try dsimp only [List.cons_append, List.nil_append]); (repeat (refine List.forall_mem_cons.mpr ⟨(by k_mem), ?_⟩)); first | exact List.forall_mem_nil _ | (intro p9 h9; (repeat (first | exact h9 | (refine List.Mem.tail _ ?_))); done)) | ((first | (((try dsimp only [List.cons_append, List.nil_append]); repeat' (first | exact List.forall_mem_nil _ | (refine fmc (by (first | k_mem | ((repeat (first | (with_reducible exact List.Mem.head _) | exact List.mem_append_left _ (by with_reducible assumption) | exact List.mem_append_left _ (List.Mem.head _) | (with_reducible assumption) | (refine List.Mem.tail _ ?_) | (refine List.mem_append_right _ ?_))); done))) ?_) | (refine fma ?_ ?_) | (intro p9 h9; ((repeat (first | exact h9 | exact List.mem_append_left _ h9 | exact List.mem_append_left _ (List.mem_append_left _ h9) | (refine List.Mem.tail _ ?_) | (refine List.mem_append_right _ ?_))); done)))); done) | (intro p9 h9; simp only [List.mem_append, List.mem_cons, List.not_mem_nil, or_false, List.cons_append, List.nil_append] at h9 ⊢; grind))))
    clear N2
    have nI := (hn (D', W.listOf (List.toArray vl) ep) (.head _))
    refine for_set (fix := []) rfl F2 N3 sm (fun h k _ => k _ _ g7)
      (fun ord j m₂ news₂ => E5 fun vl ep a b imm => A12 (news₂ = (D', W.listOf (List.toArray vl) ep) :: (I, oI) :: (C5, oC) :: (a5, oa) :: imm) (vl.length = nc) (FracsIn imm vl a b (51 * (i + 1) + 1)) ((∀ c, c < nc → a c * (if c ∈ ord.take j then margP f ms ws km 0 (i + 1) c else margP f ms ws km 0 i c).2 = (if c ∈ ord.take j then margP f ms ws km 0 (i + 1) c else margP f ms ws km 0 i c).1 * b c)) ((∀ c, c < nc → c ∉ ord.take j → Sz (51 * i + 1) (a c) ∧ Sz (51 * i + 1) (b c))) ((∀ p ∈ imm, p.1 ≠ D' ∧ p.1 ≠ I ∧ p.1 ≠ C5 ∧ p.1 ≠ a5)) (m₂ (Str.ofString "marg_util_cand") = some (.ref D')) (m₂ (Str.ofString "marginal_scorefct") = some (.ref gf)) (m₂ (Str.ofString "committee") = some (.ref lc)) (m₂ (Str.ofString "profile") = some (.ref x)) (m₂ (Str.ofString "voter") = some (.ref vx)) ((∃ tj, m₂ (Str.ofString "satisfaction") = some (.int ((zsOf (ms[i] &&& km)).length : Int) tj)))) ?_ ?_ ?_
    · refine fun ord _ => ⟨vl, ep, a, b, imm, rfl, hlen, hfr.mono (by omega) (fun _ h => h), fun c hc => by simpa using hab c hc, fun c hc _ => ?_, fun q hq => ⟨hnD q hq, hn q (.tail _ hq)⟩, e1, e2, e3, e9, rfl, _, rfl⟩
      (refine xa_8_6 (hfr c (by omega)) ?_; intro _ _ _ _ _ _ _ _ _ _ _ _ s1 s2)
      exact ⟨s1, s2⟩
    · clear F2 N3
      rintro ord j z tz m₂ _ h₅ tk₅ I₂ oI₂ hp hoj hJ912 F4 N4 hn4
      refine Classical.byContradiction fun hg9 => ?_
      obtain ⟨vl, ep, a, b, imm, r95, hlen, hfr, hab, hsz, hnD, e1, e2, e3, e9, e5, tj, e6⟩ := hJ912
      subst r95
      refine hg9 ?_
      clear hg9
      have hzm : z ∈ zsOf ms[i] := hp.mem_iff.mp (List.mem_of_getElem? hoj)
      have hz : z < nc := (hm ms[i] (List.getElem_mem him)).2 z hzm
      have hzt : ms[i].testBit z = true := (mem_zs.mp hzm).2
      have hz5 : z < 5 := (mem_zs.mp hzm).1
      have hnt : z ∉ ord.take j := not_in_take hp hoj
      obtain ⟨hsa, hsb⟩ := hsz z hz hnt
      (refine xa_8_6 (hfr z (by omega)) ?_; intro fx fdx l1 l2 w1 w2 w3 w4 q1 q2 q3 hb0 c912 c913)
      clear c912 c913
      replace N4 : News s.heap L h₅ ((fx, instObj 182 fdx) :: (fdx, fracD l1 l2 (a z) (b z) w1 w2 w3 w4) :: (I₂, oI₂) :: (D', W.listOf (List.toArray vl) ep) :: (I, oI) :: (C5, oC) :: (a5, oa) :: imm) := newsSub N4 (by
        refine fmc (.tail _ (.tail _ (.tail _ (.tail _ (.tail _ q2))))) ?_
        refine fmc (.tail _ (.tail _ (.tail _ (.tail _ (.tail _ q3))))) ?_
        intro p hp
        · exact hp)
      have hvz : vl[((z : Nat) : Int).toNat]? = some (.ref fx) := by rw [Int.toNat_natCast]; exact q1
      w_strict (k_steps)
      unfold Hold
      rename Fr _ _ _ _ => F6
      rename News _ _ _ _ => N6
      rename _ * (_ * _) = _ => he
      rename _ * gD _ _ = _ => he2
      rename _ = _ * ws[i] * _ => he3
      rename ∀ p : Addr × Obj, p ∈ _ → p.1 < _ => lA
      refine Classical.byContradiction fun hg9 => ?_
      (refine xa_10_5 (headFrac N6) ?_; intro y' dy' ks1' ks2' c d v1 v2 v3 v4 N7 r911 r912 r913 r914)
      subst r911
      subst r912
      subst r913
      subst r914
      refine hg9 ?_
      clear hg9
      clear N6
      have lt1 : ∀ q ∈ [(D', W.listOf (List.toArray vl) ep), (I₂, oI₂), (I, oI), (C5, oC), (a5, oa)], q.1 ≠ dy' := (by (repeat (refine fmc (Nat.ne_of_lt (lA _ (by k_mem))) ?_)); exact List.forall_mem_nil _)
      have lt2 : ∀ q ∈ [(D', W.listOf (List.toArray vl) ep), (I₂, oI₂), (I, oI), (C5, oC), (a5, oa)], q.1 ≠ y' := (by (repeat (refine fmc (Nat.ne_of_lt (Nat.lt_trans (lA _ (by k_mem)) (by assumption))) ?_)); exact List.forall_mem_nil _)
      have N8 : News s.heap L _ ((D', W.listOf (List.toArray vl) ep) :: (y', instObj 182 dy') :: (dy', fracD ks1' ks2' c d v1 v2 v3 v4) :: (I₂, oI₂) :: (I, oI) :: (C5, oC) :: (a5, oa) :: imm) := newsSub N7 (by first | ((try dsimp only [List.cons_append, List.nil_append]); (repeat (refine List.forall_mem_cons.mpr ⟨(by k_mem), ?_⟩)); first | exact List.forall_mem_nil _ | (intro p9 h9; (repeat (first | exact h9 | (refine List.Mem.tail _ ?_))); done)) | ((first | (((try dsimp only [List.cons_append, List.nil_append]); repeat' (first | exact List.forall_mem_nil _ | (refine fmc (by (first | k_mem | ((repeat (first | (with_reducible exact List.Mem.head _) | exact List.mem_append_left _ (by with_reducible assumption) | exact List.mem_append_left _ (List.Mem.head _) | (with_reducible assumption) | (refine List.Mem.tail _ ?_) | (refine List.mem_append_right _ ?_))); done))) ?_) | (refine fma ?_ ?_) | (intro p9 h9; ((repeat (first | exact h9 | exact List.mem_append_left _ h9 | exact List.mem_append_left _ (List.mem_append_left _ h9) | (refine List.Mem.tail _ ?_) | (refine List.mem_append_right _ ?_))); done)))); done) | (intro p9 h9; simp only [List.mem_append, List.mem_cons, List.not_mem_nil, or_false, List.cons_append, List.nil_append] at h9 ⊢; grind))))
      clear N7
      refine setItem_k F6 N8 (UpdF.head ?hne) (by omega) (by omega) (by omega) ?_
      case hne =>
        refine fmc (Ne.symm (lt2 (D', W.listOf (List.toArray vl) ep) (by k_mem))) ?_
        refine fmc (Ne.symm (lt1 (D', W.listOf (List.toArray vl) ep) (by k_mem))) ?_
        refine fmc (Ne.symm (hn4 (D', W.listOf (List.toArray vl) ep) (by k_mem))) ?_
        refine fmc (Ne.symm nI.1) ?_
        refine fmc (Ne.symm nI.2.1) ?_
        refine fmc (Ne.symm nI.2.2) ?_
        intro q hq
        · exact (hnD q hq).1
      intro h₆ F9 N9
      clear F6 N8
      rw [Int.toNat_natCast] at N9
      w_strict (k_steps)
      rename Sz _ c => zc
      rename Sz _ d => zd
      have hrel : c * (margP f ms ws km 0 (i + 1) z).2 = (margP f ms ws km 0 (i + 1) z).1 * d := by
        have h0 := hab z hz
        rw [if_neg hnt] at h0
        rw [margP_in him hiw hzt, Nat.add_zero]
        exact frac_add_eq hb0 (by assumption) he h0 (frac_mul_eq (by assumption) he3 he2)
      refine ⟨rfl, _, _, _, (D', W.listOf (List.toArray (vl.set z (Value.ref y'))) ep) :: (I, oI) :: (C5, oC) :: (a5, oa) :: (y', instObj 182 dy') :: (dy', fracD ks1' ks2' c d v1 v2 v3 v4) :: imm, rfl, F9, newsSub N9 ?sub, ?ne, vl.set z (Value.ref y'), ep, upd a z c, upd b z d, (y', instObj 182 dy') :: (dy', fracD ks1' ks2' c d v1 v2 v3 v4) :: imm, rfl, by rw [List.length_set]; exact hlen, hfr.set (Nat.le_refl _) (fun q hq => .tail _ (.tail _ hq)) (.head _) (.tail _ (.head _)) (by assumption) (zc.mono (by omega)) (zd.mono (by omega)), marg_step hp hoj hab hrel, ?sz, ?nd, e1, e2, e3, e9, e5, tj, e6⟩
      case sub => (first | ((try dsimp only [List.cons_append, List.nil_append]); (repeat (refine List.forall_mem_cons.mpr ⟨(by k_mem), ?_⟩)); first | exact List.forall_mem_nil _ | (intro p9 h9; (repeat (first | exact h9 | (refine List.Mem.tail _ ?_))); done)) | ((first | (((try dsimp only [List.cons_append, List.nil_append]); repeat' (first | exact List.forall_mem_nil _ | (refine fmc (by (first | k_mem | ((repeat (first | (with_reducible exact List.Mem.head _) | exact List.mem_append_left _ (by with_reducible assumption) | exact List.mem_append_left _ (List.Mem.head _) | (with_reducible assumption) | (refine List.Mem.tail _ ?_) | (refine List.mem_append_right _ ?_))); done))) ?_) | (refine fma ?_ ?_) | (intro p9 h9; ((repeat (first | exact h9 | exact List.mem_append_left _ h9 | exact List.mem_append_left _ (List.mem_append_left _ h9) | (refine List.Mem.tail _ ?_) | (refine List.mem_append_right _ ?_))); done)))); done) | (intro p9 h9; simp only [List.mem_append, List.mem_cons, List.not_mem_nil, or_false, List.cons_append, List.nil_append] at h9 ⊢; grind))))
      case sz =>
        intro k hk hnk
        have hnk2 := fun h => hnk ((take_succ_mem hoj).mpr h)
        have e : k ≠ z := fun h => hnk2 (.inr h)
        rw [upd_ne e, upd_ne e]
        exact hsz k hk fun h => hnk2 (.inl h)
      case nd =>
        refine fmc (⟨Ne.symm (lt2 (D', W.listOf (List.toArray vl) ep) (by k_mem)), Ne.symm (lt2 (I, oI) (by k_mem)), Ne.symm (lt2 (C5, oC) (by k_mem)), Ne.symm (lt2 (a5, oa) (by k_mem))⟩) ?_
        refine fmc (⟨Ne.symm (lt1 (D', W.listOf (List.toArray vl) ep) (by k_mem)), Ne.symm (lt1 (I, oI) (by k_mem)), Ne.symm (lt1 (C5, oC) (by k_mem)), Ne.symm (lt1 (a5, oa) (by k_mem))⟩) ?_
        intro q hq
        · exact hnD q hq
      case ne =>
        refine fmc (hn4 (D', W.listOf (List.toArray vl) ep) (by k_mem)) ?_
        refine fmc (hn4 (I, oI) (by k_mem)) ?_
        refine fmc (hn4 (C5, oC) (by k_mem)) ?_
        refine fmc (hn4 (a5, oa) (by k_mem)) ?_
        refine fmc (Ne.symm (lt2 (I₂, oI₂) (by k_mem))) ?_
        refine fmc (Ne.symm (lt1 (I₂, oI₂) (by k_mem))) ?_
        intro q hq
        · exact hn4 q (.tail _ (.tail _ (.tail _ (.tail _ hq))))
    · clear F2 N3
      rintro ord m₂ _ h₅ tk₅ hp hJ96 F4 N4
      refine Classical.byContradiction fun hg9 => ?_
      obtain ⟨vl, ep, a, b, imm, r95, hlen, hfr, hab, hsz, hnD, e1, e2, e3, e9, e5, tj, e6⟩ := hJ96
      subst r95
      refine hg9 ?_
      clear hg9
      w_strict (k_steps)
      refine ⟨rfl, rfl, rfl, _, (D', W.listOf (List.toArray vl) ep) :: imm, F4, newsSub N4 ?sub, ?ne, vl, ep, a, b, imm, rfl, hlen, hfr, ?ab, fun q hq => (hnD q hq).1, e1, e2, e3, e9⟩
      case sub => (first | ((try dsimp only [List.cons_append, List.nil_append]); (repeat (refine List.forall_mem_cons.mpr ⟨(by k_mem), ?_⟩)); first | exact List.forall_mem_nil _ | (intro p9 h9; (repeat (first | exact h9 | (refine List.Mem.tail _ ?_))); done)) | ((first | (((try dsimp only [List.cons_append, List.nil_append]); repeat' (first | exact List.forall_mem_nil _ | (refine fmc (by (first | k_mem | ((repeat (first | (with_reducible exact List.Mem.head _) | exact List.mem_append_left _ (by with_reducible assumption) | exact List.mem_append_left _ (List.Mem.head _) | (with_reducible assumption) | (refine List.Mem.tail _ ?_) | (refine List.mem_append_right _ ?_))); done))) ?_) | (refine fma ?_ ?_) | (intro p9 h9; ((repeat (first | exact h9 | exact List.mem_append_left _ h9 | exact List.mem_append_left _ (List.mem_append_left _ h9) | (refine List.Mem.tail _ ?_) | (refine List.mem_append_right _ ?_))); done)))); done) | (intro p9 h9; simp only [List.mem_append, List.mem_cons, List.not_mem_nil, or_false, List.cons_append, List.nil_append] at h9 ⊢; grind))))
      case ne =>
        refine fmc (nI) ?_
        intro q hq
        · exact (hnD q hq).2
      case ab =>
        intro c hc
        have h0 := hab c hc
        rw [List.take_of_length_le (Nat.le_refl _)] at h0
        by_cases hm' : c ∈ ord
        · rwa [if_pos hm'] at h0
        · rw [if_neg hm'] at h0
          rw [margP_out him fun hb => hm' (hp.mem_iff.mpr (mem_zs.mpr ⟨by omega, hb⟩))]
          exact h0
  · clear F1 N0
    rintro m₁ _ u hJ93 hos GB1 F1 N1
    refine Classical.byContradiction fun hg9 => ?_
    obtain ⟨vl, ep, a, b, imm, r95, hlen, hfr, hab, hnD, e1, e2, e3, e9⟩ := hJ93
    subst r95
    refine hg9 ?_
    clear hg9
    w_strict (k_steps)
    unfold Hold
    rename Fr _ _ _ _ => F2
    rename News _ _ _ _ => N2
    have h205 : 51 * vs.length + 1 ≤ 205 := by omega
    have hab' : ∀ c ∈ zsOf km, a c * (margP f ms ws km 0 ms.length c).2 = (margP f ms ws km 0 ms.length c).1 * b c := by
      intro c hc
      rw [← hvl]
      exact hab c (hkc c hc)
    have hcv : cv'.length = nc := g4.length.trans (rangeKs_length 0 nc)
    refine for_list (fix := []) rfl F2 N2 (fun h k _ => stays_list k g3)
      (fun i m₂ news₂ => E5 fun vl ep a b imm => A8 (news₂ = (D', W.listOf (List.toArray vl) ep) :: imm) (vl.length = nc) (FracsIn imm vl a b (205 + 3 * i)) ((∀ c ∈ zsOf km, a c * (margP f ms ws km 0 ms.length c).2 = (margP f ms ws km 0 ms.length c).1 * b c)) ((∀ c, c < i → c ∉ zsOf km → ∀ d ∈ zsOf km, a d * b c < a c * b d)) ((∀ p ∈ imm, p.1 ≠ D')) (m₂ (Str.ofString "marg_util_cand") = some (.ref D')) (m₂ (Str.ofString "committee") = some (.ref lc))) ?_ ?_ ?_
    · exact ⟨vl, ep, a, b, imm, rfl, hlen, hfr.mono h205 fun _ h => h, hab', fun c hc => absurd hc (Nat.not_lt_zero _), hnD, e1, e3⟩
    · clear F2 N2
      rintro i v m₂ _ h₅ tk₅ I₂ oI₂ hvi hJ99 F4 N4 hn4
      refine Classical.byContradiction fun hg9 => ?_
      obtain ⟨vl, ep, a, b, imm, r95, hlen, hfr, hab, hgt, hnD, e1, e3⟩ := hJ99
      subst r95
      refine hg9 ?_
      clear hg9
      refine Classical.byContradiction fun hg9 => ?_
      obtain ⟨hi, t, r92⟩ := range_at g4 hvi
      subst r92
      refine hg9 ?_
      clear hg9
      replace N4 : News s.heap L h₅ ((I₂, oI₂) :: (D', W.listOf (List.toArray vl) ep) :: imm) := N4
      by_cases hc : i ∈ zsOf km
      · have hin := inSmall_mem hc
        w_strict (k_steps)
        rename Fr _ _ _ _ => F6
        rename News _ _ _ _ => N6
        refine ⟨rfl, _, _, _, (D', W.listOf (List.toArray vl) ep) :: imm, rfl, F6, N6, hn4, vl, ep, a, b, imm, rfl, hlen, hfr.mono (by omega) fun _ h => h, hab, fun c hc1 hc2 => ?_, hnD, e1, e3⟩
        rcases Nat.lt_or_ge c i with q | q
        · exact hgt c q hc2
        · obtain rfl : c = i := by omega
          exact absurd hc hc2
      · have hin := inSmall_not (n := km) (i := i) (by omega) hc
        w_strict (k_steps)
        unfold Hold
        rename Fr _ _ _ _ => F6
        rename News _ _ _ _ => N6
        refine max_k F6 N6 X T (hA'.le (by decide)) (by k_mem) hfr (fun q hq => .tail _ (.tail _ hq)) (by omega) (by omega) ?_
        intro best h₇ tk₇ hbe hmx F7 N7
        clear F6 N6
        (refine xa_8_6 (hfr best hbe) ?_; intro fx fdx l1 l2 w1 w2 w3 w4 q1 q2 q3 hb0 hsa hsb)
        rw [List.getElem?_eq_getElem hbe] at q1
        rw [Option.some.inj q1]
        replace N7 : News s.heap L h₇ ((fx, instObj 182 fdx) :: (fdx, fracD l1 l2 (a best) (b best) w1 w2 w3 w4) :: (I₂, oI₂) :: (D', W.listOf (List.toArray vl) ep) :: imm) := newsSub N7 (by
          refine fmc (.tail _ (.tail _ q2)) ?_
          refine fmc (.tail _ (.tail _ q3)) ?_
          intro p hp
          · exact hp)
        w_strict (k_steps)
        unfold Hold
        rename Fr _ _ _ _ => F6
        rename News _ _ _ _ => N6
        rename _ * b best = _ => he
        rename ∀ p : Addr × Obj, p ∈ _ → p.1 < _ => lA
        refine Classical.byContradiction fun hg9 => ?_
        (refine xa_10_5 (headFrac N6) ?_; intro y' dy' ks1' ks2' c d v1 v2 v3 v4 N8 r911 r912 r913 r914)
        subst r911
        subst r912
        subst r913
        subst r914
        refine hg9 ?_
        clear hg9
        clear N6
        rename Sz _ c => zc
        rename Sz _ d => zd
        rename 0 < d => hd0
        have lt1 : ∀ q ∈ [(D', W.listOf (List.toArray vl) ep), (I₂, oI₂)], q.1 ≠ dy' := (by (repeat (refine fmc (Nat.ne_of_lt (lA _ (by k_mem))) ?_)); exact List.forall_mem_nil _)
        have lt2 : ∀ q ∈ [(D', W.listOf (List.toArray vl) ep), (I₂, oI₂)], q.1 ≠ y' := (by (repeat (refine fmc (Nat.ne_of_lt (Nat.lt_trans (lA _ (by k_mem)) (by assumption))) ?_)); exact List.forall_mem_nil _)
        have N9 : News s.heap L _ ((D', W.listOf (List.toArray vl) ep) :: (y', instObj 182 dy') :: (dy', fracD ks1' ks2' c d v1 v2 v3 v4) :: (I₂, oI₂) :: imm) := newsSub N8 (by first | ((try dsimp only [List.cons_append, List.nil_append]); (repeat (refine List.forall_mem_cons.mpr ⟨(by k_mem), ?_⟩)); first | exact List.forall_mem_nil _ | (intro p9 h9; (repeat (first | exact h9 | (refine List.Mem.tail _ ?_))); done)) | ((first | (((try dsimp only [List.cons_append, List.nil_append]); repeat' (first | exact List.forall_mem_nil _ | (refine fmc (by (first | k_mem | ((repeat (first | (with_reducible exact List.Mem.head _) | exact List.mem_append_left _ (by with_reducible assumption) | exact List.mem_append_left _ (List.Mem.head _) | (with_reducible assumption) | (refine List.Mem.tail _ ?_) | (refine List.mem_append_right _ ?_))); done))) ?_) | (refine fma ?_ ?_) | (intro p9 h9; ((repeat (first | exact h9 | exact List.mem_append_left _ h9 | exact List.mem_append_left _ (List.mem_append_left _ h9) | (refine List.Mem.tail _ ?_) | (refine List.mem_append_right _ ?_))); done)))); done) | (intro p9 h9; simp only [List.mem_append, List.mem_cons, List.not_mem_nil, or_false, List.cons_append, List.nil_append] at h9 ⊢; grind))))
        clear N8
        refine setItem_k F6 N9 (UpdF.head ?hne) (by omega) (by omega) (by omega) ?_
        case hne =>
          refine fmc (Ne.symm (lt2 (D', W.listOf (List.toArray vl) ep) (by k_mem))) ?_
          refine fmc (Ne.symm (lt1 (D', W.listOf (List.toArray vl) ep) (by k_mem))) ?_
          refine fmc (Ne.symm (hn4 (D', W.listOf (List.toArray vl) ep) (by k_mem))) ?_
          intro q hq
          · exact hnD q hq
        intro h₈ F9 N10
        clear F6 N9
        rw [Int.toNat_natCast] at N10
        w_strict (k_steps)
        refine ⟨rfl, _, _, _, (D', W.listOf (List.toArray (vl.set i (Value.ref y'))) ep) :: (y', instObj 182 dy') :: (dy', fracD ks1' ks2' c d v1 v2 v3 v4) :: imm, rfl, F9, newsSub N10 ?sub, ?ne, vl.set i (Value.ref y'), ep, upd a i c, upd b i d, (y', instObj 182 dy') :: (dy', fracD ks1' ks2' c d v1 v2 v3 v4) :: imm, rfl, by rw [List.length_set]; exact hlen, hfr.set (by omega) (fun q hq => .tail _ (.tail _ hq)) (.head _) (.tail _ (.head _)) hd0 (zc.mono (by omega)) (zd.mono (by omega)), ?ab, ?gt, ?nd, e1, e3⟩
        case sub => (first | ((try dsimp only [List.cons_append, List.nil_append]); (repeat (refine List.forall_mem_cons.mpr ⟨(by k_mem), ?_⟩)); first | exact List.forall_mem_nil _ | (intro p9 h9; (repeat (first | exact h9 | (refine List.Mem.tail _ ?_))); done)) | ((first | (((try dsimp only [List.cons_append, List.nil_append]); repeat' (first | exact List.forall_mem_nil _ | (refine fmc (by (first | k_mem | ((repeat (first | (with_reducible exact List.Mem.head _) | exact List.mem_append_left _ (by with_reducible assumption) | exact List.mem_append_left _ (List.Mem.head _) | (with_reducible assumption) | (refine List.Mem.tail _ ?_) | (refine List.mem_append_right _ ?_))); done))) ?_) | (refine fma ?_ ?_) | (intro p9 h9; ((repeat (first | exact h9 | exact List.mem_append_left _ h9 | exact List.mem_append_left _ (List.mem_append_left _ h9) | (refine List.Mem.tail _ ?_) | (refine List.mem_append_right _ ?_))); done)))); done) | (intro p9 h9; simp only [List.mem_append, List.mem_cons, List.not_mem_nil, or_false, List.cons_append, List.nil_append] at h9 ⊢; grind))))
        case ab =>
          intro k hk
          have e : k ≠ i := fun q => hc (q ▸ hk)
          rw [upd_ne e, upd_ne e]
          exact hab k hk
        case gt =>
          intro k hk1 hk2 j hj
          have ej : j ≠ i := fun q => hc (q ▸ hj)
          rw [upd_ne ej, upd_ne ej]
          by_cases e : k = i
          · subst e
            rw [upd_self, upd_self]
            have hjn := hkc j hj
            (refine xa_8_6 (hfr j (by omega)) ?_; intro _ _ _ _ _ _ _ _ _ _ _ hbj _ _)
            exact above_max hbj hb0 hd0 (hmx j (by omega)) he
          · rw [upd_ne e, upd_ne e]
            exact hgt k (by omega) hk2 j hj
        case nd =>
          refine fmc (Ne.symm (lt2 (D', W.listOf (List.toArray vl) ep) (by k_mem))) ?_
          refine fmc (Ne.symm (lt1 (D', W.listOf (List.toArray vl) ep) (by k_mem))) ?_
          intro q hq
          · exact hnD q hq
        case ne =>
          refine fmc (hn4 (D', W.listOf (List.toArray vl) ep) (by k_mem)) ?_
          refine fmc (Ne.symm (lt2 (I₂, oI₂) (by k_mem))) ?_
          refine fmc (Ne.symm (lt1 (I₂, oI₂) (by k_mem))) ?_
          intro q hq
          · exact hn4 q (.tail _ hq)
    · clear F2 N2
      rintro m₂ _ h₅ tk₅ hJ94 F4 N4
      refine Classical.byContradiction fun hg9 => ?_
      obtain ⟨vl, ep, a, b, imm, r95, hlen, hfr, hab, hgt, hnD, e1, e3⟩ := hJ94
      subst r95
      refine hg9 ?_
      clear hg9
      replace N4 : News s.heap L h₅ ((D', W.listOf (List.toArray vl) ep) :: imm) := N4
      w_strict (k_steps)
      exact hR D' vl ep imm a b _ ⟨F4.keep, GB1, hos⟩ (fun q hq => ⟨(N4 q hq).2.2, (N4 q hq).1⟩) hlen (hfr.mono (by omega) fun _ h => h) hab fun c hc1 => hgt c (by omega)
end
end
end
section
theorem gD_pos (k : Nat) {i : Int} (h : 0 ≤ i) : 0 < gD (fnAt k) i := by
  have hp : ∀ (b : Int) (e : Nat), 0 < b → 0 < b ^ e := fun b e hb => Int.pow_pos hb
  unfold fnAt
  split <;> unfold gD <;> (try dsimp only) <;> (try split) <;> first | omega | exact hp _ _ (by decide)
noncomputable def val (p : Int × Int) : Rat := (p.1 : Rat) / (p.2 : Rat)
theorem cast_ne {d : Int} (h : 0 < d) : (d : Rat) ≠ 0 := by
  intro e
  have : d = 0 := by exact_mod_cast e
  omega
theorem addP_pos {p q : Int × Int} (hp : 0 < p.2) (hq : 0 < q.2) : 0 < (addP p q).2 := Int.mul_pos hp hq
theorem val_addP {p q : Int × Int} (hp : 0 < p.2) (hq : 0 < q.2) : val (addP p q) = val p + val q := by
  have h1 := cast_ne hp
  have h2 := cast_ne hq
  unfold val addP
  push_cast
  grind
theorem val_neg (p : Int × Int) : val (0 - p.1, p.2) = - val p := by
  unfold val
  push_cast
  grind
noncomputable def sumR (f : Fn) (w : Int) : Nat → Rat
  | 0 => 0
  | n + 1 => sumR f w n + val (gainP f w (n + 1))
theorem places_val (k : Nat) (w : Int) {p : Int × Int} (hp : 0 < p.2) : ∀ n, 0 < (placesP (fnAt k) w p n).2 ∧ val (placesP (fnAt k) w p n) = val p + sumR (fnAt k) w n
  | 0 => ⟨hp, by unfold placesP sumR; grind⟩
  | n + 1 => by
    obtain ⟨h1, h2⟩ := places_val k w hp n
    have hg : 0 < (gainP (fnAt k) w (n + 1)).2 := gD_pos k (by omega)
    refine ⟨addP_pos h1 hg, ?_⟩
    show val (addP _ _) = _
    rw [val_addP h1 hg, h2]
    show _ = val p + (sumR (fnAt k) w n + val (gainP (fnAt k) w (n + 1)))
    grind
noncomputable def totR (f : Fn) (bs : List (List Int)) (ws com : List Int) : Nat → Rat
  | 0 => 0
  | i + 1 => totR f bs ws com i + sumR f (ws.getD i 0) (cnt (bs.getD i []) com)
theorem score_val (k : Nat) (bs : List (List Int)) (ws com : List Int) : ∀ i, 0 < (scoreP (fnAt k) bs ws com i).2 ∧ val (scoreP (fnAt k) bs ws com i) = totR (fnAt k) bs ws com i
  | 0 => ⟨by show (0 : Int) < 1; decide, by unfold scoreP totR val; push_cast; grind⟩
  | i + 1 => by
    obtain ⟨h1, h2⟩ := score_val k bs ws com i
    obtain ⟨h3, h4⟩ := places_val k (ws.getD i 0) h1 (cnt (bs.getD i []) com)
    exact ⟨h3, by show val (placesP _ _ _ _) = totR _ _ _ _ i + _; rw [h4, h2]⟩
theorem cnt_snoc (b com : List Int) (c : Int) : cnt b (com ++ [c]) = cnt b com + (if b.contains c then 1 else 0) := by
  unfold cnt
  rw [List.filter_append, List.length_append]
  cases h : b.contains c <;> simp_all
theorem contains_ints {m c : Nat} (hc : c < 5) : (intsOf m).contains (c : Int) = m.testBit c := by
  rw [Bool.eq_iff_iff, List.contains_iff_mem]
  unfold intsOf
  rw [List.mem_map]
  constructor
  · rintro hJ90
    (refine xa_1_2 (hJ90) ?_; intro a ha e; (try clear hJ90))
    have : a = c := by omega
    exact this ▸ (mem_zs.mp ha).2
  · intro h
    exact ⟨c, mem_zs.mpr ⟨hc, h⟩, rfl⟩
theorem getD_map (ms : List Nat) {i : Nat} (h : i < ms.length) : (ms.map intsOf).getD i [] = intsOf (ms.getD i 0) := by
  simp [List.getD_eq_getElem?_getD, h]
theorem marg_pos (k : Nat) (ms : List Nat) (ws : List Int) (km sh c : Nat) : ∀ i, 0 < (margP (fnAt k) ms ws km sh i c).2
  | 0 => by show (0 : Int) < 1; decide
  | i + 1 => by
    have h := marg_pos k ms ws km sh c i
    show 0 < (if _ then _ else _ : Int × Int).2
    split
    · exact addP_pos h (gD_pos k (by omega))
    · exact h
/-- what a candidate outside adds -/
theorem marg_add (k : Nat) {ms : List Nat} {ws : List Int} {km c : Nat} (hc : c < 5) (hk : km < 32) (hm : ∀ m ∈ ms, m < 32) : ∀ i, i ≤ ms.length →
    val (margP (fnAt k) ms ws km 1 i c) = totR (fnAt k) (ms.map intsOf) ws (intsOf km ++ [(c : Int)]) i - totR (fnAt k) (ms.map intsOf) ws (intsOf km) i
  | 0, _ => by unfold margP totR val; push_cast; grind
  | i + 1, hi => by
    have ih := marg_add (ws := ws) k hc hk hm i (by omega)
    have hmi : ms.getD i 0 < 32 := by
      have : ms.getD i 0 = ms[i] := by simp [List.getD_eq_getElem?_getD, show i < ms.length by omega]
      rw [this]; exact hm _ (List.getElem_mem _)
    have e1 : cnt ((ms.map intsOf).getD i []) (intsOf km) = (zsOf (ms.getD i 0 &&& km)).length := by
      rw [getD_map ms (by omega), Nat.and_comm, cnt_inter hmi hk]
    have e2 : cnt ((ms.map intsOf).getD i []) (intsOf km ++ [(c : Int)]) = (zsOf (ms.getD i 0 &&& km)).length + (if (ms.getD i 0).testBit c then 1 else 0) := by
      rw [cnt_snoc, e1, getD_map ms (by omega), contains_ints hc]
    show val (if (ms.getD i 0).testBit c then _ else _) = (totR _ _ _ _ i + sumR _ _ _) - (totR _ _ _ _ i + sumR _ _ _)
    rw [e1, e2]
    have hp := marg_pos k ms ws km 1 c i
    cases hb : (ms.getD i 0).testBit c with
    | true =>
      simp only [if_true]
      rw [val_addP hp (gD_pos k (by omega)), ih]
      show _ = _ + (sumR _ _ _ + val (gainP (fnAt k) (ws.getD i 0) (((zsOf (ms.getD i 0 &&& km)).length : Nat) + 1))) - _
      grind
    | false =>
      simp only [Bool.false_eq_true, if_false, Nat.add_zero]
      rw [ih]
      grind
theorem cnt_less (m km c : Nat) (hm : m < 32) (hk : km < 32) (hc : c ∈ zsOf km) : cnt (intsOf m) ((intsOf km).filter fun d => d != (c : Int)) + (if m.testBit c then 1 else 0) = cnt (intsOf m) (intsOf km) := by
  have a : ∀ m : Fin 32, ∀ k : Fin 32, ∀ c : Fin 5, c.val ∈ zsOf k.val → cnt (intsOf m.val) ((intsOf k.val).filter fun d => d != ((c.val : Nat) : Int)) + (if m.val.testBit c.val then 1 else 0) = cnt (intsOf m.val) (intsOf k.val) := by decide +kernel
  exact a ⟨m, hm⟩ ⟨km, hk⟩ ⟨c, (mem_zs.mp hc).1⟩ hc
/-- what a candidate inside is worth -/
theorem marg_rem (k : Nat) {ms : List Nat} {ws : List Int} {km c : Nat} (hc : c ∈ zsOf km) (hk : km < 32) (hm : ∀ m ∈ ms, m < 32) : ∀ i, i ≤ ms.length →
    val (margP (fnAt k) ms ws km 0 i c) = totR (fnAt k) (ms.map intsOf) ws (intsOf km) i - totR (fnAt k) (ms.map intsOf) ws ((intsOf km).filter fun d => d != (c : Int)) i
  | 0, _ => by unfold margP totR val; push_cast; grind
  | i + 1, hi => by
    have ih := marg_rem (ws := ws) k hc hk hm i (by omega)
    have hmi : ms.getD i 0 < 32 := by
      have : ms.getD i 0 = ms[i] := by simp [List.getD_eq_getElem?_getD, show i < ms.length by omega]
      rw [this]; exact hm _ (List.getElem_mem _)
    have e1 : cnt ((ms.map intsOf).getD i []) (intsOf km) = (zsOf (ms.getD i 0 &&& km)).length := by
      rw [getD_map ms (by omega), Nat.and_comm, cnt_inter hmi hk]
    have e2 := cnt_less (ms.getD i 0) km c hmi hk hc
    rw [← getD_map ms (by omega), e1] at e2
    show val (if (ms.getD i 0).testBit c then _ else _) = (totR _ _ _ _ i + sumR _ _ _) - (totR _ _ _ _ i + sumR _ _ _)
    rw [e1]
    have hp := marg_pos k ms ws km 0 c i
    cases hb : (ms.getD i 0).testBit c with
    | true =>
      rw [hb] at e2
      simp only [if_true] at e2 ⊢
      rw [val_addP hp (gD_pos k (by omega)), ih, ← e2, Nat.add_zero]
      show _ = _ + (sumR _ _ _ + val (gainP (fnAt k) (ws.getD i 0) ((cnt _ _ : Nat) + 1))) - _
      push_cast
      grind
    | false =>
      rw [hb] at e2
      simp only [Bool.false_eq_true, if_false, Nat.add_zero] at e2 ⊢
      rw [ih, ← e2]
      grind
theorem cross {a b : Int} {p q : Int × Int} (hp : 0 < p.2) (hq : 0 < q.2) (h : a * p.2 = p.1 * b) (e : val p = val q) : a * q.2 = q.1 * b := by
  have h1 := cast_ne hp
  have h2 := cast_ne hq
  have e2 : p.1 * q.2 = q.1 * p.2 := by
    have : ((p.1 * q.2 : Int) : Rat) = ((q.1 * p.2 : Int) : Rat) := by
      unfold val at e
      push_cast
      grind
    exact_mod_cast this
  refine Int.eq_of_mul_eq_mul_right (Int.ne_of_gt hp) ?_
  have k1 : a * q.2 * p.2 = a * p.2 * q.2 := by grind
  have k2 : q.1 * b * p.2 = q.1 * p.2 * b := by grind
  rw [k1, k2, h, ← e2]
  grind
theorem law_add_ok (k : Nat) {ms : List Nat} {ws : List Int} {km c : Nat} (hc : c < 5) (hk : km < 32) (hm : ∀ m ∈ ms, m < 32) {a b : Int} (h : a * (margP (fnAt k) ms ws km 1 ms.length c).2 = (margP (fnAt k) ms ws km 1 ms.length c).1 * b) :
    a * (addP (scoreP (fnAt k) (ms.map intsOf) ws (intsOf km ++ [(c : Int)]) ms.length) (0 - (scoreP (fnAt k) (ms.map intsOf) ws (intsOf km) ms.length).1, (scoreP (fnAt k) (ms.map intsOf) ws (intsOf km) ms.length).2)).2 =
      (addP (scoreP (fnAt k) (ms.map intsOf) ws (intsOf km ++ [(c : Int)]) ms.length) (0 - (scoreP (fnAt k) (ms.map intsOf) ws (intsOf km) ms.length).1, (scoreP (fnAt k) (ms.map intsOf) ws (intsOf km) ms.length).2)).1 * b := by
  obtain ⟨g1, g2⟩ := score_val k (ms.map intsOf) ws (intsOf km ++ [(c : Int)]) ms.length
  obtain ⟨s1, s2⟩ := score_val k (ms.map intsOf) ws (intsOf km) ms.length
  refine cross (marg_pos k ms ws km 1 c _) (addP_pos g1 s1) h ?_
  refine (marg_add k hc hk hm _ (Nat.le_refl _)).trans (Eq.trans ?_ (val_addP (q := (0 - _, _)) g1 s1).symm)
  rw [val_neg, g2, s2]
  grind
theorem law_rem_ok (k : Nat) {ms : List Nat} {ws : List Int} {km c : Nat} (hc : c ∈ zsOf km) (hk : km < 32) (hm : ∀ m ∈ ms, m < 32) {a b : Int} (h : a * (margP (fnAt k) ms ws km 0 ms.length c).2 = (margP (fnAt k) ms ws km 0 ms.length c).1 * b) :
    a * (addP (scoreP (fnAt k) (ms.map intsOf) ws (intsOf km) ms.length) (0 - (scoreP (fnAt k) (ms.map intsOf) ws ((intsOf km).filter fun d => d != (c : Int)) ms.length).1, (scoreP (fnAt k) (ms.map intsOf) ws ((intsOf km).filter fun d => d != (c : Int)) ms.length).2)).2 =
      (addP (scoreP (fnAt k) (ms.map intsOf) ws (intsOf km) ms.length) (0 - (scoreP (fnAt k) (ms.map intsOf) ws ((intsOf km).filter fun d => d != (c : Int)) ms.length).1, (scoreP (fnAt k) (ms.map intsOf) ws ((intsOf km).filter fun d => d != (c : Int)) ms.length).2)).1 * b := by
  obtain ⟨g1, g2⟩ := score_val k (ms.map intsOf) ws ((intsOf km).filter fun d => d != (c : Int)) ms.length
  obtain ⟨s1, s2⟩ := score_val k (ms.map intsOf) ws (intsOf km) ms.length
  refine cross (marg_pos k ms ws km 0 c _) (addP_pos s1 g1) h ?_
  refine (marg_rem k hc hk hm _ (Nat.le_refl _)).trans (Eq.trans ?_ (val_addP (q := (0 - _, _)) s1 g1).symm)
  rw [val_neg, g2, s2]
  grind

noncomputable def maskZ (v : Int) (nc : Nat) : Nat := v.toNat % 2 ^ nc
theorem maskZ_lt {v : Int} {nc : Nat} (h : nc ≤ 5) : maskZ v nc < 32 :=
  Nat.lt_of_lt_of_le (Nat.mod_lt _ (Nat.two_pow_pos nc)) (show 2 ^ nc ≤ 2 ^ 5 from Nat.pow_le_pow_right (by decide) h)
theorem maskZ_mem {v : Int} {nc z : Nat} (h : z ∈ zsOf (maskZ v nc)) : z < nc := by
  have h2 := (mem_zs.mp h).2
  unfold maskZ at h2
  rw [Nat.testBit_mod_two_pow] at h2
  simp only [Bool.and_eq_true, decide_eq_true_eq] at h2
  exact h2.1
theorem bit_at {v : Int} (hv : 0 ≤ v) (c : Nat) : (v / 2 ^ c % 2 == 1) = v.toNat.testBit c := by
  obtain ⟨n, rfl⟩ := Int.eq_ofNat_of_zero_le hv
  rw [Int.toNat_natCast, Nat.testBit_eq_decide_div_mod_eq, Bool.eq_iff_iff, beq_iff_eq, decide_eq_true_eq]
  have e : ((n : Int) / 2 ^ c % 2) = ((n / 2 ^ c % 2 : Nat) : Int) := by push_cast; rfl
  rw [e]
  omega
theorem filter_mask {v : Int} (hv : 0 ≤ v) {nc : Nat} (h : nc ≤ 5) : (((List.range nc).map Int.ofNat).filter fun c => v / 2 ^ c.toNat % 2 == 1) = intsOf (maskZ v nc) := by
  have e : (fun c : Int => v / 2 ^ c.toNat % 2 == 1) ∘ Int.ofNat = fun c : Nat => v.toNat.testBit c := by
    funext c
    show (v / 2 ^ (Int.ofNat c).toNat % 2 == 1) = _
    exact bit_at hv c
  rw [List.filter_map, e]
  unfold intsOf zsOf
  have e2 : (List.range 5).filter (fun z => (maskZ v nc).testBit z) = (List.range nc).filter fun c => v.toNat.testBit c := by
    have e3 : (fun z => (maskZ v nc).testBit z) = fun z => v.toNat.testBit z && decide (z < nc) := by
      funext z
      exact (Nat.testBit_mod_two_pow ..).trans (Bool.and_comm ..)
    rw [e3, ← List.filter_filter]
    congr 1
    rcases (by omega : nc = 0 ∨ nc = 1 ∨ nc = 2 ∨ nc = 3 ∨ nc = 4 ∨ nc = 5) with rfl | rfl | rfl | rfl | rfl | rfl <;> decide
  rw [e2]
  rfl
end
section
theorem weights_are (ns : List Int) (nv : Nat) : ∃ ws : List Int, ws = List.map (fun k' => 1 + (cellZ ns (3 + 2 * k')).fmod 1000) (rangeKs 0 ((nv : Int) - 0).toNat) ∧ ws.length = nv ∧ ∀ x ∈ ws, 1 ≤ x ∧ x ≤ 1000 := by
  refine ⟨_, rfl, by rw [List.length_map, rangeKs_length]; omega, fun x hx => ?_⟩
  refine Classical.byContradiction fun hg9 => ?_
  (refine xa_1_2 (List.mem_map.mp hx) ?_; intro k _ r92)
  subst r92
  refine hg9 ?_
  clear hg9

  rw [Int.fmod_eq_emod_of_nonneg _ (by decide)]
  omega
theorem masks_are (ns : List Int) {nv nc : Nat} (h5 : nc ≤ 5) : ∃ ms : List Nat, (List.range nv).map (ballotZ ns nc) = ms.map intsOf ∧ ms.length = nv ∧ ∀ m ∈ ms, m < 32 ∧ ∀ z ∈ zsOf m, z < nc := by
  refine ⟨(List.range nv).map fun (i : Nat) => maskZ (cellZ ns (2 + 2 * (i : Int))) nc, ?_, by simp, fun m hm => ?_⟩
  · rw [List.map_map]
    refine List.map_congr_left fun i _ => ?_
    exact filter_mask (cellZ_nonneg ns (by omega)) h5
  · refine Classical.byContradiction fun hg9 => ?_
    (refine xa_1_2 (List.mem_map.mp hm) ?_; intro i _ r92)
    subst r92
    refine hg9 ?_
    clear hg9
    exact ⟨maskZ_lt h5, fun z hz => maskZ_mem hz⟩
end
section
/-- what holds wherever these objects stand -/
noncomputable def Said (IM : List (Addr × Obj)) (P : Heap → Prop) : Prop := ∀ h : Heap, (∀ p ∈ IM, h.get? p.1 = some p.2) → P h
theorem Said.at {IM news : List (Addr × Obj)} {P : Heap → Prop} {h₀ h : Heap} {L : Addr} (S : Said IM P) (N : News h₀ L h news) (hs : ∀ p ∈ IM, p ∈ news) : P h := S h fun p hp => (N p (hs p hp)).1
theorem Said.mono {IM IM' : List (Addr × Obj)} {P : Heap → Prop} (S : Said IM P) (hs : ∀ p ∈ IM, p ∈ IM') : Said IM' P := fun h M => S h fun p hp => M p (hs p hp)
theorem is_k {prog : Program} {w : World} {A : Around} {s : Shared} {h₀ : Heap} {L : Addr} {m mg mb : Str → Option Value} {news : List (Addr × Obj)} {p : Program} {loose : List Str} {mean : ExcName → Option Value} {Q : Value → Shared → Prop} {E : Value → Shared → Prop} (F : Fr h₀ L s.heap m) (N : News h₀ L s.heap news) (X : (hd.heap_1 w.params).In h₀) (T : Top p loose mean mg mb h₀) (hA : Room A 6) {u v : Value} {n d a b : Int} (hu : IsFrac s.heap u n d) (hd0 : 0 < d) (hv : IsPair s.heap v a b) {j k : Nat} (zn : Sz k n) (zd : Sz k d) (za : Sz j a) (zb : Sz j b) (hk : k + j ≤ 7000) (e : n * b = a * d)
    (h : ∀ h' tk, Fr h₀ L h' m → News h₀ L h' news → Q (.bool true) { s with heap := h', toks := tk }) :
    wpAny (model prog w) A (call (.ref 530) [u, v]) Q E s := by
  refine call_of (is_code ⟨X.keeps F.keep, p, loose, mean, mg, mb, T.keeps F.keep⟩ hA hu hd0 hv zn zd za zb hk e fun s' D => ?_)
  have e := D.is
  dsimp only
  rw [e]
  exact h _ _ (F.after D.keep) (newsAfter N D.keep)
theorem cum_k {prog : Program} {w : World} {A : Around} {s : Shared} {h₀ : Heap} {L : Addr} {m mg mb : Str → Option Value} {news : List (Addr × Obj)} {p : Program} {loose : List Str} {mean : ExcName → Option Value} {Q : Value → Shared → Prop} {E : Value → Shared → Prop} (F : Fr h₀ L s.heap m) (N : News h₀ L s.heap news) (X : (hd.heap_1 w.params).In h₀) (T : Top p loose mean mg mb h₀) (hA : Room A 12) {g : Addr} {f : Fn} (hf : IsFn s.heap (.ref g) f) {n : Nat} {tn : Tok} (hn : n ≤ 6)
    (h : ∀ x dx hs1 hs2 a b t1 t2 t3 t4 h' tk, Fr h₀ L h' m → News h₀ L h' ((x, instObj 182 dx) :: (dx, fracD hs1 hs2 a b t1 t2 t3 t4) :: news) → 0 < b → a * (cumP f n).2 = (cumP f n).1 * b → Sz 300 a → Sz 300 b → Q (.ref x) { s with heap := h', toks := tk }) :
    wpAny (model prog w) A (call (.ref 308) [.ref g, .int (n : Int) tn]) Q E s := by
  refine call_of (cum_code ⟨X.keeps F.keep, p, loose, mean, mg, mb, T.keeps F.keep⟩ hA hf hn fun v s' a b D NF hb hab za zb => ?_)
  refine Classical.byContradiction fun hg9 => ?_
  (refine xa_8_5 (NF) ?_; intro x dx hs1 hs2 t1 t2 t3 t4 r98 l1 l2 g1 g2; (try clear NF))
  subst r98
  refine hg9 ?_
  clear hg9
  have e := D.is
  dsimp only
  rw [e]
  have F' := F.after D.keep
  exact h x dx hs1 hs2 a b t1 t2 t3 t4 _ _ F' (newsFresh1 F (newsFresh1 F (newsAfter N D.keep) l1 g2) (Nat.le_trans l1 (Nat.le_of_lt l2)) g1) hb hab za zb
end
section
structure MA (m : Str → Option Value) (vc vb vw vk vp vn : Value) : Prop where
  count : m (Str.ofString "count") = some vc
  ballots : m (Str.ofString "ballots") = some vb
  weights : m (Str.ofString "weights") = some vw
  committee : m (Str.ofString "committee") = some vk
  profile : m (Str.ofString "profile") = some vp
  names : m (Str.ofString "names") = some vn
structure MB (m : Str → Option Value) (v1 v2 v3 : Value) : Prop where
  name : m (Str.ofString "name") = some v1
  score : m (Str.ofString "score") = some v2
  gains : m (Str.ofString "gains") = some v3
theorem cumP_sz {k : Nat} (hk : k < 11) : ∀ {i : Nat}, i ≤ 7 → Sz (41 * i + 1) (cumP (fnAt k) i).1 ∧ Sz (41 * i + 1) (cumP (fnAt k) i).2
  | 0, _ => ⟨by unfold Sz; simp [cumP], by unfold Sz; simp [cumP]⟩
  | i + 1, h => by
    obtain ⟨a, b⟩ := cumP_sz hk (i := i) (by omega)
    have g1 : Sz 1 (gN (fnAt k) ((i : Int) + 1)) := gN_sz _ _
    have g2 : Sz 40 (gD (fnAt k) ((i : Int) + 1)) := gD_sz hk (by omega) (by omega)
    exact ⟨Sz.mono ((a.mul g2).add (g1.mul b)) (by omega), Sz.mono (b.mul g2) (by omega)⟩
/-- the first if of a body: its two suites -/
noncomputable def firstIf : List Stmt → Option (List Stmt × List Stmt)
  | [] => none
  | .If _ b o _ :: _ => some (b, o)
  | _ :: r => firstIf r
structure MC (m : Str → Option Value) (v1 v2 v3 : Value) : Prop where
  more : m (Str.ofString "more") = some v1
  less : m (Str.ofString "less") = some v2
  back : m (Str.ofString "back") = some v3
end
section
local macro_rules | `(tactic| k_all) => `(tactic| first | exact List.forall_mem_nil _ | with_reducible assumption | (refine' List.forall_mem_cons.mpr ⟨?a, ?b⟩; (case a => k_ne); (case b => k_all)))
theorem words41 : True := by
  k_with_none
  (k_with "ite" => (first | (refine ite_pos (by ((try simp only [beq_iff_eq, bne_iff_ne, decide_eq_true_eq, Bool.not_eq_true', decide_eq_false_iff_not, beq_eq_false_iff_ne, ne_eq]); omega)) ?_) | (refine ite_neg (by ((try simp only [beq_iff_eq, bne_iff_ne, decide_eq_true_eq, Bool.not_eq_true', decide_eq_false_iff_not, beq_eq_false_iff_ne, ne_eq]); omega)) ?_)))
  (k_with "binaryOp FloorDiv int int" => ((k_dflt (refine' floordiv_int ?h1_q ?_ (Or.inl (PyProof.noPylong_of_log2 ?h2_q)); (case h1_q => omega); (case h2_q => first | assumption | exact Sz.log (by assumption))))))
  (k_with "binaryOp Mult int int" => ((k_dflt (refine' mul_int ?_ ?hm_q; (case hm_q => exact Sz.ok (by with_reducible assumption) (by with_reducible assumption) (by omega))))))
  (k_with "call ref" => (((with_reducible show wpAny _ _ (call (Value.ref 182) [Value.int _ _, Value.int _ _]) _ _ _); k_dflt (refine' frac_k ?F_q ?N_q ?X_q ?T_q ?A_q ?b_q ?z_q ?k_q ?_; (case F_q => k_asm); (case N_q => k_asm); (case X_q => k_asm); (case T_q => k_asm); (case A_q => exact Room.le (by assumption) (by decide)); (case b_q => first | assumption | omega | (exact Int.mul_pos (by assumption) (by assumption))); (case z_q => first | assumption | exact Sz.mul (by assumption) (by assumption)); (case k_q => omega)); intro _ _ _ _ _ _ _ _ _ _ _ _ _ _ _ _ _ _ _ _ _)))
  (k_with "binaryOp Pow int int" => ((k_dflt (refine' pow_int_small ?h1_q ?h2_q ?h3_q ?_; (case h1_q => omega); (case h2_q => omega); (case h3_q => omega)))))
  (k_with "call ref" => (((with_reducible show wpAny _ _ (call (Value.ref 182) [Value.int _ _]) _ _ _); k_dflt (refine' frac1_k ?F_q ?N_q ?X_q ?T_q ?A_q ?_; (case F_q => k_asm); (case N_q => k_asm); (case X_q => k_asm); (case T_q => k_asm); (case A_q => exact Room.le (by assumption) (by decide))); intro _ _ _ _ _ _ _ _ _ _ _ _ _ _ _)))
  (k_with "eval Name" => ((k_dflt (first | (refine' nmL ?F_q ?e_q ?v_q ?_ ?a_q ?b_q ?d_q; (case F_q => with_reducible assumption); (case e_q => exact rfl); (case v_q => first | with_reducible assumption | ((try dsimp only); first | exact (if_neg (by decide)).trans (by with_reducible assumption) | exact (if_neg (by decide)).trans ((if_neg (by decide)).trans (by with_reducible assumption)) | exact (if_neg (by decide)).trans ((if_neg (by decide)).trans ((if_neg (by decide)).trans (by with_reducible assumption)))) | exact rfl); (case a_q => exact rfl); (case b_q => exact rfl); (case d_q => decide); k_whole) | (refine' nmC ?F_q ?c_q ?o_q ?d_q ?_ ?a_q ?b_q ?g_q; (case F_q => with_reducible assumption); (case a_q => exact rfl); (case b_q => exact rfl); (case c_q => exact rfl); (case o_q => with_reducible assumption); (case d_q => with_reducible assumption); (case g_q => decide); k_whole) | (refine' nameG_K ?F_q ?X_q ?T_q ?e_q ?_ ?g_q ?a_q ?b_q ?d_q; (case F_q => with_reducible assumption); (case X_q => k_asm); (case T_q => k_asm); (case a_q => exact rfl); (case b_q => exact rfl); (case e_q => k_is); (case g_q => exact rfl); (case d_q => decide); k_whole) | (refine' nmB ?F_q ?X_q ?T_q ?e_q ?v_q ?n_q ?_ ?g_q ?h_q ?a_q ?b_q ?d_q; (case F_q => with_reducible assumption); (case X_q => k_asm); (case T_q => k_asm); (case a_q => exact rfl); (case b_q => exact rfl); (case e_q => k_is); (case v_q => boot_fast); (case n_q => decide); (case g_q => exact rfl); (case h_q => exact rfl); (case d_q => decide); k_whole)))))
  (k_with "call ref" => (((with_reducible show wpAny _ _ (call (Value.ref 492) [Value.ref _, Value.int _ _]) _ _ _); k_dflt (refine' liftI ?F_q ?N_q ?X_q ?T_q (cellZ _ _) (fun R hR => cell_code ⟨Frag.In.keeps (by k_asm) (Fr.keep (by k_asm)), _, _, _, _, _, Top.keeps (by k_asm) (Fr.keep (by k_asm))⟩ (Room.le (by assumption) (by decide)) (stays_list (Fr.keep (by with_reducible assumption)) (by with_reducible assumption)) (by with_reducible assumption) (by with_reducible assumption) (by omega) (by omega) hR) ?_; (case F_q => k_asm); (case N_q => k_asm); (case X_q => k_asm); (case T_q => k_asm)); intro _ _ _ _ _ _)))
  (k_with "exec For" => ((with_unfolding_all refine for_at ?_)))
  (k_with "pyIter ref" => (first | (with_reducible refine hold_pyF ?_) | (with_reducible refine hold_pyC ?_)))
  (k_with "call builtin:len" => (((with_reducible show wpAny _ _ (call (Value.builtin "len") [Value.ref _]) _ _ _); k_dflt (refine' len_old ?F_q ?l_q ?f_q ?_; (case F_q => with_reducible assumption); (case l_q => with_reducible assumption); (case f_q => omega)))))
  (k_with "subscriptTail Name Name ref int" => (((with_reducible show wpAny _ _ (subscriptTail _ _ (Value.ref _) (Value.int _ _)) _ _ _); k_dflt (refine' item_at ?l_q ?a_q ?b_q ?x_q ?_ ?s_q; (case l_q => with_reducible assumption); (case x_q => with_reducible assumption); (case a_q => omega); (case b_q => omega); (case s_q => with_unfolding_all rfl)))))
  (k_with "compareOp In int ref" => ((k_dflt (refine' in_list_ints ?l_q ?i_q ?_; (case l_q => with_reducible assumption); (case i_q => with_reducible assumption)))))
  (k_with "call builtin:len" => (((with_reducible show wpAny _ _ (call (Value.builtin "len") [Value.ref _]) _ _ _); k_dflt (refine' len_cur ?l_q ?f_q ?_; (case l_q => with_reducible assumption); (case f_q => omega)))))
  (k_with "exec For Name Call cons nil" => ((with_unfolding_all refine for_at ?_)))
  (k_with "exec For Name Name cons nil" => ((with_unfolding_all refine for_at ?_)))
  (k_with "call ref" => (((with_reducible show wpAny _ _ (call (Value.ref 511) [Value.str (nameAt _) _, Value.int _ _]) _ _ _); k_dflt (refine' liftPair ?F_q ?N_q ?X_q ?T_q (gN (fnAt _) _) (gD (fnAt _) _) (fun R hR => gain_code ⟨Frag.In.keeps (by k_asm) (Fr.keep (by k_asm)), _, _, _, _, _, Top.keeps (by k_asm) (Fr.keep (by k_asm))⟩ (Room.le (by assumption) (by decide)) (by assumption) (by omega) (by omega) hR) ?_; (case F_q => k_asm); (case N_q => k_asm); (case X_q => k_asm); (case T_q => k_asm)); intro _ _ _ _ _ _ _ l9q; replace l9q := allNe_of l9q; simp only [AllNe, and_true] at l9q)))
  (k_with "call ref" => (((with_reducible show wpAny _ _ (call (Value.ref 518) [Value.ref _, Value.ref _]) _ _ _); k_dflt (refine' liftPair ?F_q ?N_q ?X_q ?T_q _ _ (fun R hR => add_code ⟨Frag.In.keeps (by k_asm) (Fr.keep (by k_asm)), _, _, _, _, _, Top.keeps (by k_asm) (Fr.keep (by k_asm))⟩ (Room.le (by assumption) (by decide)) (pairOfNews (by k_asm) (by k_mem)) (pairOfNews (by k_asm) (by k_mem)) (by with_reducible assumption) (by with_reducible assumption) (by with_reducible assumption) (by with_reducible assumption) (by omega) hR) ?_; (case F_q => k_asm); (case N_q => k_asm); (case X_q => k_asm); (case T_q => k_asm)); intro _ _ _ _ _ _ _ l9q; replace l9q := allNe_of l9q; simp only [AllNe, and_true] at l9q)))
  (k_with "getAttr ref true" => (((with_reducible show wpAny _ _ (getAttr (Value.ref _) (PySem.Str.ofString "num_cand") _) _ _ _); k_dflt (refine' get_prop ?k1_q ?k2_q ?k3_q ?k4_q ?k5_q ?k6_q ?k7_q ?k8_q ?k9_q ?_; (case k1_q => k_asm); (case k2_q => k_asm); (case k3_q => k_inst); (case k4_q => k_is); (case k5_q => k_is); (case k6_q => k_is); (case k7_q => k_is); (case k8_q => k_is); (case k9_q => k_is); k_whole); k_dflt (refine' numcand_k ?F_q ?N_q ?X_q ?T_q ?A_q (ProfAt.keep ?P_q ?K_q) ?h_q ?_; (case F_q => k_asm); (case N_q => k_asm); (case X_q => k_asm); (case T_q => k_asm); (case A_q => exact Room.le (by assumption) (by decide)); (case P_q => with_reducible assumption); (case K_q => exact Fr.keep (by k_asm)); (case h_q => with_reducible assumption)); intro _ _ _ _ _)))
  (k_with "call ref" => (((with_reducible show wpAny _ _ (call (Value.ref 481) [Value.ref _] _) _ _ _); (k_dflt (show wpAny _ _ (call (Value.ref 481) [Value.ref _] [(Str.ofString "weight", Value.int _ _)]) _ _ _)); k_dflt (refine' voter_k ?F_q ?N_q ?X_q ?T_q ?C_q ?U_q ?t_q ?B_q (fun G9 R hR => voter_list_code G9 (Room.le (by assumption) (by decide)) ?l_q ?i_q ?n_q ?w_q hR) ?_; (case F_q => k_asm); (case N_q => k_asm); (case X_q => k_asm); (case T_q => k_asm); (case C_q => k_asm); (case U_q => k_updF); (case t_q => with_reducible assumption); (case B_q => with_reducible assumption); (case l_q => exact stays_list (Fr.keep (by k_asm)) (by with_reducible assumption)); (case i_q => with_reducible assumption); (case n_q => omega); (case w_q => with_reducible assumption)); intro _ _ _ _ _ _ _ _ _ _ _ _ N9q lx9q ly9q lz9q _ _ _ _ _ _ _; (try dsimp only at N9q lx9q ly9q lz9q); replace lx9q := allNe_of lx9q; replace ly9q := allNe_of ly9q; replace lz9q := allNe_of lz9q; simp only [AllNe, and_true] at lx9q ly9q lz9q)))
  (k_with "call ref" => (((with_reducible show wpAny _ _ (call (Value.ref 481) [Value.ref _] _) _ _ _); (k_dflt (show wpAny _ _ (call (Value.ref 481) [Value.ref _] [(Str.ofString "weight", Value.int _ _), (Str.ofString "num_cand", Value.int _ _)]) _ _ _)); k_dflt (refine' voter_k ?F_q ?N_q ?X_q ?T_q ?C_q ?U_q ?t_q ?B_q (fun G9 R hR => voter_set_code G9 (Room.le (by assumption) (by decide)) ?l_q ?i_q ?n_q ?w_q hR) ?_; (case F_q => k_asm); (case N_q => k_asm); (case X_q => k_asm); (case T_q => k_asm); (case C_q => k_asm); (case U_q => k_updF); (case t_q => with_reducible assumption); (case B_q => with_reducible assumption); (case l_q => exact Fr.keep (by k_asm) _ _ (by with_reducible assumption)); (case i_q => with_reducible assumption); (case n_q => with_reducible assumption); (case w_q => with_reducible assumption)); intro _ _ _ _ _ _ _ _ _ _ _ _ N9q lx9q ly9q lz9q _ _ _ _ _ _ _; (try dsimp only at N9q lx9q ly9q lz9q); replace lx9q := allNe_of lx9q; replace ly9q := allNe_of ly9q; replace lz9q := allNe_of lz9q; simp only [AllNe, and_true] at lx9q ly9q lz9q)))
  (k_with "call ref" => (((with_reducible show wpAny _ _ (call (Value.ref 245) [Value.str (nameAt _) _, Value.int _ _]) _ _ _); k_dflt (refine' liftFn ?F_q ?N_q ?X_q ?T_q (fnAt _) (fun R hR => gms2 ⟨Frag.In.keeps (by k_asm) (Fr.keep (by k_asm)), _, _, _, _, _, Top.keeps (by k_asm) (Fr.keep (by k_asm))⟩ (Room.le (by assumption) (by decide)) (by assumption) hR) ?_; (case F_q => k_asm); (case N_q => k_asm); (case X_q => k_asm); (case T_q => k_asm)); intro _ _ _ _ _ _ _ _ _ _ _ _ _ _ _ _)))
  (k_with "binaryOp BitAnd" => (((with_reducible show wpAny _ _ (binaryOp _ (Value.ref _) (Value.ref _)) _ _ _); k_dflt (refine' and_k ?F_q ?N_q (News.get ?N2_q ?m_q) (Fr.keep ?F2_q _ _ ?o_q) (new_old ?N3_q ?m3_q ?o3_q) ?s_q ?t_q ?_; (case F_q => k_asm); (case N_q => k_asm); (case N2_q => k_asm); (case N3_q => k_asm); (case F2_q => k_asm); (case m_q => k_mem); (case m3_q => k_mem); (case o_q => with_reducible assumption); (case o3_q => with_reducible assumption); (case s_q => with_reducible assumption); (case t_q => with_reducible assumption)); intro _ _ _ _ _ _ l9q _; replace l9q := allNe_of l9q; simp only [AllNe, and_true] at l9q)))
  (k_with "call ref" => (((with_reducible show wpAny _ _ (call (Value.ref 371) [Value.ref _, Value.ref _]) _ _ _); refine hold ?_)))
  (k_with "call ref" => (((with_reducible show wpAny _ _ (call (Value.ref 444) [Value.int _ _]) _ _ _); refine hold ?_)))
  (k_with "call ref" => (((with_reducible show wpAny _ _ (call (Value.ref 308) [Value.ref _, Value.int _ _]) _ _ _); refine hold ?_)))
  (k_with "call ref" => (((with_reducible show wpAny _ _ (call (Value.ref 530) [Value.ref _, Value.ref _]) _ _ _); refine hold ?_)))
  trivial
section
theorem law_place {prog : Program} {w : World} {dp un : Nat} {fr : Option (List Env)} {gd : Option (List Code)} {s₀ u : Shared} {h₀ : Heap} {L I : Addr} {oI : Obj} {m mg mb : Str → Option Value} {p : Program} {loose : List Str} {mean : ExcName → Option Value}
    {sc : Scope} {cdv : Value} {sts b b' : List Stmt} {t t' : PySem.Expr} (h : defParts (hd.heap_1 w.params) 542 = some (sc, cdv, sts)) (h2 : nthFor 0 sts = some (t, b)) (h3 : nthFor 0 b = some (t', b'))
    (X : (hd.heap_1 w.params).In h₀) (T : Top p loose mean mg mb h₀) (hA' : Room (mkA dp un fr gd) 29) {k i : Nat} (hk : k < 11) (hi : i < 6) {IM : List (Addr × Obj)} {gf y : Addr} {tn ti t1 t2 : Tok} {vc vb vw vk vp vn v2 : Value}
    (hg : Said IM fun h => IsFn h (.ref gf) (fnAt k)) (M1 : MA m vc vb vw vk vp vn) (M2 : MB m (.str (nameAt k) tn) v2 (.ref gf)) (e0 : m (Str.ofString "summed") = some (.ref y)) (ho : u.os = s₀.os) (hb : AllBare u.gens)
    (F : Fr h₀ L u.heap m) (N : News h₀ L u.heap ((I, oI) :: (y, { cls := .type "tuple", data := .seq #[.int (cumP (fnAt k) i).1 t1, .int (cumP (fnAt k) i).2 t2] }) :: IM)) (hn : ∀ p ∈ (y, ({ cls := .type "tuple", data := .seq #[.int (cumP (fnAt k) i).1 t1, .int (cumP (fnAt k) i).2 t2] } : Obj)) :: IM, p.1 ≠ I) :
    wpAny (model prog w) (mkA dp un fr gd) (assign t' (envOfC (Str.ofString "law") sc L 542 cdv) (.int ((0 : Int) + i) ti)) (fun _ s₂ => wpAny (model prog w) (mkA dp un fr gd) (execs b' (envOfC (Str.ofString "law") sc L 542 cdv))
      (FEndP h₀ L I oI [] (fun m₁ news₁ => E3 fun y t1 t2 => A4 (news₁ = (y, { cls := .type "tuple", data := .seq #[.int (cumP (fnAt k) (i + 1)).1 t1, .int (cumP (fnAt k) (i + 1)).2 t2] }) :: IM) (MA m₁ vc vb vw vk vp vn) (MB m₁ (.str (nameAt k) tn) v2 (.ref gf)) (m₁ (Str.ofString "summed") = some (.ref y))) s₀) (fun _ _ => False) s₂) (fun _ _ => False) u := by
  have e1 := h.symm.trans (rfl : defParts (hd.heap_1 w.params) 542 = some (_, _, _))
  cases e1
  have e2 := h2.symm.trans (rfl : nthFor 0 _ = some (_, _))
  cases e2
  have e3 := h3.symm.trans (rfl : nthFor 0 _ = some (_, _))
  cases e3
  clear h h2 h3
  obtain ⟨a1, a2, a3, a4, a5, a6⟩ := M1
  obtain ⟨b1, b2, b3⟩ := M2
  simp only [Int.zero_add]
  obtain ⟨zc1, zc2⟩ := cumP_sz hk (show i ≤ 7 by omega)
  have zg1 : Sz 40 (gN (fnAt k) ((i : Int) + 1)) := (gN_sz _ _).mono (by decide)
  have zg2 : Sz 40 (gD (fnAt k) ((i : Int) + 1)) := gD_sz hk (by omega) (by omega)
  w_on
  w_strict (k_steps)
  unfold Hold
  rename Fr _ _ _ _ => F1
  rename News _ _ _ _ => N1
  refine cum_k F1 N1 X T (hA'.le (by decide)) (hg.at N1 (by intro p9 h9; simp [h9])) (by omega) ?_
  intro fx fdx hs1 hs2 a b' u1 u2 u3 u4 h4 tk4 F2 N2 hb0 hab za zb
  clear F1 N1
  w_strict (k_steps)
  unfold Hold
  rename Fr _ _ _ _ => F1
  rename News _ _ _ _ => N1
  refine is_k F1 N1 X T (hA'.le (by decide)) (n := a) (d := b') ⟨fx, fdx, hs1, hs2, u1, u2, u3, u4, rfl, (N1 _ (.head _)).1, (N1 _ (.tail _ (.head _))).1⟩ hb0 (pairOfNews N1 (by k_mem)) za zb zc1 zc2 (by omega) hab ?_
  intro h5 tk5 F3 N3
  clear F1 N1
  w_strict (k_steps)
  rename Fr _ _ _ _ => F6
  rename News _ _ _ _ => N6
  rename _ ∧ _ ∧ _ ∧ _ ∧ _ ∧ _ => l6
  refine Classical.byContradiction fun hg9 => ?_
  (refine xa_3_2 (headPair N6) ?_; intro y6 u61 u62 N7 r94)
  subst r94
  refine hg9 ?_
  clear hg9
  clear N6
  refine ⟨rfl, ho, hb, _, (y6, { cls := .type "tuple", data := .seq #[.int (cumP (fnAt k) (i + 1)).1 u61, .int (cumP (fnAt k) (i + 1)).2 u62] }) :: IM, F6, newsSub N7 ?sub, ?ne, y6, u61, u62, rfl, ⟨a1, a2, a3, a4, a5, a6⟩, ⟨b1, b2, b3⟩, rfl⟩
  case sub => ((first | (((try dsimp only [List.cons_append, List.nil_append]); repeat' (first | exact List.forall_mem_nil _ | (refine fmc (by (first | k_mem | ((repeat (first | (with_reducible exact List.Mem.head _) | exact List.mem_append_left _ (by with_reducible assumption) | exact List.mem_append_left _ (List.Mem.head _) | (with_reducible assumption) | (refine List.Mem.tail _ ?_) | (refine List.mem_append_right _ ?_))); done))) ?_) | (refine fma ?_ ?_) | (intro p9 h9; ((repeat (first | exact h9 | exact List.mem_append_left _ h9 | exact List.mem_append_left _ (List.mem_append_left _ h9) | (refine List.Mem.tail _ ?_) | (refine List.mem_append_right _ ?_))); done)))); done) | (intro p9 h9; simp only [List.mem_append, List.mem_cons, List.not_mem_nil, or_false, List.cons_append, List.nil_append, cumP, addP] at h9 ⊢; grind)))
  case ne =>
    refine fmc (Ne.symm l6.2.2.2.1) ?_
    intro q hq
    · exact hn q (.tail _ hq)
end
end
section
theorem listN {h₀ h : Heap} {L D : Addr} {news : List (Addr × Obj)} {vs : List Value} {ep : Nat} (N : News h₀ L h news) (hm : (D, W.listOf (List.toArray vs) ep) ∈ news) : h.IsList D vs.toArray := ⟨_, (N _ hm).1, rfl, _, rfl⟩
theorem listG {h₀ h : Heap} {L D : Addr} {news : List (Addr × Obj)} {vs : List Value} (N : News h₀ L h news) (hm : (D, LCg.lst vs) ∈ news) : h.IsList D vs.toArray := ⟨_, (N _ hm).1, rfl, _, rfl⟩
section
variable {prog : Program} {w : World} {A : Around} {E : Value → Shared → Prop} {s : Shared} {h₀ : Heap} {L D : Addr} {news : List (Addr × Obj)} {vs : List Value} {ep : Nat} {k : Nat} {km : Nat} {t : Tok} {Q : Value → Shared → Prop}
theorem inL_t (N : News h₀ L s.heap news) (hm : (D, W.listOf (List.toArray vs) ep) ∈ news) (hi : IntsAre vs (intsOf km)) (hb : k ∈ zsOf km) (h : Q (.bool true) s) : wpAny (model prog w) A (compareOp .In (.int (k : Int) t) (.ref D)) Q E s := by
  refine in_list_ints (listN N hm) hi ?_
  rw [any_contains, contains_ints (mem_zs.mp hb).1, (mem_zs.mp hb).2]
  exact h
theorem inL_f (N : News h₀ L s.heap news) (hm : (D, W.listOf (List.toArray vs) ep) ∈ news) (hi : IntsAre vs (intsOf km)) (hb : k < 5 ∧ k ∉ zsOf km) (h : Q (.bool false) s) : wpAny (model prog w) A (compareOp .In (.int (k : Int) t) (.ref D)) Q E s := by
  refine in_list_ints (listN N hm) hi ?_
  rw [any_contains, contains_ints hb.1]
  cases e : km.testBit k with
  | false => exact h
  | true => exact absurd (mem_zs.mpr ⟨hb.1, e⟩) hb.2
end
theorem score_k {prog : Program} {w : World} {A : Around} {s : Shared} {h₀ : Heap} {L : Addr} {m mg mb : Str → Option Value} {news : List (Addr × Obj)} {p : Program} {loose : List Str} {mean : ExcName → Option Value} {Q : Value → Shared → Prop} {E : Value → Shared → Prop} (F : Fr h₀ L s.heap m) (N : News h₀ L s.heap news) (X : (hd.heap_1 w.params).In h₀) (T : Top p loose mean mg mb h₀) (hA : Room A 9) {k : Nat} (hk : k < 11) {t : Tok} {lb lw lc : Addr} {bs : List (List Int)} {ws com : List Int} {wv cv : List Value}
    (hb : BallotsIs s.heap lb bs) (hw : s.heap.IsList lw wv.toArray) (hwi : IntsAre wv ws) (hc : s.heap.IsList lc cv.toArray) (hci : IntsAre cv com)
    (hbw : bs.length = ws.length) (hb4 : bs.length ≤ 4) (hc6 : com.length ≤ 6) (hw1 : ∀ x ∈ ws, 1 ≤ x ∧ x ≤ 1000)
    (h : ∀ x t1 t2 h' tk, Fr h₀ L h' m → News h₀ L h' ((x, { cls := .type "tuple", data := .seq #[.int (scoreP (fnAt k) bs ws com bs.length).1 t1, .int (scoreP (fnAt k) bs ws com bs.length).2 t2] }) :: news) → (∀ p ∈ news, p.1 ≠ x) → Q (.ref x) { s with heap := h', toks := tk }) :
    wpAny (model prog w) A (call (.ref 523) [.str (nameAt k) t, .ref lb, .ref lw, .ref lc]) Q E s :=
  liftPair F N X T _ _ (fun _ hR => score_code ⟨X.keeps F.keep, p, loose, mean, mg, mb, T.keeps F.keep⟩ hA hk hb hw hwi hc hci hbw hb4 hc6 hw1 hR) h
theorem placesP_sz {k : Nat} (hk : k < 11) {w : Int} (hw : Sz 10 w) {p : Int × Int} {K : Nat} (h1 : Sz K p.1) (h2 : Sz K p.2) : ∀ n, n ≤ 6 → Sz (K + 41 * n) (placesP (fnAt k) w p n).1 ∧ Sz (K + 41 * n) (placesP (fnAt k) w p n).2
  | 0, _ => ⟨h1, h2⟩
  | n + 1, hn => by
    obtain ⟨a, b⟩ := placesP_sz hk hw h1 h2 n (by omega)
    have y1 : Sz 1 (gN (fnAt k) ((n : Int) + 1)) := gN_sz _ _
    have y2 : Sz 40 (gD (fnAt k) ((n : Int) + 1)) := gD_sz hk (by omega) (by omega)
    have y4 : Sz 40 (gN (fnAt k) ((n : Int) + 1) * w) := (y1.mul hw).mono (by decide)
    exact ⟨Sz.mono ((a.mul y2).add (y4.mul b)) (by omega), Sz.mono (b.mul y2) (by omega)⟩
theorem scoreP_sz {k : Nat} (hk : k < 11) {bs : List (List Int)} {ws com : List Int} (hw1 : ∀ x ∈ ws, 1 ≤ x ∧ x ≤ 1000) (hc6 : com.length ≤ 6) : ∀ i, Sz (250 * i + 1) (scoreP (fnAt k) bs ws com i).1 ∧ Sz (250 * i + 1) (scoreP (fnAt k) bs ws com i).2
  | 0 => ⟨by unfold Sz; simp [scoreP], by unfold Sz; simp [scoreP]⟩
  | i + 1 => by
    obtain ⟨a, b⟩ := scoreP_sz (bs := bs) hk hw1 hc6 i
    have q6 : cnt (bs.getD i []) com ≤ com.length := List.length_filter_le _ _
    obtain ⟨c, d⟩ := placesP_sz hk (w_sz hw1 i) a b (cnt (bs.getD i []) com) (by omega)
    exact ⟨Sz.mono c (by omega), Sz.mono d (by omega)⟩
theorem scoreP_sz4 {k : Nat} (hk : k < 11) {bs : List (List Int)} {ws com : List Int} (hw1 : ∀ x ∈ ws, 1 ≤ x ∧ x ≤ 1000) (hc6 : com.length ≤ 6) {i : Nat} (hi : i ≤ 4) : Sz 1001 (scoreP (fnAt k) bs ws com i).1 ∧ Sz 1001 (scoreP (fnAt k) bs ws com i).2 :=
  ⟨((scoreP_sz hk hw1 hc6 i).1).mono (by omega), ((scoreP_sz hk hw1 hc6 i).2).mono (by omega)⟩
theorem Sz.neg0 {k : Nat} {x : Int} (h : Sz k x) : Sz k (0 - x) := by
  unfold Sz at *
  rw [Int.zero_sub, Int.natAbs_neg]
  exact h
theorem thiele_k {prog : Program} {w : World} {A : Around} {s : Shared} {h₀ : Heap} {L : Addr} {m mg mb : Str → Option Value} {news : List (Addr × Obj)} {p : Program} {loose : List Str} {mean : ExcName → Option Value} {Q : Value → Shared → Prop} {E : Value → Shared → Prop} (F : Fr h₀ L s.heap m) (N : News h₀ L s.heap news) (X : (hd.heap_1 w.params).In h₀) (T : Top p loose mean mg mb h₀) (B : AllBare s.gens) (hA : Room A 16) {k : Nat} (hk : k < 11) {t : Tok} {x : Addr} {nc : Nat} {ms : List Nat} {ws : List Int} (P : IsProfile w s.heap x nc ms ws) {lc : Addr} {cv : List Value} {km : Nat} (hc : s.heap.IsList lc cv.toArray) (hci : IntsAre cv (intsOf km)) (hkm : km < 32)
    (h4 : ms.length ≤ 4) (hm : ∀ m ∈ ms, m < 32) (hw1 : ∀ x ∈ ws, 1 ≤ x ∧ x ≤ 1000)
    (h : ∀ y a b s', Fr h₀ L s'.heap m → News h₀ L s'.heap news → AllBare s'.gens → s'.os = s.os → IsFrac s'.heap (.ref y) a b → 0 < b → a * (scoreP (fnAt k) (ms.map intsOf) ws (intsOf km) ms.length).2 = (scoreP (fnAt k) (ms.map intsOf) ws (intsOf km) ms.length).1 * b → Sz 1100 a → Sz 1100 b → Q (.ref y) s') :
    wpAny (model prog w) A (call (.ref 252) [.str (nameAt k) t, .ref x, .ref lc]) Q E s :=
  call_of (thiele_code ⟨X.keeps F.keep, p, loose, mean, mg, mb, T.keeps F.keep⟩ B hA hk P hc hci hkm h4 hm hw1 fun v s' a b D NF h1 h2 h3 h5 => by
    have hf := NF.is
    refine Classical.byContradiction fun hg9 => ?_
    (refine xa_8_5 (NF) ?_; intro y dx hs1 hs2 t1 t2 t3 t4 r98 c99 c910 c911 c912; (try clear NF))
    subst r98
    clear c99 c910 c911 c912
    refine hg9 ?_
    clear hg9
    exact h y a b s' (F.after D.keep) (newsAfter N D.keep) D.bare D.os hf h1 h2 h3 h5)
theorem gms_k {prog : Program} {w : World} {A : Around} {s : Shared} {h₀ : Heap} {L : Addr} {m mg mb : Str → Option Value} {news : List (Addr × Obj)} {p : Program} {loose : List Str} {mean : ExcName → Option Value} {Q : Value → Shared → Prop} {E : Value → Shared → Prop} (F : Fr h₀ L s.heap m) (N : News h₀ L s.heap news) (X : (hd.heap_1 w.params).In h₀) (T : Top p loose mean mg mb h₀) (hA : Room A 6) {k : Nat} (hk : k < 11) {t : Tok}
    (h : ∀ x dx h' tk hs1 hs2 t1 t2 t3 pv, Fr h₀ L h' m → News h₀ L h' ((x, instObj 233 dx) :: (dx, dictOf [⟨hs1, .str (Str.ofString "name") t1, .str (fnName (fnAt k)) t2⟩, ⟨hs2, .str (Str.ofString "param") t3, pv⟩] 2) :: news) → (∀ p ∈ news, p.1 < dx) → @LT.lt Nat _ dx x → @LT.lt Nat _ L dx →
      FnParam (fnAt k) pv → Q (.ref x) { s with heap := h', toks := tk }) :
    wpAny (model prog w) A (call (.ref 245) [.str (nameAt k) t]) Q E s :=
  liftFn F N X T (fnAt k) (fun _ hR => gms1 ⟨X.keeps F.keep, p, loose, mean, mg, mb, T.keeps F.keep⟩ hA hk hR) h
theorem set_k {prog : Program} {w : World} {A : Around} {s : Shared} {h₀ : Heap} {L : Addr} {m : Str → Option Value} {news : List (Addr × Obj)} {Q : Value → Shared → Prop} {E : Value → Shared → Prop} (F : Fr h₀ L s.heap m) (N : News h₀ L s.heap news) {l : Addr} {vs : List Value} {n : Nat} (hh : A.handled = none) (hl : s.heap.IsList l vs.toArray) (hi : IntsAre vs (intsOf n)) (hn : n < 32)
    (h : ∀ S h' tk o, s.heap.get? S = none → (∀ b o, s.heap.get? b = some o → h'.get? b = some o) → Fr h₀ L h' m → News h₀ L h' ((S, o) :: news) → (∀ p ∈ news, p.1 ≠ S) → SmallSet w o n → Q (.ref S) { s with heap := h', toks := tk }) : wpAny (model prog w) A (call (.type "set") [.ref l]) Q E s :=
  set_list hh hl hi hn fun h' tk o ho hs k => h _ h' tk o (by
    cases q : s.heap.get? s.heap.objs.size with
    | none => rfl
    | some o' => exact absurd (Heap.lt_size q) (Nat.lt_irrefl _)) k (F.after k) (newsFresh1 F (newsAfter N k) (Nat.le_refl _) ho) (fun p hp => Nat.ne_of_lt (Heap.lt_size (N p hp).1)) hs
theorem add_k {prog : Program} {w : World} {A : Around} {s : Shared} {h₀ : Heap} {L : Addr} {m mg mb : Str → Option Value} {news : List (Addr × Obj)} {p : Program} {loose : List Str} {mean : ExcName → Option Value} {Q : Value → Shared → Prop} {E : Value → Shared → Prop} (F : Fr h₀ L s.heap m) (N : News h₀ L s.heap news) (X : (hd.heap_1 w.params).In h₀) (T : Top p loose mean mg mb h₀) (B : AllBare s.gens) (hA : Room A 16) {gf : Addr} {f : Fn} (hf : IsFn s.heap (.ref gf) f) {x : Addr} {nc : Nat} {ms : List Nat} {ws : List Int} (P : IsProfile w s.heap x nc ms ws) {lc : Addr} {cv : List Value} {km : Nat} (hc : s.heap.IsList lc cv.toArray) (hci : IntsAre cv (intsOf km)) (hkm : km < 32)
    (h1 : 1 ≤ nc) (h5 : nc ≤ 5) (h4 : ms.length ≤ 4) (hm : ∀ m ∈ ms, m < 32 ∧ ∀ z ∈ zsOf m, z < nc) (hw1 : ∀ x ∈ ws, 1 ≤ x ∧ x ≤ 1000) (hkc : ∀ z ∈ zsOf km, z < nc)
    (h : ∀ D' vl ep imm a b s', Fr h₀ L s'.heap m → News h₀ L s'.heap (news ++ ((D', W.listOf (List.toArray vl) ep) :: imm)) → (∀ q ∈ news, ∀ r ∈ (D', W.listOf (List.toArray vl) ep) :: imm, r.1 ≠ q.1) → AllBare s'.gens → s'.os = s.os → vl.length = nc → FracsIn imm vl a b 300 → (∀ c, c < nc → a c * (addT f ms ws km c).2 = (addT f ms ws km c).1 * b c) → Q (.ref D') s') :
    wpAny (model prog w) A (call (.ref 315) [.ref gf, .ref x, .ref lc]) Q E s :=
  call_of (add_scores_code ⟨X.keeps F.keep, p, loose, mean, mg, mb, T.keeps F.keep⟩ B hA hf P hc hci hkm h1 h5 h4 hm hw1 hkc fun D' vl ep imm a b s' D M hl hfr q1 =>
    h D' vl ep imm a b s' (F.after D.keep) (newsMade F (newsAfter N D.keep) M) (made_apart N M) D.bare D.os hl hfr q1)
theorem rem_k {prog : Program} {w : World} {A : Around} {s : Shared} {h₀ : Heap} {L : Addr} {m mg mb : Str → Option Value} {news : List (Addr × Obj)} {p : Program} {loose : List Str} {mean : ExcName → Option Value} {Q : Value → Shared → Prop} {E : Value → Shared → Prop} (F : Fr h₀ L s.heap m) (N : News h₀ L s.heap news) (X : (hd.heap_1 w.params).In h₀) (T : Top p loose mean mg mb h₀) (B : AllBare s.gens) (hA : Room A 16) {gf : Addr} {f : Fn} (hf : IsFn s.heap (.ref gf) f) {hP : Heap} {x : Addr} {nc : Nat} {ms : List Nat} {ws : List Int} (P : IsProfile w hP x nc ms ws) (hPk : ∀ b o, hP.get? b = some o → s.heap.get? b = some o) {lc : Addr} {oc : Obj} {km : Nat} (nlc : hP.get? lc = none) (hc : s.heap.get? lc = some oc) (hsc : SmallSet w oc km) (hkm : km < 32)
    (h1 : 1 ≤ nc) (h5 : nc ≤ 5) (h4 : ms.length ≤ 4) (hm : ∀ m ∈ ms, m < 32 ∧ ∀ z ∈ zsOf m, z < nc) (hw1 : ∀ x ∈ ws, 1 ≤ x ∧ x ≤ 1000) (hkc : ∀ z ∈ zsOf km, z < nc)
    (h : ∀ D' vl ep imm a b s', Fr h₀ L s'.heap m → News h₀ L s'.heap (news ++ ((D', W.listOf (List.toArray vl) ep) :: imm)) → (∀ q ∈ news, ∀ r ∈ (D', W.listOf (List.toArray vl) ep) :: imm, r.1 ≠ q.1) → AllBare s'.gens → s'.os = s.os → vl.length = nc → FracsIn imm vl a b 300 → (∀ c ∈ zsOf km, a c * (margP f ms ws km 0 ms.length c).2 = (margP f ms ws km 0 ms.length c).1 * b c) → (∀ c, c < nc → c ∉ zsOf km → ∀ d ∈ zsOf km, a d * b c < a c * b d) → Q (.ref D') s') :
    wpAny (model prog w) A (call (.ref 322) [.ref gf, .ref x, .ref lc]) Q E s :=
  call_of (rem_scores_code ⟨X.keeps F.keep, p, loose, mean, mg, mb, T.keeps F.keep⟩ B hA hf P hPk nlc hc hsc hkm h1 h5 h4 hm hw1 hkc fun D' vl ep imm a b s' D M hl hfr q1 q2 =>
    h D' vl ep imm a b s' (F.after D.keep) (newsMade F (newsAfter N D.keep) M) (made_apart N M) D.bare D.os hl hfr q1 q2)
theorem listcp_k {prog : Program} {w : World} {A : Around} {E : Value → Shared → Prop} {s : Shared} {h₀ : Heap} {L b : Addr} {m : Str → Option Value} {news : List (Addr × Obj)} {vs : List Value} {ns : List Int} {ep : Nat} {Q : Value → Shared → Prop} (F : Fr h₀ L s.heap m) (N : News h₀ L s.heap news) (hb : (b, W.listOf (List.toArray vs) ep) ∈ news) (hi : IntsAre vs ns) (hn : ns.length ≤ 1000)
    (h : ∀ D c h', Fr h₀ L h' m → News h₀ L h' ((D, W.listOf (List.toArray vs) c) :: news) → Q (.ref D) { s with heap := h' }) : wpAny (model prog w) A (call (.type "list") [.ref b]) Q E s :=
  list_copyK F N (listN N hb) (fun D c h' F' N' _ => h D c h' F' N') (by have := hi.length; rw [List.size_toArray, sizeLine_eq]; omega)
end
section
theorem words42 : True := by
  k_with_none
  (k_with "ite" => (first | (refine ite_pos (by ((try simp only [beq_iff_eq, bne_iff_ne, decide_eq_true_eq, Bool.not_eq_true', decide_eq_false_iff_not, beq_eq_false_iff_ne, ne_eq]); omega)) ?_) | (refine ite_neg (by ((try simp only [beq_iff_eq, bne_iff_ne, decide_eq_true_eq, Bool.not_eq_true', decide_eq_false_iff_not, beq_eq_false_iff_ne, ne_eq]); omega)) ?_)))
  (k_with "binaryOp FloorDiv int int" => ((k_dflt (refine' floordiv_int ?h1_q ?_ (Or.inl (PyProof.noPylong_of_log2 ?h2_q)); (case h1_q => omega); (case h2_q => first | assumption | exact Sz.log (by assumption))))))
  (k_with "binaryOp Mult int int" => ((k_dflt (refine' mul_int ?_ ?hm_q; (case hm_q => exact Sz.ok (by with_reducible assumption) (by with_reducible assumption) (by omega))))))
  (k_with "call ref" => (((with_reducible show wpAny _ _ (call (Value.ref 182) [Value.int _ _, Value.int _ _]) _ _ _); k_dflt (refine' frac_k ?F_q ?N_q ?X_q ?T_q ?A_q ?b_q ?z_q ?k_q ?_; (case F_q => k_asm); (case N_q => k_asm); (case X_q => k_asm); (case T_q => k_asm); (case A_q => exact Room.le (by assumption) (by decide)); (case b_q => first | assumption | omega | (exact Int.mul_pos (by assumption) (by assumption))); (case z_q => first | assumption | exact Sz.mul (by assumption) (by assumption)); (case k_q => omega)); intro _ _ _ _ _ _ _ _ _ _ _ _ _ _ _ _ _ _ _ _ _)))
  (k_with "binaryOp Pow int int" => ((k_dflt (refine' pow_int_small ?h1_q ?h2_q ?h3_q ?_; (case h1_q => omega); (case h2_q => omega); (case h3_q => omega)))))
  (k_with "call ref" => (((with_reducible show wpAny _ _ (call (Value.ref 182) [Value.int _ _]) _ _ _); k_dflt (refine' frac1_k ?F_q ?N_q ?X_q ?T_q ?A_q ?_; (case F_q => k_asm); (case N_q => k_asm); (case X_q => k_asm); (case T_q => k_asm); (case A_q => exact Room.le (by assumption) (by decide))); intro _ _ _ _ _ _ _ _ _ _ _ _ _ _ _)))
  (k_with "eval Name" => ((k_dflt (first | (refine' nmL ?F_q ?e_q ?v_q ?_ ?a_q ?b_q ?d_q; (case F_q => with_reducible assumption); (case e_q => exact rfl); (case v_q => first | with_reducible assumption | ((try dsimp only); first | exact (if_neg (by decide)).trans (by with_reducible assumption) | exact (if_neg (by decide)).trans ((if_neg (by decide)).trans (by with_reducible assumption)) | exact (if_neg (by decide)).trans ((if_neg (by decide)).trans ((if_neg (by decide)).trans (by with_reducible assumption)))) | exact rfl); (case a_q => exact rfl); (case b_q => exact rfl); (case d_q => decide); k_whole) | (refine' nmC ?F_q ?c_q ?o_q ?d_q ?_ ?a_q ?b_q ?g_q; (case F_q => with_reducible assumption); (case a_q => exact rfl); (case b_q => exact rfl); (case c_q => exact rfl); (case o_q => with_reducible assumption); (case d_q => with_reducible assumption); (case g_q => decide); k_whole) | (refine' nameG_K ?F_q ?X_q ?T_q ?e_q ?_ ?g_q ?a_q ?b_q ?d_q; (case F_q => with_reducible assumption); (case X_q => k_asm); (case T_q => k_asm); (case a_q => exact rfl); (case b_q => exact rfl); (case e_q => k_is); (case g_q => exact rfl); (case d_q => decide); k_whole) | (refine' nmB ?F_q ?X_q ?T_q ?e_q ?v_q ?n_q ?_ ?g_q ?h_q ?a_q ?b_q ?d_q; (case F_q => with_reducible assumption); (case X_q => k_asm); (case T_q => k_asm); (case a_q => exact rfl); (case b_q => exact rfl); (case e_q => k_is); (case v_q => boot_fast); (case n_q => decide); (case g_q => exact rfl); (case h_q => exact rfl); (case d_q => decide); k_whole)))))
  (k_with "call ref" => (((with_reducible show wpAny _ _ (call (Value.ref 492) [Value.ref _, Value.int _ _]) _ _ _); k_dflt (refine' liftI ?F_q ?N_q ?X_q ?T_q (cellZ _ _) (fun R hR => cell_code ⟨Frag.In.keeps (by k_asm) (Fr.keep (by k_asm)), _, _, _, _, _, Top.keeps (by k_asm) (Fr.keep (by k_asm))⟩ (Room.le (by assumption) (by decide)) (stays_list (Fr.keep (by with_reducible assumption)) (by with_reducible assumption)) (by with_reducible assumption) (by with_reducible assumption) (by omega) (by omega) hR) ?_; (case F_q => k_asm); (case N_q => k_asm); (case X_q => k_asm); (case T_q => k_asm)); intro _ _ _ _ _ _)))
  (k_with "exec For" => ((with_unfolding_all refine for_at ?_)))
  (k_with "pyIter ref" => (first | (with_reducible refine hold_pyF ?_) | (with_reducible refine hold_pyC ?_)))
  (k_with "call builtin:len" => (((with_reducible show wpAny _ _ (call (Value.builtin "len") [Value.ref _]) _ _ _); k_dflt (refine' len_old ?F_q ?l_q ?f_q ?_; (case F_q => with_reducible assumption); (case l_q => with_reducible assumption); (case f_q => omega)))))
  (k_with "subscriptTail Name Name ref int" => (((with_reducible show wpAny _ _ (subscriptTail _ _ (Value.ref _) (Value.int _ _)) _ _ _); k_dflt (refine' item_at ?l_q ?a_q ?b_q ?x_q ?_ ?s_q; (case l_q => with_reducible assumption); (case x_q => with_reducible assumption); (case a_q => omega); (case b_q => omega); (case s_q => with_unfolding_all rfl)))))
  (k_with "compareOp In int ref" => ((k_dflt (refine' in_list_ints ?l_q ?i_q ?_; (case l_q => with_reducible assumption); (case i_q => with_reducible assumption)))))
  (k_with "call builtin:len" => (((with_reducible show wpAny _ _ (call (Value.builtin "len") [Value.ref _]) _ _ _); k_dflt (refine' len_cur ?l_q ?f_q ?_; (case l_q => with_reducible assumption); (case f_q => omega)))))
  (k_with "exec For Name Call cons nil" => ((with_unfolding_all refine for_at ?_)))
  (k_with "exec For Name Name cons nil" => ((with_unfolding_all refine for_at ?_)))
  (k_with "call ref" => (((with_reducible show wpAny _ _ (call (Value.ref 511) [Value.str (nameAt _) _, Value.int _ _]) _ _ _); k_dflt (refine' liftPair ?F_q ?N_q ?X_q ?T_q (gN (fnAt _) _) (gD (fnAt _) _) (fun R hR => gain_code ⟨Frag.In.keeps (by k_asm) (Fr.keep (by k_asm)), _, _, _, _, _, Top.keeps (by k_asm) (Fr.keep (by k_asm))⟩ (Room.le (by assumption) (by decide)) (by assumption) (by omega) (by omega) hR) ?_; (case F_q => k_asm); (case N_q => k_asm); (case X_q => k_asm); (case T_q => k_asm)); intro _ _ _ _ _ _ _ l9q; replace l9q := allNe_of l9q; simp only [AllNe, and_true] at l9q)))
  (k_with "call ref" => (((with_reducible show wpAny _ _ (call (Value.ref 518) [Value.ref _, Value.ref _]) _ _ _); k_dflt (refine' liftPair ?F_q ?N_q ?X_q ?T_q _ _ (fun R hR => add_code ⟨Frag.In.keeps (by k_asm) (Fr.keep (by k_asm)), _, _, _, _, _, Top.keeps (by k_asm) (Fr.keep (by k_asm))⟩ (Room.le (by assumption) (by decide)) (pairOfNews (by k_asm) (by k_mem)) (pairOfNews (by k_asm) (by k_mem)) (by with_reducible assumption) (by with_reducible assumption) (by with_reducible assumption) (by with_reducible assumption) (by omega) hR) ?_; (case F_q => k_asm); (case N_q => k_asm); (case X_q => k_asm); (case T_q => k_asm)); intro _ _ _ _ _ _ _ l9q; replace l9q := allNe_of l9q; simp only [AllNe, and_true] at l9q)))
  (k_with "getMethod ref" => (((with_reducible show wpAny _ _ (getMethod (Value.ref _) (PySem.Str.ofString "intersection") _) _ _ _); k_dflt (refine' getMethod_inter (Fr.keep ?F_q _ _ ?o_q) ?s_q ?_; (case F_q => k_asm); (case o_q => with_reducible assumption); (case s_q => with_reducible assumption)))))
  (k_with "call builtin:set.intersection" => (((with_reducible show wpAny _ _ (call (Value.builtin "set.intersection") _) _ _ _); (k_dflt (show wpAny _ _ (call (Value.builtin "set.intersection") [Value.ref _, Value.ref _]) _ _ _)); k_dflt (refine' inter_list_k ?F_q ?N_q rfl (Fr.keep ?F2_q _ _ ?o_q) ?s_q (stays_list (Fr.keep ?F3_q) ?l_q) ?i_q ?n_q ?_; (case F_q => k_asm); (case N_q => k_asm); (case F2_q => k_asm); (case F3_q => k_asm); (case o_q => with_reducible assumption); (case s_q => with_reducible assumption); (case l_q => with_reducible assumption); (case i_q => with_reducible assumption); (case n_q => with_reducible assumption)); intro _ _ _ _ _ _ l9q _; replace l9q := allNe_of l9q; simp only [AllNe, and_true] at l9q)))
  (k_with "exec For Name Attribute cons nil" => ((with_unfolding_all refine for_at ?_)))
  (k_with "getItem ref int" => ((k_dflt (refine' getItem_k ?N_q ?m_q ?a_q ?b_q ?x_q ?_; (case N_q => k_asm); (case m_q => k_mem); (case a_q => omega); (case b_q => omega); (case x_q => with_reducible assumption)))))
  (k_with "setItem ref int" => ((refine hold ?_)))
  (k_with "call ref" => (((with_reducible show wpAny _ _ (call (Value.ref 308) [Value.ref _, Value.int _ _]) _ _ _); refine hold ?_)))
  (k_with "call ref" => (((with_reducible show wpAny _ _ (call (Value.ref 530) [Value.ref _, Value.ref _]) _ _ _); refine hold ?_)))
  (k_with "call ref" => (((with_reducible show wpAny _ _ (call (Value.ref 523) [Value.str _ _, Value.ref _, Value.ref _, Value.ref _]) _ _ _); refine hold ?_)))
  (k_with "call ref" => (((with_reducible show wpAny _ _ (call (Value.ref 252) [Value.str _ _, Value.ref _, Value.ref _]) _ _ _); refine hold ?_)))
  (k_with "call ref" => (((with_reducible show wpAny _ _ (call (Value.ref 245) [Value.str _ _]) _ _ _); refine hold ?_)))
  (k_with "call ref" => (((with_reducible show wpAny _ _ (call (Value.ref 315) [Value.ref _, Value.ref _, Value.ref _]) _ _ _); refine hold ?_)))
  (k_with "call ref" => (((with_reducible show wpAny _ _ (call (Value.ref 322) [Value.ref _, Value.ref _, Value.ref _]) _ _ _); refine hold ?_)))
  (k_with "call type:set cons nil" => (((with_reducible show wpAny _ _ (call (Value.type "set") [Value.ref _]) _ _ _); refine hold ?_)))
  (k_with "eval ListComp Name cons" => ((k_dflt (refine' comp_at _ ?c1_q ?c2_q ?c3_q ?c4_q ?c5_q ?_ ?c6_q; (case c1_q => with_unfolding_all rfl); (case c2_q => decide); (case c3_q => exact rfl); (case c4_q => decide); (case c5_q => exact rfl); (case c6_q => (intro _; exact rfl))))))
  (k_with "compareOp In int ref" => ((k_dflt (first | (refine' inL_t ?N_q ?m_q ?i_q ?b_q ?_; (case N_q => k_asm); (case m_q => k_mem); (case i_q => with_reducible assumption); (case b_q => with_reducible assumption)) | (refine' inL_f ?N_q ?m_q ?i_q ?b_q ?_; (case N_q => k_asm); (case m_q => k_mem); (case i_q => with_reducible assumption); (case b_q => with_reducible assumption))))))
  (k_with "subscriptTail Name Name ref int" => (((with_reducible show wpAny _ _ (subscriptTail _ _ (Value.ref _) (Value.int _ _)) _ _ _); k_dflt (refine' item_at ?l_q ?a_q ?b_q ?x_q ?_ ?s_q; (case l_q => exact listN (by k_asm) (by k_mem)); (case x_q => with_reducible assumption); (case a_q => omega); (case b_q => omega); (case s_q => with_unfolding_all rfl)))))
  (k_with "subscriptTail Name BinOp ref int" => (((with_reducible show wpAny _ _ (subscriptTail _ _ (Value.ref _) (Value.int _ _)) _ _ _); k_dflt (refine' item_at ?l_q ?a_q ?b_q ?x_q ?_ ?s_q; (case l_q => exact listN (by k_asm) (by k_mem)); (case x_q => with_reducible assumption); (case a_q => omega); (case b_q => omega); (case s_q => with_unfolding_all rfl)))))
  (k_with "call builtin:len" => (((with_reducible show wpAny _ _ (call (Value.builtin "len") [Value.ref _]) _ _ _); k_dflt (refine' len_cur ?l_q ?f_q ?_; (case l_q => exact listN (by k_asm) (by k_mem)); (case f_q => omega)))))
  (k_with "call type:list cons nil" => (((with_reducible show wpAny _ _ (call (Value.type "list") [Value.ref _]) _ _ _); k_dflt (refine' listcp_k ?F_q ?N_q ?b_q ?i_q ?n_q ?_; (case F_q => k_asm); (case N_q => k_asm); (case b_q => k_mem); (case i_q => with_reducible assumption); (case n_q => omega)); intro _ _ _ _ _)))
  trivial
section
theorem law_d {prog : Program} {w : World} {dp un : Nat} {fr : Option (List Env)} {gd : Option (List Code)} {u : Shared} {h₀ : Heap} {L I C : Addr} {oI : Obj} {m mg mb : Str → Option Value} {p : Program} {loose : List Str} {mean : ExcName → Option Value}
    {sc : Scope} {cdv : Value} {sts b b' b1 b2 b3 : List Stmt} {t t' t3 : PySem.Expr} (h : defParts (hd.heap_1 w.params) 542 = some (sc, cdv, sts)) (h2 : nthFor 0 sts = some (t, b)) (h3 : nthFor 1 b = some (t', b')) (h4 : firstIf b' = some (b1, b2)) (h5 : nthFor 0 b2 = some (t3, b3))
    (X : (hd.heap_1 w.params).In h₀) (T : Top p loose mean mg mb h₀) (hA' : Room (mkA dp un fr gd) 29) {c d nc : Nat} (hn5 : nc ≤ 5) (hc : c < nc) (hdn : d < nc) {IM NW : List (Addr × Obj)} {DL : Addr} {vl : List Value} {ep : Nat} {fa fb : Nat → Int} {td tc : Tok} {vc vb vw vk vp vn v1 v2 v3 v4 v5 : Value}
    (hvl : vl.length = nc) (hFr : FracsIn IM vl fa fb 300) (mL : (DL, W.listOf (List.toArray vl) ep) ∈ IM) (hlt : fa d * fb c < fa c * fb d)
    (M1 : MA m vc vb vw vk vp vn) (M2 : MB m v1 v2 v3) (M3 : MC m v4 (.ref DL) v5) {oc : Obj} (mc : (C, oc) ∈ NW) (dc : oc.data = .cell (some (.int (c : Int) tc))) (hC : C = L + 1 + 1)
    (F : Fr h₀ L u.heap m) (N : News h₀ L u.heap ((I, oI) :: (IM ++ NW))) (hn : ∀ p ∈ IM ++ NW, p.1 ≠ I) :
    wpAny (model prog w) (mkA dp un fr gd) (assign t3 (envOfC (Str.ofString "law") sc L 542 cdv) (.int (d : Int) td)) (fun _ s₂ => wpAny (model prog w) (mkA dp un fr gd) (execs b3 (envOfC (Str.ofString "law") sc L 542 cdv))
      (FEnd h₀ L I oI IM (fun m₁ news₁ => news₁ = NW ∧ MA m₁ vc vb vw vk vp vn ∧ MB m₁ v1 v2 v3 ∧ MC m₁ v4 (.ref DL) v5) u) (fun _ _ => False) s₂) (fun _ _ => False) u := by
  have e1 := h.symm.trans (rfl : defParts (hd.heap_1 w.params) 542 = some (_, _, _))
  cases e1
  have e2 := h2.symm.trans (rfl : nthFor 0 _ = some (_, _))
  cases e2
  have e3 := h3.symm.trans (rfl : nthFor 1 _ = some (_, _))
  cases e3
  have e4 := h4.symm.trans (rfl : firstIf _ = some (_, _))
  cases e4
  have e5 := h5.symm.trans (rfl : nthFor 0 _ = some (_, _))
  cases e5
  clear h h2 h3 h4 h5
  obtain ⟨a1, a2, a3, a4, a5, a6⟩ := M1
  obtain ⟨b1, b2, b3⟩ := M2
  obtain ⟨c1, c2, c3⟩ := M3
  subst hC
  (refine xa_8_6 (hFr c (by omega)) ?_; intro fx fdx l1 l2 w1 w2 w3 w4 q1 q2 q3 hb0 za zb)
  (refine xa_8_6 (hFr d (by omega)) ?_; intro gx gdx l3 l4 w5 w6 w7 w8 r1 r2 r3 hg0 zc zd)
  have hvz : vl[((c : Nat) : Int).toNat]? = some (.ref fx) := by rw [Int.toNat_natCast]; exact q1
  have hvz2 : vl[((d : Nat) : Int).toNat]? = some (.ref gx) := by rw [Int.toNat_natCast]; exact r1
  have N0 : News h₀ L u.heap ((L + 1 + 1, oc) :: (I, oI) :: (DL, W.listOf (List.toArray vl) ep) :: (fx, instObj 182 fdx) :: (fdx, fracD l1 l2 (fa c) (fb c) w1 w2 w3 w4) :: (gx, instObj 182 gdx) :: (gdx, fracD l3 l4 (fa d) (fb d) w5 w6 w7 w8) :: (IM ++ NW)) := newsSub N (by
    intro p hp
    simp only [List.mem_cons, List.mem_append] at hp ⊢
    rcases hp with rfl | rfl | rfl | rfl | rfl | rfl | rfl | hp <;> simp [*])
  clear N
  w_on
  w_strict (k_steps)
  rename Fr _ _ _ _ => F6
  rename News _ _ _ _ => N6
  refine ⟨rfl, _, _, _, NW, rfl, F6, newsSub N6 ?sub, fun q hq => hn q (List.mem_append.mpr (.inr hq)), rfl, ⟨a1, a2, a3, a4, a5, a6⟩, ⟨b1, b2, b3⟩, ⟨c1, c2, c3⟩⟩
  case sub => ((first | (((try dsimp only [List.cons_append, List.nil_append]); repeat' (first | exact List.forall_mem_nil _ | (refine fmc (by (first | k_mem | ((repeat (first | (with_reducible exact List.Mem.head _) | exact List.mem_append_left _ (by with_reducible assumption) | exact List.mem_append_left _ (List.Mem.head _) | (with_reducible assumption) | (refine List.Mem.tail _ ?_) | (refine List.mem_append_right _ ?_))); done))) ?_) | (refine fma ?_ ?_) | (intro p9 h9; ((repeat (first | exact h9 | exact List.mem_append_left _ h9 | exact List.mem_append_left _ (List.mem_append_left _ h9) | (refine List.Mem.tail _ ?_) | (refine List.mem_append_right _ ?_))); done)))); done) | (intro p9 h9; simp only [List.mem_append, List.mem_cons] at h9 ⊢; grind)))
end
section
local macro_rules | `(tactic| k_all) => `(tactic| first | exact List.forall_mem_nil _ | with_reducible assumption | (refine' List.forall_mem_cons.mpr ⟨?a, ?b⟩; (case a => k_ne); (case b => k_all)))
theorem words43 : True := by
  (k_with "call ref" => (((with_reducible show wpAny _ _ (call (Value.ref 371) [Value.ref _, Value.ref _]) _ _ _); refine hold ?_)))
  (k_with "call ref" => (((with_reducible show wpAny _ _ (call (Value.ref 444) [Value.int _ _]) _ _ _); refine hold ?_)))
  trivial
section
theorem law_c {prog : Program} {w : World} {dp un : Nat} {fr : Option (List Env)} {gd : Option (List Code)} {u : Shared} {h₀ : Heap} {L I : Addr} {oI : Obj} {m mg mb : Str → Option Value} {p : Program} {loose : List Str} {mean : ExcName → Option Value}
    {sc : Scope} {cdv : Value} {sts b b' : List Stmt} {t t' : PySem.Expr} (h : defParts (hd.heap_1 w.params) 542 = some (sc, cdv, sts)) (h2 : nthFor 0 sts = some (t, b)) (h3 : nthFor 1 b = some (t', b'))
    (X : (hd.heap_1 w.params).In h₀) (T : Top p loose mean mg mb h₀) (hA' : Room (mkA dp un fr gd) 29) {k c nc km ep em el : Nat} (hk : k < 11) (hc : c < nc) (h5 : nc ≤ 5) {IM : List (Addr × Obj)} {lb DW D DM DL ys yb : Addr} {ms : List Nat} {ws : List Int} {wv cw vm vl : List Value} {am bm al bl : Nat → Int} {tn tc t1 t2 t3 t4 : Tok} {vc vp vn vg : Value}
    (BI : BallotsIn IM lb (ms.map intsOf)) (mW : (DW, LCg.lst wv) ∈ IM) (hwi : IntsAre wv ws) (mD : (D, W.listOf cw.toArray ep) ∈ IM) (iw : IntsAre cw (intsOf km)) (hk5 : km < 32) (hkn : ∀ z ∈ zsOf km, z < nc)
    (hmw : ms.length = ws.length) (hm4 : ms.length ≤ 4) (hms : ∀ m ∈ ms, m < 32) (hw1 : ∀ x ∈ ws, 1 ≤ x ∧ x ≤ 1000)
    (mS : (ys, ({ cls := .type "tuple", data := .seq #[.int (scoreP (fnAt k) (ms.map intsOf) ws (intsOf km) ms.length).1 t1, .int (scoreP (fnAt k) (ms.map intsOf) ws (intsOf km) ms.length).2 t2] } : Obj)) ∈ IM)
    (mB : (yb, ({ cls := .type "tuple", data := .seq #[.int (0 - (scoreP (fnAt k) (ms.map intsOf) ws (intsOf km) ms.length).1) t3, .int (scoreP (fnAt k) (ms.map intsOf) ws (intsOf km) ms.length).2 t4] } : Obj)) ∈ IM)
    (mM : (DM, W.listOf (List.toArray vm) em) ∈ IM) (hvm : vm.length = nc) (fM : FracsIn IM vm am bm 300) (hM : ∀ c, c < nc → am c * (addT (fnAt k) ms ws km c).2 = (addT (fnAt k) ms ws km c).1 * bm c)
    (mL : (DL, W.listOf (List.toArray vl) el) ∈ IM) (hvl : vl.length = nc) (fL : FracsIn IM vl al bl 300) (hL1 : ∀ c ∈ zsOf km, al c * (margP (fnAt k) ms ws km 0 ms.length c).2 = (margP (fnAt k) ms ws km 0 ms.length c).1 * bl c) (hL2 : ∀ c, c < nc → c ∉ zsOf km → ∀ d ∈ zsOf km, al d * bl c < al c * bl d)
    (M1 : MA m vc (.ref lb) (.ref DW) (.ref D) vp vn) (M2 : MB m (.str (nameAt k) tn) (.ref ys) vg) (M3 : MC m (.ref DM) (.ref DL) (.ref yb)) {oc : Obj} {cx : Option Value} (dc : oc.data = .cell cx) (kc : ∀ p ∈ IM, p.1 ≠ L + 1 + 1)
    (F : Fr h₀ L u.heap m) (N : News h₀ L u.heap ((I, oI) :: (IM ++ [(L + 1 + 1, oc)]))) (hn : ∀ p ∈ IM ++ [(L + 1 + 1, oc)], p.1 ≠ I) :
    wpAny (model prog w) (mkA dp un fr gd) (assign t' (envOfC (Str.ofString "law") sc L 542 cdv) (.int ((0 : Int) + (c : Int)) tc)) (fun _ s₂ => wpAny (model prog w) (mkA dp un fr gd) (execs b' (envOfC (Str.ofString "law") sc L 542 cdv))
      (FEnd h₀ L I oI IM (fun m₁ news₁ => E2 fun oc cx => A5 (news₁ = [(L + 1 + 1, oc)]) (oc.data = .cell cx) (MA m₁ vc (.ref lb) (.ref DW) (.ref D) vp vn) (MB m₁ (.str (nameAt k) tn) (.ref ys) vg) (MC m₁ (.ref DM) (.ref DL) (.ref yb))) u) (fun _ _ => False) s₂) (fun _ _ => False) u := by
  have e1 := h.symm.trans (rfl : defParts (hd.heap_1 w.params) 542 = some (_, _, _))
  cases e1
  have e2 := h2.symm.trans (rfl : nthFor 0 _ = some (_, _))
  cases e2
  have e3 := h3.symm.trans (rfl : nthFor 1 _ = some (_, _))
  cases e3
  clear h h2 h3
  obtain ⟨a1, a2, a3, a4, a5, a6⟩ := M1
  obtain ⟨b1, b2, b3⟩ := M2
  obtain ⟨c1, c2, c3⟩ := M3
  simp only [Int.zero_add]
  have nI : @Ne Nat (L + 1 + 1) I := hn (L + 1 + 1, oc) (by simp)
  have nD : @Ne Nat D (L + 1 + 1) := kc _ mD
  have nW : @Ne Nat DW (L + 1 + 1) := kc _ mW
  have nM : @Ne Nat DM (L + 1 + 1) := kc _ mM
  have nL : @Ne Nat DL (L + 1 + 1) := kc _ mL
  have nS : @Ne Nat ys (L + 1 + 1) := kc _ mS
  have nB : @Ne Nat yb (L + 1 + 1) := kc _ mB
  (refine xa_8_6 (fM c (by omega)) ?_; intro fx fdx l1 l2 w1 w2 w3 w4 q1 q2 q3 hb0 za zb)
  (refine xa_8_6 (fL c (by omega)) ?_; intro gx gdx l3 l4 w5 w6 w7 w8 r1 r2 r3 hg0 zc zd)
  have nf : @Ne Nat fx (L + 1 + 1) := kc _ q2
  have nfd : @Ne Nat fdx (L + 1 + 1) := kc _ q3
  have ng : @Ne Nat gx (L + 1 + 1) := kc _ r2
  have ngd : @Ne Nat gdx (L + 1 + 1) := kc _ r3
  have hvz : vm[((c : Nat) : Int).toNat]? = some (.ref fx) := by rw [Int.toNat_natCast]; exact q1
  have hvz2 : vl[((c : Nat) : Int).toNat]? = some (.ref gx) := by rw [Int.toNat_natCast]; exact r1
  have hc6 : (intsOf km).length ≤ 5 := by rw [intsOf_len]; exact zs_le km
  obtain ⟨s1, s2⟩ := scoreP_sz4 (bs := ms.map intsOf) (ws := ws) (com := intsOf km) hk hw1 (by omega) hm4
  have s3 := s1.neg0
  have N0 : News h₀ L u.heap ((L + 1 + 1, oc) :: (I, oI) :: (D, W.listOf cw.toArray ep) :: (DW, LCg.lst wv) :: (DM, W.listOf (List.toArray vm) em) :: (DL, W.listOf (List.toArray vl) el) :: (ys, { cls := .type "tuple", data := .seq #[.int (scoreP (fnAt k) (ms.map intsOf) ws (intsOf km) ms.length).1 t1, .int (scoreP (fnAt k) (ms.map intsOf) ws (intsOf km) ms.length).2 t2] })
      :: (yb, { cls := .type "tuple", data := .seq #[.int (0 - (scoreP (fnAt k) (ms.map intsOf) ws (intsOf km) ms.length).1) t3, .int (scoreP (fnAt k) (ms.map intsOf) ws (intsOf km) ms.length).2 t4] }) :: (fx, instObj 182 fdx) :: (fdx, fracD l1 l2 (am c) (bm c) w1 w2 w3 w4) :: (gx, instObj 182 gdx) :: (gdx, fracD l3 l4 (al c) (bl c) w5 w6 w7 w8) :: IM) := newsSub N (by
    intro p hp
    simp only [List.mem_cons] at hp
    simp only [List.mem_cons, List.mem_append, List.not_mem_nil, or_false]
    rcases hp with h | h | h | h | h | h | h | h | h | h | h | h | h
    · exact .inr (.inr h)
    · exact .inl h
    all_goals (refine .inr (.inl ?_); first | exact h | (rw [h]; assumption)))
  clear N
  by_cases hin : c ∈ zsOf km
  · w_on
    w_strict (k_steps)
    unfold Hold
    rename Fr _ _ _ _ => F2
    rename News _ _ _ _ => N2
    rename Obj.data _ = Data.cell (some (Value.int _ _)) => d3
    rename Obj => o'
    have cc := (N2 _ (.head _)).1
    dsimp only at cc
    have X3 := X.keeps F2.keep
    have T3 := T.keeps F2.keep
    refine comp_list (ns := intsOf km) (pz := fun d => d != (c : Int)) (fz := fun d => d) rfl F2 N2 (listN N2 (.tail _ (.tail _ (.head _)))) iw (by omega) ?_ ?_ ?_
    · intro C d td s₃ m₃ E' hcm F3 e5
      have N3 := newsNil F3
      refine wpAny_tests_one ?_
      w_strict (k_steps)
      all_goals first | exact keeps_refl _ | exact keeps_tok _ _
    · intro C d td s₃ m₃ E' hcm F3 e5
      have N3 := newsNil F3
      w_strict (k_steps)
      all_goals first | exact ⟨_, rfl⟩ | exact keeps_refl _ | exact keeps_tok _ _
    · intro D₂ h₃ tk₃ cw₂ ep₂ F3 N3 nD2 nn kk iw2
      have ex := allNe_of nD2
      simp only [AllNe, and_true] at ex
      rw [List.map_id'] at iw2
      clear X3 T3 cc
      w_strict (k_steps)
      unfold Hold
      rename Fr _ _ _ _ => F4
      rename News _ _ _ _ => N4
      have hcl : ((intsOf km).filter fun d => d != (c : Int)).length ≤ 6 := Nat.le_trans (List.length_filter_le _ _) (by omega)
      refine score_k F4 N4 X T (hA'.le (by decide)) hk (BI.is fun p hp => (N4 p (by simp [hp])).1) (listG N4 (by k_mem)) hwi (listN N4 (.head _)) iw2 (by simp; omega) (by simp; omega) hcl hw1 ?_
      intro yr u1 u2 h₄ tk₄ F5 N5 ne5
      rw [List.length_map] at N5
      have ex5 := allNe_of ne5
      simp only [AllNe, and_true] at ex5
      obtain ⟨z1, z2⟩ := scoreP_sz4 (bs := ms.map intsOf) (ws := ws) hk hw1 hcl hm4
      have z3 := z1.neg0
      clear F4 N4
      w_strict (k_steps)
      unfold Hold
      rename Fr _ _ _ _ => F6
      rename News _ _ _ _ => N6
      have hMc := hM c hc
      rw [addT, if_pos hin] at hMc
      refine is_k F6 N6 X T (hA'.le (by decide)) (n := am c) (d := bm c) (fracOfNews N6 (by k_mem) (by k_mem)) hb0 (pairOfNews N6 (.head _)) za zb (show Sz 2 (0 - 1) by unfold Sz; decide) (show Sz 2 1 by unfold Sz; decide) (by omega) (by simpa using hMc) ?_
      intro h₆ tk₆ F7 N7
      clear F6 N6
      w_strict (k_steps)
      unfold Hold
      rename Fr _ _ _ _ => F6
      rename News _ _ _ _ => N6
      refine is_k F6 N6 X T (hA'.le (by decide)) (n := al c) (d := bl c) (fracOfNews N6 (by k_mem) (by k_mem)) hg0 (pairOfNews N6 (.head _)) zc zd (((s1.mul z2).add (z3.mul s2)).mono (show _ ≤ 2100 by omega)) ((s2.mul z2).mono (show _ ≤ 2100 by omega)) (by omega) (law_rem_ok k hin hk5 hms (hL1 c hin)) ?_
      intro h₆ tk₆ F7 N7
      clear F6 N6
      w_strict (k_steps)
      rename Fr _ _ _ _ => F6
      rename News _ _ _ _ => N6
      refine ⟨rfl, _, _, _, [(L + 1 + 1, o')], rfl, F6, newsSub N6 ?sub, ?ne, o', _, rfl, d3, ⟨a1, a2, a3, a4, a5, a6⟩, ⟨b1, b2, b3⟩, ⟨c1, c2, c3⟩⟩
      case sub => ((first | (((try dsimp only [List.cons_append, List.nil_append]); repeat' (first | exact List.forall_mem_nil _ | (refine fmc (by (first | k_mem | ((repeat (first | (with_reducible exact List.Mem.head _) | exact List.mem_append_left _ (by with_reducible assumption) | exact List.mem_append_left _ (List.Mem.head _) | (with_reducible assumption) | (refine List.Mem.tail _ ?_) | (refine List.mem_append_right _ ?_))); done))) ?_) | (refine fma ?_ ?_) | (intro p9 h9; ((repeat (first | exact h9 | exact List.mem_append_left _ h9 | exact List.mem_append_left _ (List.mem_append_left _ h9) | (refine List.Mem.tail _ ?_) | (refine List.mem_append_right _ ?_))); done)))); done) | (intro p9 h9; simp only [List.mem_append, List.mem_cons, List.not_mem_nil, or_false] at h9 ⊢; grind)))
      case ne => (intro q hq; rw [List.mem_singleton.mp hq]; exact nI)
  · have hout : c < 5 ∧ c ∉ zsOf km := ⟨by omega, hin⟩
    w_on
    w_strict (k_steps)
    unfold Hold
    rename Fr _ _ _ _ => F2
    rename News _ _ _ _ => N2
    rename IntsAre _ (intsOf km ++ _) => iw2
    have hcl : (intsOf km ++ [(c : Int)]).length ≤ 6 := by rw [List.length_append, List.length_singleton]; omega
    refine score_k F2 N2 X T (hA'.le (by decide)) hk (BI.is fun p hp => (N2 p (by simp [hp])).1) (listG N2 (by k_mem)) hwi (listN N2 (.head _)) iw2 (by simp; omega) (by simp; omega) hcl hw1 ?_
    intro yr u1 u2 h₄ tk₄ F5 N5 ne5
    rw [List.length_map] at N5
    have ex5 := allNe_of ne5
    simp only [AllNe, and_true] at ex5
    obtain ⟨z1, z2⟩ := scoreP_sz4 (bs := ms.map intsOf) (ws := ws) hk hw1 hcl hm4
    clear F2 N2
    w_strict (k_steps)
    unfold Hold
    rename Fr _ _ _ _ => F6
    rename News _ _ _ _ => N6
    have hMc := hM c hc
    rw [addT, if_neg hin] at hMc
    refine is_k F6 N6 X T (hA'.le (by decide)) (n := am c) (d := bm c) (fracOfNews N6 (by k_mem) (by k_mem)) hb0 (pairOfNews N6 (.head _)) za zb (((z1.mul s2).add (s3.mul z2)).mono (show _ ≤ 2100 by omega)) ((z2.mul s2).mono (show _ ≤ 2100 by omega)) (by omega) (law_add_ok k hout.1 hk5 hms hMc) ?_
    intro h₆ tk₆ F7 N7
    clear F6 N6
    rename Obj.data _ = Data.cell (some (Value.int _ _)) => d3
    rename Obj => o'
    w_strict (k_steps)
    unfold Hold
    rename Fr _ _ _ _ => F6
    rename News _ _ _ _ => N6
    have N8 : News h₀ L _ (IM ++ [(L + 1 + 1, o'), (I, oI)]) := newsSub N6 (by (first | (((try dsimp only [List.cons_append, List.nil_append]); repeat' (first | exact List.forall_mem_nil _ | (refine fmc (by (first | k_mem | ((repeat (first | (with_reducible exact List.Mem.head _) | exact List.mem_append_left _ (by with_reducible assumption) | exact List.mem_append_left _ (List.Mem.head _) | (with_reducible assumption) | (refine List.Mem.tail _ ?_) | (refine List.mem_append_right _ ?_))); done))) ?_) | (refine fma ?_ ?_) | (intro p9 h9; ((repeat (first | exact h9 | exact List.mem_append_left _ h9 | exact List.mem_append_left _ (List.mem_append_left _ h9) | (refine List.Mem.tail _ ?_) | (refine List.mem_append_right _ ?_))); done)))); done) | (intro p9 h9; simp only [List.mem_append, List.mem_cons, List.not_mem_nil, or_false] at h9 ⊢; grind)))
    refine for_list (fix := IM) (news := [(L + 1 + 1, o'), (I, oI)]) rfl F6 N8 (fun h _ N => listN N mD) (fun j m₁ news₁ => news₁ = [(L + 1 + 1, o'), (I, oI)] ∧ MA m₁ vc (.ref lb) (.ref DW) (.ref D) vp vn ∧ MB m₁ (.str (nameAt k) tn) (.ref ys) vg ∧ MC m₁ (.ref DM) (.ref DL) (.ref yb)) ⟨rfl, ⟨a1, a2, a3, a4, a5, a6⟩, ⟨b1, b2, b3⟩, ⟨c1, c2, c3⟩⟩ ?_ ?_
    · rintro j v m₁ _ h₅ tk₅ I₂ oI₂ hv hJ99 F9 N9 hn9
      refine Classical.byContradiction fun hg9 => ?_
      (refine an_4 (hJ99) ?_; intro r90 A1 B1 C1; (try clear hJ99))
      subst r90
      refine hg9 ?_
      clear hg9
      refine Classical.byContradiction fun hg9 => ?_
      (refine xa_2_2 (zs_at iw hv) ?_; intro z tz hz r93)
      subst r93
      refine hg9 ?_
      clear hg9
      have hzm := List.mem_of_getElem? hz
      exact law_d rfl rfl rfl rfl rfl X T hA' h5 hc (hkn z hzm) hvl fL mL (hL2 c hc hin z hzm) A1 B1 C1 (.head _) d3 rfl F9 N9 hn9
    · rintro m₁ _ h₅ tk₅ hJ94 F9 N9
      refine Classical.byContradiction fun hg9 => ?_
      (refine an_4 (hJ94) ?_; intro r90 A1 B1 C1; (try clear hJ94))
      subst r90
      refine hg9 ?_
      clear hg9
      clear F6 N6 N8 a1 a2 a3 a4 a5 a6 b1 b2 b3 c1 c2 c3
      w_strict (k_steps)
      refine ⟨rfl, _, _, _, [(L + 1 + 1, o')], rfl, F9, newsSub N9 ?sub, ?ne, o', _, rfl, d3, A1, B1, C1⟩
      case sub => ((first | (((try dsimp only [List.cons_append, List.nil_append]); repeat' (first | exact List.forall_mem_nil _ | (refine fmc (by (first | k_mem | ((repeat (first | (with_reducible exact List.Mem.head _) | exact List.mem_append_left _ (by with_reducible assumption) | exact List.mem_append_left _ (List.Mem.head _) | (with_reducible assumption) | (refine List.Mem.tail _ ?_) | (refine List.mem_append_right _ ?_))); done))) ?_) | (refine fma ?_ ?_) | (intro p9 h9; ((repeat (first | exact h9 | exact List.mem_append_left _ h9 | exact List.mem_append_left _ (List.mem_append_left _ h9) | (refine List.Mem.tail _ ?_) | (refine List.mem_append_right _ ?_))); done)))); done) | (intro p9 h9; simp only [List.mem_append, List.mem_cons, List.not_mem_nil, or_false] at h9 ⊢; grind)))
      case ne => (intro q hq; rw [List.mem_singleton.mp hq]; exact nI)
end
end
section
theorem words44 : True := by
  k_with_none
  (k_with "ite" => (first | (refine ite_pos (by ((try simp only [beq_iff_eq, bne_iff_ne, decide_eq_true_eq, Bool.not_eq_true', decide_eq_false_iff_not, beq_eq_false_iff_ne, ne_eq]); omega)) ?_) | (refine ite_neg (by ((try simp only [beq_iff_eq, bne_iff_ne, decide_eq_true_eq, Bool.not_eq_true', decide_eq_false_iff_not, beq_eq_false_iff_ne, ne_eq]); omega)) ?_)))
  (k_with "binaryOp FloorDiv int int" => ((k_dflt (refine' floordiv_int ?h1_q ?_ (Or.inl (PyProof.noPylong_of_log2 ?h2_q)); (case h1_q => omega); (case h2_q => first | assumption | exact Sz.log (by assumption))))))
  (k_with "binaryOp Mult int int" => ((k_dflt (refine' mul_int ?_ ?hm_q; (case hm_q => exact Sz.ok (by with_reducible assumption) (by with_reducible assumption) (by omega))))))
  (k_with "call ref" => (((with_reducible show wpAny _ _ (call (Value.ref 182) [Value.int _ _, Value.int _ _]) _ _ _); k_dflt (refine' frac_k ?F_q ?N_q ?X_q ?T_q ?A_q ?b_q ?z_q ?k_q ?_; (case F_q => k_asm); (case N_q => k_asm); (case X_q => k_asm); (case T_q => k_asm); (case A_q => exact Room.le (by assumption) (by decide)); (case b_q => first | assumption | omega | (exact Int.mul_pos (by assumption) (by assumption))); (case z_q => first | assumption | exact Sz.mul (by assumption) (by assumption)); (case k_q => omega)); intro _ _ _ _ _ _ _ _ _ _ _ _ _ _ _ _ _ _ _ _ _)))
  (k_with "binaryOp Pow int int" => ((k_dflt (refine' pow_int_small ?h1_q ?h2_q ?h3_q ?_; (case h1_q => omega); (case h2_q => omega); (case h3_q => omega)))))
  (k_with "call ref" => (((with_reducible show wpAny _ _ (call (Value.ref 182) [Value.int _ _]) _ _ _); k_dflt (refine' frac1_k ?F_q ?N_q ?X_q ?T_q ?A_q ?_; (case F_q => k_asm); (case N_q => k_asm); (case X_q => k_asm); (case T_q => k_asm); (case A_q => exact Room.le (by assumption) (by decide))); intro _ _ _ _ _ _ _ _ _ _ _ _ _ _ _)))
  (k_with "eval Name" => ((k_dflt (first | (refine' nmL ?F_q ?e_q ?v_q ?_ ?a_q ?b_q ?d_q; (case F_q => with_reducible assumption); (case e_q => exact rfl); (case v_q => first | with_reducible assumption | ((try dsimp only); first | exact (if_neg (by decide)).trans (by with_reducible assumption) | exact (if_neg (by decide)).trans ((if_neg (by decide)).trans (by with_reducible assumption)) | exact (if_neg (by decide)).trans ((if_neg (by decide)).trans ((if_neg (by decide)).trans (by with_reducible assumption)))) | exact rfl); (case a_q => exact rfl); (case b_q => exact rfl); (case d_q => decide); k_whole) | (refine' nmC ?F_q ?c_q ?o_q ?d_q ?_ ?a_q ?b_q ?g_q; (case F_q => with_reducible assumption); (case a_q => exact rfl); (case b_q => exact rfl); (case c_q => exact rfl); (case o_q => with_reducible assumption); (case d_q => with_reducible assumption); (case g_q => decide); k_whole) | (refine' nameG_K ?F_q ?X_q ?T_q ?e_q ?_ ?g_q ?a_q ?b_q ?d_q; (case F_q => with_reducible assumption); (case X_q => k_asm); (case T_q => k_asm); (case a_q => exact rfl); (case b_q => exact rfl); (case e_q => k_is); (case g_q => exact rfl); (case d_q => decide); k_whole) | (refine' nmB ?F_q ?X_q ?T_q ?e_q ?v_q ?n_q ?_ ?g_q ?h_q ?a_q ?b_q ?d_q; (case F_q => with_reducible assumption); (case X_q => k_asm); (case T_q => k_asm); (case a_q => exact rfl); (case b_q => exact rfl); (case e_q => k_is); (case v_q => boot_fast); (case n_q => decide); (case g_q => exact rfl); (case h_q => exact rfl); (case d_q => decide); k_whole)))))
  (k_with "call ref" => (((with_reducible show wpAny _ _ (call (Value.ref 492) [Value.ref _, Value.int _ _]) _ _ _); k_dflt (refine' liftI ?F_q ?N_q ?X_q ?T_q (cellZ _ _) (fun R hR => cell_code ⟨Frag.In.keeps (by k_asm) (Fr.keep (by k_asm)), _, _, _, _, _, Top.keeps (by k_asm) (Fr.keep (by k_asm))⟩ (Room.le (by assumption) (by decide)) (stays_list (Fr.keep (by with_reducible assumption)) (by with_reducible assumption)) (by with_reducible assumption) (by with_reducible assumption) (by omega) (by omega) hR) ?_; (case F_q => k_asm); (case N_q => k_asm); (case X_q => k_asm); (case T_q => k_asm)); intro _ _ _ _ _ _)))
  (k_with "exec For" => ((with_unfolding_all refine for_at ?_)))
  (k_with "pyIter ref" => (first | (with_reducible refine hold_pyF ?_) | (with_reducible refine hold_pyC ?_)))
  (k_with "call builtin:len" => (((with_reducible show wpAny _ _ (call (Value.builtin "len") [Value.ref _]) _ _ _); k_dflt (refine' len_old ?F_q ?l_q ?f_q ?_; (case F_q => with_reducible assumption); (case l_q => with_reducible assumption); (case f_q => omega)))))
  (k_with "subscriptTail Name Name ref int" => (((with_reducible show wpAny _ _ (subscriptTail _ _ (Value.ref _) (Value.int _ _)) _ _ _); k_dflt (refine' item_at ?l_q ?a_q ?b_q ?x_q ?_ ?s_q; (case l_q => with_reducible assumption); (case x_q => with_reducible assumption); (case a_q => omega); (case b_q => omega); (case s_q => with_unfolding_all rfl)))))
  (k_with "compareOp In int ref" => ((k_dflt (refine' in_list_ints ?l_q ?i_q ?_; (case l_q => with_reducible assumption); (case i_q => with_reducible assumption)))))
  (k_with "call builtin:len" => (((with_reducible show wpAny _ _ (call (Value.builtin "len") [Value.ref _]) _ _ _); k_dflt (refine' len_cur ?l_q ?f_q ?_; (case l_q => with_reducible assumption); (case f_q => omega)))))
  (k_with "exec For Name Call cons nil" => ((with_unfolding_all refine for_at ?_)))
  (k_with "exec For Name Name cons nil" => ((with_unfolding_all refine for_at ?_)))
  (k_with "call ref" => (((with_reducible show wpAny _ _ (call (Value.ref 511) [Value.str (nameAt _) _, Value.int _ _]) _ _ _); k_dflt (refine' liftPair ?F_q ?N_q ?X_q ?T_q (gN (fnAt _) _) (gD (fnAt _) _) (fun R hR => gain_code ⟨Frag.In.keeps (by k_asm) (Fr.keep (by k_asm)), _, _, _, _, _, Top.keeps (by k_asm) (Fr.keep (by k_asm))⟩ (Room.le (by assumption) (by decide)) (by assumption) (by omega) (by omega) hR) ?_; (case F_q => k_asm); (case N_q => k_asm); (case X_q => k_asm); (case T_q => k_asm)); intro _ _ _ _ _ _ _ l9q; replace l9q := allNe_of l9q; simp only [AllNe, and_true] at l9q)))
  (k_with "call ref" => (((with_reducible show wpAny _ _ (call (Value.ref 518) [Value.ref _, Value.ref _]) _ _ _); k_dflt (refine' liftPair ?F_q ?N_q ?X_q ?T_q _ _ (fun R hR => add_code ⟨Frag.In.keeps (by k_asm) (Fr.keep (by k_asm)), _, _, _, _, _, Top.keeps (by k_asm) (Fr.keep (by k_asm))⟩ (Room.le (by assumption) (by decide)) (pairOfNews (by k_asm) (by k_mem)) (pairOfNews (by k_asm) (by k_mem)) (by with_reducible assumption) (by with_reducible assumption) (by with_reducible assumption) (by with_reducible assumption) (by omega) hR) ?_; (case F_q => k_asm); (case N_q => k_asm); (case X_q => k_asm); (case T_q => k_asm)); intro _ _ _ _ _ _ _ l9q; replace l9q := allNe_of l9q; simp only [AllNe, and_true] at l9q)))
  (k_with "getMethod ref" => (((with_reducible show wpAny _ _ (getMethod (Value.ref _) (PySem.Str.ofString "intersection") _) _ _ _); k_dflt (refine' getMethod_inter (Fr.keep ?F_q _ _ ?o_q) ?s_q ?_; (case F_q => k_asm); (case o_q => with_reducible assumption); (case s_q => with_reducible assumption)))))
  (k_with "call builtin:set.intersection" => (((with_reducible show wpAny _ _ (call (Value.builtin "set.intersection") _) _ _ _); (k_dflt (show wpAny _ _ (call (Value.builtin "set.intersection") [Value.ref _, Value.ref _]) _ _ _)); k_dflt (refine' inter_list_k ?F_q ?N_q rfl (Fr.keep ?F2_q _ _ ?o_q) ?s_q (stays_list (Fr.keep ?F3_q) ?l_q) ?i_q ?n_q ?_; (case F_q => k_asm); (case N_q => k_asm); (case F2_q => k_asm); (case F3_q => k_asm); (case o_q => with_reducible assumption); (case s_q => with_reducible assumption); (case l_q => with_reducible assumption); (case i_q => with_reducible assumption); (case n_q => with_reducible assumption)); intro _ _ _ _ _ _ l9q _; replace l9q := allNe_of l9q; simp only [AllNe, and_true] at l9q)))
  (k_with "exec For Name Attribute cons nil" => ((with_unfolding_all refine for_at ?_)))
  (k_with "getItem ref int" => ((k_dflt (refine' getItem_k ?N_q ?m_q ?a_q ?b_q ?x_q ?_; (case N_q => k_asm); (case m_q => k_mem); (case a_q => omega); (case b_q => omega); (case x_q => with_reducible assumption)))))
  (k_with "setItem ref int" => ((refine hold ?_)))
  (k_with "call ref" => (((with_reducible show wpAny _ _ (call (Value.ref 308) [Value.ref _, Value.int _ _]) _ _ _); refine hold ?_)))
  (k_with "call ref" => (((with_reducible show wpAny _ _ (call (Value.ref 530) [Value.ref _, Value.ref _]) _ _ _); refine hold ?_)))
  (k_with "call ref" => (((with_reducible show wpAny _ _ (call (Value.ref 523) [Value.str _ _, Value.ref _, Value.ref _, Value.ref _]) _ _ _); refine hold ?_)))
  (k_with "call ref" => (((with_reducible show wpAny _ _ (call (Value.ref 252) [Value.str _ _, Value.ref _, Value.ref _]) _ _ _); refine hold ?_)))
  (k_with "call ref" => (((with_reducible show wpAny _ _ (call (Value.ref 245) [Value.str _ _]) _ _ _); refine hold ?_)))
  (k_with "call ref" => (((with_reducible show wpAny _ _ (call (Value.ref 315) [Value.ref _, Value.ref _, Value.ref _]) _ _ _); refine hold ?_)))
  (k_with "call ref" => (((with_reducible show wpAny _ _ (call (Value.ref 322) [Value.ref _, Value.ref _, Value.ref _]) _ _ _); refine hold ?_)))
  (k_with "call type:set cons nil" => (((with_reducible show wpAny _ _ (call (Value.type "set") [Value.ref _]) _ _ _); refine hold ?_)))
  (k_with "eval ListComp Name cons" => ((k_dflt (refine' comp_at _ ?c1_q ?c2_q ?c3_q ?c4_q ?c5_q ?_ ?c6_q; (case c1_q => with_unfolding_all rfl); (case c2_q => decide); (case c3_q => exact rfl); (case c4_q => decide); (case c5_q => exact rfl); (case c6_q => (intro _; exact rfl))))))
  (k_with "compareOp In int ref" => ((k_dflt (first | (refine' inL_t ?N_q ?m_q ?i_q ?b_q ?_; (case N_q => k_asm); (case m_q => k_mem); (case i_q => with_reducible assumption); (case b_q => with_reducible assumption)) | (refine' inL_f ?N_q ?m_q ?i_q ?b_q ?_; (case N_q => k_asm); (case m_q => k_mem); (case i_q => with_reducible assumption); (case b_q => with_reducible assumption))))))
  (k_with "subscriptTail Name Name ref int" => (((with_reducible show wpAny _ _ (subscriptTail _ _ (Value.ref _) (Value.int _ _)) _ _ _); k_dflt (refine' item_at ?l_q ?a_q ?b_q ?x_q ?_ ?s_q; (case l_q => exact listN (by k_asm) (by k_mem)); (case x_q => with_reducible assumption); (case a_q => omega); (case b_q => omega); (case s_q => with_unfolding_all rfl)))))
  (k_with "subscriptTail Name BinOp ref int" => (((with_reducible show wpAny _ _ (subscriptTail _ _ (Value.ref _) (Value.int _ _)) _ _ _); k_dflt (refine' item_at ?l_q ?a_q ?b_q ?x_q ?_ ?s_q; (case l_q => exact listN (by k_asm) (by k_mem)); (case x_q => with_reducible assumption); (case a_q => omega); (case b_q => omega); (case s_q => with_unfolding_all rfl)))))
  (k_with "call builtin:len" => (((with_reducible show wpAny _ _ (call (Value.builtin "len") [Value.ref _]) _ _ _); k_dflt (refine' len_cur ?l_q ?f_q ?_; (case l_q => exact listN (by k_asm) (by k_mem)); (case f_q => omega)))))
  (k_with "call type:list cons nil" => (((with_reducible show wpAny _ _ (call (Value.type "list") [Value.ref _]) _ _ _); k_dflt (refine' listcp_k ?F_q ?N_q ?b_q ?i_q ?n_q ?_; (case F_q => k_asm); (case N_q => k_asm); (case b_q => k_mem); (case i_q => with_reducible assumption); (case n_q => omega)); intro _ _ _ _ _)))
  (k_with "getAttr ref true" => (((with_reducible show wpAny _ _ (getAttr (Value.ref _) (PySem.Str.ofString "num_cand") _) _ _ _); k_dflt (refine' get_prop ?k1_q ?k2_q ?k3_q ?k4_q ?k5_q ?k6_q ?k7_q ?k8_q ?k9_q ?_; (case k1_q => k_asm); (case k2_q => k_asm); (case k3_q => k_inst); (case k4_q => k_is); (case k5_q => k_is); (case k6_q => k_is); (case k7_q => k_is); (case k8_q => k_is); (case k9_q => k_is); k_whole); k_dflt (refine' numcand_k ?F_q ?N_q ?X_q ?T_q ?A_q (ProfAt.keep ?P_q ?K_q) ?h_q ?_; (case F_q => k_asm); (case N_q => k_asm); (case X_q => k_asm); (case T_q => k_asm); (case A_q => exact Room.le (by assumption) (by decide)); (case P_q => with_reducible assumption); (case K_q => exact Fr.keep (by k_asm)); (case h_q => with_reducible assumption)); intro _ _ _ _ _)))
  (k_with "call ref" => (((with_reducible show wpAny _ _ (call (Value.ref 481) [Value.ref _] _) _ _ _); (k_dflt (show wpAny _ _ (call (Value.ref 481) [Value.ref _] [(Str.ofString "weight", Value.int _ _)]) _ _ _)); k_dflt (refine' voter_k ?F_q ?N_q ?X_q ?T_q ?C_q ?U_q ?t_q ?B_q (fun G9 R hR => voter_list_code G9 (Room.le (by assumption) (by decide)) ?l_q ?i_q ?n_q ?w_q hR) ?_; (case F_q => k_asm); (case N_q => k_asm); (case X_q => k_asm); (case T_q => k_asm); (case C_q => k_asm); (case U_q => k_updF); (case t_q => with_reducible assumption); (case B_q => with_reducible assumption); (case l_q => exact stays_list (Fr.keep (by k_asm)) (by with_reducible assumption)); (case i_q => with_reducible assumption); (case n_q => omega); (case w_q => with_reducible assumption)); intro _ _ _ _ _ _ _ _ _ _ _ _ N9q lx9q ly9q lz9q _ _ _ _ _ _ _; (try dsimp only at N9q lx9q ly9q lz9q); replace lx9q := allNe_of lx9q; replace ly9q := allNe_of ly9q; replace lz9q := allNe_of lz9q; simp only [AllNe, and_true] at lx9q ly9q lz9q)))
  (k_with "call ref" => (((with_reducible show wpAny _ _ (call (Value.ref 481) [Value.ref _] _) _ _ _); (k_dflt (show wpAny _ _ (call (Value.ref 481) [Value.ref _] [(Str.ofString "weight", Value.int _ _), (Str.ofString "num_cand", Value.int _ _)]) _ _ _)); k_dflt (refine' voter_k ?F_q ?N_q ?X_q ?T_q ?C_q ?U_q ?t_q ?B_q (fun G9 R hR => voter_set_code G9 (Room.le (by assumption) (by decide)) ?l_q ?i_q ?n_q ?w_q hR) ?_; (case F_q => k_asm); (case N_q => k_asm); (case X_q => k_asm); (case T_q => k_asm); (case C_q => k_asm); (case U_q => k_updF); (case t_q => with_reducible assumption); (case B_q => with_reducible assumption); (case l_q => exact Fr.keep (by k_asm) _ _ (by with_reducible assumption)); (case i_q => with_reducible assumption); (case n_q => with_reducible assumption); (case w_q => with_reducible assumption)); intro _ _ _ _ _ _ _ _ _ _ _ _ N9q lx9q ly9q lz9q _ _ _ _ _ _ _; (try dsimp only at N9q lx9q ly9q lz9q); replace lx9q := allNe_of lx9q; replace ly9q := allNe_of ly9q; replace lz9q := allNe_of lz9q; simp only [AllNe, and_true] at lx9q ly9q lz9q)))
  trivial
section
theorem law_k2 {prog : Program} {w : World} {dp un : Nat} {fr : Option (List Env)} {gd : Option (List Code)} {s₀ u : Shared} {h₀ : Heap} {L I : Addr} {oI : Obj} {m mg mb : Str → Option Value} {p : Program} {loose : List Str} {mean : ExcName → Option Value}
    {sc : Scope} {cdv : Value} {sts b b2 : List Stmt} {t : PySem.Expr} (h : defParts (hd.heap_1 w.params) 542 = some (sc, cdv, sts)) (h2 : nthFor 0 sts = some (t, b)) (h6 : b.drop 6 = b2)
    (X : (hd.heap_1 w.params).In h₀) (T : Top p loose mean mg mb h₀) (hA' : Room (mkA dp un fr gd) 29) {k nc km ep : Nat} (hk : k < 11) (h1 : 1 ≤ nc) (h5 : nc ≤ 5) {IM : List (Addr × Obj)} {lb DW D x ys gf dg : Addr} {vn : Value} {tn t1 t2 g1 g2 g3 : Tok} {hs1 hs2 : Int} {pv : Value} {ms : List Nat} {ws : List Int} {wv cw : List Value} {tnc : Tok}
    (BI : BallotsIn IM lb (ms.map intsOf)) (mW : (DW, LCg.lst wv) ∈ IM) (hwi : IntsAre wv ws) (mD : (D, W.listOf cw.toArray ep) ∈ IM) (iw : IntsAre cw (intsOf km)) (hk5 : km < 32) (hkn : ∀ z ∈ zsOf km, z < nc)
    (PI : ProfIn w IM x nc ms ws) (hmw : ms.length = ws.length) (hm4 : ms.length ≤ 4) (hms : ∀ m ∈ ms, m < 32 ∧ ∀ z ∈ zsOf m, z < nc) (hw1 : ∀ x ∈ ws, 1 ≤ x ∧ x ≤ 1000)
    (M2 : MB m (.str (nameAt k) tn) (.ref ys) (.ref gf)) (fp : FnParam (fnAt k) pv) (M1 : MA m (.int (nc : Int) tnc) (.ref lb) (.ref DW) (.ref D) (.ref x) vn) {oc : Obj} {cx : Option Value} (dc : oc.data = .cell cx) (kc : ∀ p ∈ IM, p.1 ≠ L + 1 + 1) (ho : u.os = s₀.os) (hb : AllBare u.gens)
    (F : Fr h₀ L u.heap m) (N : News h₀ L u.heap ((ys, { cls := .type "tuple", data := .seq #[.int (scoreP (fnAt k) (ms.map intsOf) ws (intsOf km) ms.length).1 t1, .int (scoreP (fnAt k) (ms.map intsOf) ws (intsOf km) ms.length).2 t2] }) :: (gf, instObj 233 dg) :: (dg, dictOf [⟨hs1, .str (Str.ofString "name") g1, .str (fnName (fnAt k)) g2⟩, ⟨hs2, .str (Str.ofString "param") g3, pv⟩] 2) :: (I, oI) :: (L + 1 + 1, oc) :: (D, W.listOf cw.toArray ep) :: (DW, LCg.lst wv) :: IM)) (nI : @Ne Nat (L + 1 + 1) I) (nS : @Ne Nat ys (L + 1 + 1)) :
    wpAny (model prog w) (mkA dp un fr gd) (execs b2 (envOfC (Str.ofString "law") sc L 542 cdv))
      (FEndP h₀ L I oI IM (fun m₁ news₁ => E2 fun oc cx => A3 (news₁ = [(L + 1 + 1, oc)]) (oc.data = .cell cx) (MA m₁ (.int (nc : Int) tnc) (.ref lb) (.ref DW) (.ref D) (.ref x) vn)) s₀) (fun _ _ => False) u := by
  have e1 := h.symm.trans (rfl : defParts (hd.heap_1 w.params) 542 = some (_, _, _))
  cases e1
  have e2 := h2.symm.trans (rfl : nthFor 0 _ = some (_, _))
  cases e2
  have e6 := h6.symm.trans (rfl : List.drop 6 _ = _ :: _)
  cases e6
  clear h h2 h6
  have hc6 : (intsOf km).length ≤ 5 := by rw [intsOf_len]; exact zs_le km
  obtain ⟨a1, a2, a3, a4, a5, a6⟩ := M1
  obtain ⟨b1, b2, b3⟩ := M2
  w_on
  w_strict (k_steps)
  unfold Hold
  rename Fr _ _ _ _ => F4
  rename News _ _ _ _ => N4
  refine add_k F4 N4 X T (by exact hb) (hA'.le (by decide)) (fnOfNews N4 (by k_mem) (by k_mem) fp) (IsProfile.of PI hmw fun p hp => (N4 p (by simp [hp])).1) (listN N4 (.head _)) iw hk5 h1 h5 hm4 hms hw1 hkn ?_
  intro DM vm em im1 am bm u₁ F5 N5 ap1 hb1 ho1 hvm fM hM
  replace ho1 : u₁.os = s₀.os := ho1.trans ho
  clear F4 N4
  w_strict (k_steps)
  unfold Hold
  rename Fr _ _ _ _ => F6
  rename News _ _ _ _ => N6
  refine set_k F6 N6 rfl (listN N6 (by k_mem)) iw hk5 ?_
  intro S h₇ tk₇ oS nS7 kS F7 N7 neS sm
  have P7 : IsProfile w _ x nc ms ws := IsProfile.of PI hmw fun p hp => (N6 p (by simp [hp])).1
  clear F6
  w_strict (k_steps)
  unfold Hold
  rename Fr _ _ _ _ => F8
  rename News _ _ _ _ => N8
  refine rem_k F8 N8 X T (by exact hb1) (hA'.le (by decide)) (fnOfNews N8 (by k_mem) (by k_mem) fp) P7 kS nS7 (N8 _ (.head _)).1 sm hk5 h1 h5 hm4 hms hw1 hkn ?_
  intro DL vl el im2 al bl u₂ F9 N9 ap2 hb2 ho2 hvl fL hL1 hL2
  replace ho2 : u₂.os = s₀.os := ho2.trans ho1
  obtain ⟨IMx, hx⟩ : ∃ IMx, IMx = (DM, W.listOf (List.toArray vm) em) :: (DL, W.listOf (List.toArray vl) el) :: (ys, ({ cls := .type "tuple", data := .seq #[.int (scoreP (fnAt k) (ms.map intsOf) ws (intsOf km) ms.length).1 t1, .int (scoreP (fnAt k) (ms.map intsOf) ws (intsOf km) ms.length).2 t2] } : Obj)) :: (I, oI) :: (im1 ++ (im2 ++ IM)) := ⟨_, rfl⟩
  have sIM : ∀ p ∈ IM, p ∈ IMx := by intro p hp; rw [hx]; simp [hp]
  have s1 : ∀ p ∈ im1, p ∈ IMx := by intro p hp; rw [hx]; simp [hp]
  have s2 : ∀ p ∈ im2, p ∈ IMx := by intro p hp; rw [hx]; simp [hp]
  have mM : (DM, W.listOf (List.toArray vm) em) ∈ IMx := by rw [hx]; exact .head _
  have mL : (DL, W.listOf (List.toArray vl) el) ∈ IMx := by rw [hx]; exact .tail _ (.head _)
  have mS : (ys, ({ cls := .type "tuple", data := .seq #[.int (scoreP (fnAt k) (ms.map intsOf) ws (intsOf km) ms.length).1 t1, .int (scoreP (fnAt k) (ms.map intsOf) ws (intsOf km) ms.length).2 t2] } : Obj)) ∈ IMx := by rw [hx]; exact .tail _ (.tail _ (.head _))
  have mI : (I, oI) ∈ IMx := by rw [hx]; exact .tail _ (.tail _ (.tail _ (.head _)))
  have kcx : ∀ p ∈ IMx, p.1 ≠ L + 1 + 1 := by
    intro p hp
    rw [hx] at hp
    have e1 := ap1 (L + 1 + 1, oc) (by simp)
    have e2 := ap2 (L + 1 + 1, oc) (by simp)
    rcases List.mem_cons.mp hp with rfl | hp
    · exact e1 _ (.head _)
    rcases List.mem_cons.mp hp with rfl | hp
    · exact e2 _ (.head _)
    rcases List.mem_cons.mp hp with rfl | hp
    · exact nS
    rcases List.mem_cons.mp hp with rfl | hp
    · exact Ne.symm nI
    rcases List.mem_append.mp hp with hp | hp
    · exact e1 _ (.tail _ hp)
    rcases List.mem_append.mp hp with hp | hp
    · exact e2 _ (.tail _ hp)
    · exact kc p hp
  have N10 : News h₀ L u₂.heap ((L + 1 + 1, oc) :: (DM, W.listOf (List.toArray vm) em) :: (DL, W.listOf (List.toArray vl) el) :: (ys, { cls := .type "tuple", data := .seq #[.int (scoreP (fnAt k) (ms.map intsOf) ws (intsOf km) ms.length).1 t1, .int (scoreP (fnAt k) (ms.map intsOf) ws (intsOf km) ms.length).2 t2] }) :: IMx) := newsSub N9 (by (first | ((rw [hx]); ((try dsimp only [List.cons_append, List.nil_append]); repeat' (first | exact List.forall_mem_nil _ | (refine fmc (by (first | k_mem | ((repeat (first | (with_reducible exact List.Mem.head _) | exact List.mem_append_left _ (by with_reducible assumption) | exact List.mem_append_left _ (List.Mem.head _) | (with_reducible assumption) | (refine List.Mem.tail _ ?_) | (refine List.mem_append_right _ ?_))); done))) ?_) | (refine fma ?_ ?_) | (intro p9 h9; ((repeat (first | exact h9 | exact List.mem_append_left _ h9 | exact List.mem_append_left _ (List.mem_append_left _ h9) | (refine List.Mem.tail _ ?_) | (refine List.mem_append_right _ ?_))); done)))); done) | (intro p9 h9; rw [hx] at h9; simp only [List.mem_cons, List.mem_append] at h9 ⊢; grind)))
  clear hx ap1 ap2 N9 N8 P7 kS nS7 neS sm F8 N6
  w_strict (k_steps)
  unfold Hold
  rename IsRange _ _ _ _ _ _ _ _ => hr
  rename Fr _ _ _ _ => F6
  rename News _ _ _ _ => N6
  rename _ ∧ _ ∧ _ ∧ _ ∧ _ => lt5
  refine Classical.byContradiction fun hg9 => ?_
  (refine xa_3_2 (headPair N6) ?_; intro yb u61 u62 N7 r94)
  subst r94
  refine hg9 ?_
  clear hg9
  clear N6
  have nB : @Ne Nat yb (L + 1 + 1) := Ne.symm (Nat.ne_of_lt lt5.1)
  have N8 : News h₀ L _ (((yb, { cls := .type "tuple", data := .seq #[.int (0 - (scoreP (fnAt k) (ms.map intsOf) ws (intsOf km) ms.length).1) u61, .int (scoreP (fnAt k) (ms.map intsOf) ws (intsOf km) ms.length).2 u62] }) :: IMx) ++ [(L + 1 + 1, oc)]) := newsSub N7 (by (first | (((try dsimp only [List.cons_append, List.nil_append]); repeat' (first | exact List.forall_mem_nil _ | (refine fmc (by (first | k_mem | ((repeat (first | (with_reducible exact List.Mem.head _) | exact List.mem_append_left _ (by with_reducible assumption) | exact List.mem_append_left _ (List.Mem.head _) | (with_reducible assumption) | (refine List.Mem.tail _ ?_) | (refine List.mem_append_right _ ?_))); done))) ?_) | (refine fma ?_ ?_) | (intro p9 h9; ((repeat (first | exact h9 | exact List.mem_append_left _ h9 | exact List.mem_append_left _ (List.mem_append_left _ h9) | (refine List.Mem.tail _ ?_) | (refine List.mem_append_right _ ?_))); done)))); done) | (intro p9 h9; simp only [List.mem_append, List.mem_cons, List.not_mem_nil, or_false] at h9 ⊢; grind)))
  have kcb : ∀ p ∈ (yb, ({ cls := .type "tuple", data := .seq #[.int (0 - (scoreP (fnAt k) (ms.map intsOf) ws (intsOf km) ms.length).1) u61, .int (scoreP (fnAt k) (ms.map intsOf) ws (intsOf km) ms.length).2 u62] } : Obj)) :: IMx, p.1 ≠ L + 1 + 1 := by
    refine fmc (nB) ?_
    intro p hp
    · exact kcx p hp
  refine for_rangeN (fix := (yb, { cls := .type "tuple", data := .seq #[.int (0 - (scoreP (fnAt k) (ms.map intsOf) ws (intsOf km) ms.length).1) u61, .int (scoreP (fnAt k) (ms.map intsOf) ws (intsOf km) ms.length).2 u62] }) :: IMx) nc rfl F6 N8 hr ⟨by decide, by decide⟩ (by omega) (by omega)
    (fun i m₁ news₁ => E2 fun oc cx => A5 (news₁ = [(L + 1 + 1, oc)]) (oc.data = .cell cx) (MA m₁ (.int (nc : Int) tnc) (.ref lb) (.ref DW) (.ref D) (.ref x) vn) (MB m₁ (.str (nameAt k) tn) (.ref ys) (.ref gf)) (MC m₁ (.ref DM) (.ref DL) (.ref yb))) ⟨oc, cx, rfl, dc, ⟨a1, a2, a3, a4, a5, a6⟩, ⟨b1, b2, b3⟩, ⟨rfl, rfl, rfl⟩⟩ ?_ ?_
  · clear F6 N7 N8 hr
    rintro c tc m₁ _ h₉ tk₉ I₂ oI₂ hc hJ99 F9 N9 hn9
    refine Classical.byContradiction fun hg9 => ?_
    obtain ⟨oc', cx', r92, dc', A1, B1, C1⟩ := hJ99
    subst r92
    refine hg9 ?_
    clear hg9
    exact law_c rfl rfl rfl X T hA' hk hc h5 (BI.mono fun p hp => .tail _ (sIM p hp)) (.tail _ (sIM _ mW)) hwi (.tail _ (sIM _ mD)) iw hk5 hkn hmw hm4 (fun m hm => (hms m hm).1) hw1 (.tail _ mS) (.head _) (.tail _ mM) hvm (fM.mono (Nat.le_refl _) fun p hp => .tail _ (s1 p hp)) hM (.tail _ mL) hvl (fL.mono (Nat.le_refl _) fun p hp => .tail _ (s2 p hp)) hL1 hL2 A1 B1 C1 dc' kcb F9 N9 hn9
  · clear F6 N7 N8 hr
    rintro m₁ _ h₉ tk₉ hJ94 F9 N9
    refine Classical.byContradiction fun hg9 => ?_
    obtain ⟨oc', cx', r92, dc', A1, B1, C1⟩ := hJ94
    subst r92
    refine hg9 ?_
    clear hg9
    clear a1 a2 a3 a4 a5 a6 b1 b2 b3
    w_strict (k_steps)
    refine ⟨rfl, ho2, hb2, _, [(L + 1 + 1, oc')], F9, newsSub N9 ?sub, ?ne, oc', _, rfl, dc', A1⟩
    case sub =>
      refine fmc (List.mem_append_left _ (.tail _ mI)) ?_
      intro p9 h9
      rcases List.mem_append.mp h9 with h9 | h9
      · exact List.mem_append_left _ (.tail _ (sIM _ h9))
      · exact List.mem_append_right _ h9
    case ne => (intro q hq; rw [List.mem_singleton.mp hq]; exact nI)
end
theorem words45 : True := by
  (k_with "subscriptTail Name BinOp ref int" => ((refine hold ?_)))
  trivial
section
theorem law_k {prog : Program} {w : World} {dp un : Nat} {fr : Option (List Env)} {gd : Option (List Code)} {s₀ u : Shared} {h₀ : Heap} {L I : Addr} {oI : Obj} {m mg mb : Str → Option Value} {p : Program} {loose : List Str} {mean : ExcName → Option Value}
    {sc : Scope} {cdv : Value} {sts b : List Stmt} {t : PySem.Expr} (h : defParts (hd.heap_1 w.params) 542 = some (sc, cdv, sts)) (h2 : nthFor 0 sts = some (t, b))
    (X : (hd.heap_1 w.params).In h₀) (T : Top p loose mean mg mb h₀) (hA' : Room (mkA dp un fr gd) 29) {i nc km ep en : Nat} (hi3 : i < 3) (h1 : 1 ≤ nc) (h5 : nc ≤ 5) {IM : List (Addr × Obj)} {l lb DW D x ln : Addr} {vs nv : List Value} {ns : List Int} {ms : List Nat} {ws : List Int} {wv cw : List Value} {ti tnc : Tok}
    (hl : h₀.IsList l vs.toArray) (hiN : IntsAre vs ns) (hnN : ns.length < 2 ^ 62) {o2 : Obj} (m2 : (L + 1, o2) ∈ IM) (d2b : o2.data = .cell (some (.ref l)))
    (mN : (ln, W.listOf nv.toArray en) ∈ IM) (hnm : ∀ k, k < 11 → ∃ t, nv[k]? = some (.str (nameAt k) t))
    (BI : BallotsIn IM lb (ms.map intsOf)) (mW : (DW, LCg.lst wv) ∈ IM) (hwi : IntsAre wv ws) (mD : (D, W.listOf cw.toArray ep) ∈ IM) (iw : IntsAre cw (intsOf km)) (hk5 : km < 32) (hkn : ∀ z ∈ zsOf km, z < nc)
    (PI : ProfIn w IM x nc ms ws) (hmw : ms.length = ws.length) (hm4 : ms.length ≤ 4) (hms : ∀ m ∈ ms, m < 32 ∧ ∀ z ∈ zsOf m, z < nc) (hw1 : ∀ x ∈ ws, 1 ≤ x ∧ x ≤ 1000)
    (M1 : MA m (.int (nc : Int) tnc) (.ref lb) (.ref DW) (.ref D) (.ref x) (.ref ln)) {oc : Obj} {cx : Option Value} (dc : oc.data = .cell cx) (kc : ∀ p ∈ IM, p.1 ≠ L + 1 + 1) (ho : u.os = s₀.os) (hb : AllBare u.gens)
    (F : Fr h₀ L u.heap m) (N : News h₀ L u.heap ((I, oI) :: (IM ++ [(L + 1 + 1, oc)]))) (hn : ∀ p ∈ IM ++ [(L + 1 + 1, oc)], p.1 ≠ I) :
    wpAny (model prog w) (mkA dp un fr gd) (assign t (envOfC (Str.ofString "law") sc L 542 cdv) (.int ((0 : Int) + (i : Int)) ti)) (fun _ s₂ => wpAny (model prog w) (mkA dp un fr gd) (execs b (envOfC (Str.ofString "law") sc L 542 cdv))
      (FEndP h₀ L I oI IM (fun m₁ news₁ => E2 fun oc cx => A3 (news₁ = [(L + 1 + 1, oc)]) (oc.data = .cell cx) (MA m₁ (.int (nc : Int) tnc) (.ref lb) (.ref DW) (.ref D) (.ref x) (.ref ln))) s₀) (fun _ _ => False) s₂) (fun _ _ => False) u := by
  have e1 := h.symm.trans (rfl : defParts (hd.heap_1 w.params) 542 = some (_, _, _))
  cases e1
  have e2 := h2.symm.trans (rfl : nthFor 0 _ = some (_, _))
  cases e2
  clear h h2
  obtain ⟨a1, a2, a3, a4, a5, a6⟩ := M1
  simp only [Int.zero_add]
  have N0 : News h₀ L u.heap ((I, oI) :: (L + 1 + 1, oc) :: (L + 1, o2) :: (ln, W.listOf nv.toArray en) :: (D, W.listOf cw.toArray ep) :: (DW, LCg.lst wv) :: IM) := newsSub N (by
    intro p hp
    simp only [List.mem_cons] at hp
    simp only [List.mem_cons, List.mem_append, List.not_mem_nil, or_false]
    rcases hp with rfl | rfl | rfl | rfl | rfl | rfl | hp <;> simp [*])
  clear N
  have c0 := cellZ_nonneg ns (k := 0) (by decide)
  obtain ⟨k, hk, ek⟩ : ∃ k : Nat, k < 11 ∧ ((cellZ ns 0).fdiv 20 + 3 * (i : Int)).fmod 11 = (k : Int) := by
    rw [Int.fmod_eq_emod_of_nonneg _ (by decide)]
    exact ⟨(((cellZ ns 0).fdiv 20 + 3 * (i : Int)) % 11).toNat, by omega, by omega⟩
  obtain ⟨tn, hnk⟩ := hnm k hk
  have hnk' : nv[((k : Nat) : Int).toNat]? = some (.str (nameAt k) tn) := by rw [Int.toNat_natCast]; exact hnk
  have hc6 : (intsOf km).length ≤ 5 := by rw [intsOf_len]; exact zs_le km
  obtain ⟨s1, s2⟩ := scoreP_sz4 (bs := ms.map intsOf) (ws := ws) (com := intsOf km) hk hw1 (by omega) hm4
  w_on
  w_strict (k_steps)
  unfold Hold
  rename News _ _ _ _ => N2
  rw [ek]
  refine item_at (listN N2 (by k_mem)) (by omega) (by omega) hnk' ?_
  w_strict (k_steps)
  w_strict (k_steps)
  unfold Hold
  rename Fr _ _ _ _ => F2
  rename News _ _ _ _ => N2
  refine score_k F2 N2 X T (hA'.le (by decide)) hk (BI.is fun p hp => (N2 p (by simp [hp])).1) (listG N2 (by k_mem)) hwi (listN N2 (by k_mem)) iw (by simp; omega) (by simp; omega) (by omega) hw1 ?_
  intro ys t1 t2 h₂ tk₂ F3 N3 ne3
  rw [List.length_map] at N3
  replace ne3 := allNe_of ne3
  simp only [AllNe, and_true] at ne3
  clear F2 N2
  w_strict (k_steps)
  unfold Hold
  rename Fr _ _ _ _ => F4
  rename News _ _ _ _ => N4
  refine thiele_k F4 N4 X T (by exact hb) (hA'.le (by decide)) hk (IsProfile.of PI hmw fun p hp => (N4 p (by simp [hp])).1) (listN N4 (.head _)) iw hk5 hm4 (fun m hm => (hms m hm).1) hw1 ?_
  intro y a b' u₂ F5 N5 hb2 ho2 hf hb0 hab za zb
  replace ho2 : u₂.os = s₀.os := ho2.trans ho
  clear F4 N4
  w_strict (k_steps)
  unfold Hold
  rename Fr _ _ _ _ => F6
  rename News _ _ _ _ => N6
  refine is_k F6 N6 X T (hA'.le (by decide)) (n := a) (d := b') hf hb0 (pairOfNews N6 (by k_mem)) za zb s1 s2 (by omega) hab ?_
  intro h₇ tk₇ F7 N7
  clear F6 N6
  w_strict (k_steps)
  unfold Hold
  rename Fr _ _ _ _ => F6
  rename News _ _ _ _ => N6
  refine gms_k F6 N6 X T (hA'.le (by decide)) hk ?_
  intro gf dg h₈ tk₈ hs1 hs2 g1 g2 g3 pv F8 N8 lt1 lt2 lt3 fp
  clear F6 N6
  w_strict (k_steps)
  unfold Hold
  rename IsRange _ _ _ _ _ _ _ _ => hr
  rename Fr _ _ _ _ => F6
  rename News _ _ _ _ => N6
  refine Classical.byContradiction fun hg9 => ?_
  (refine xa_3_2 (headPair N6) ?_; intro y6 u61 u62 N7 r94)
  subst r94
  refine hg9 ?_
  clear hg9
  clear N6
  obtain ⟨IMp, hIMp⟩ : ∃ IMp, IMp = (ys, ({ cls := .type "tuple", data := .seq #[.int (scoreP (fnAt k) (ms.map intsOf) ws (intsOf km) ms.length).1 t1, .int (scoreP (fnAt k) (ms.map intsOf) ws (intsOf km) ms.length).2 t2] } : Obj)) :: (gf, instObj 233 dg) :: (dg, dictOf [⟨hs1, .str (Str.ofString "name") g1, .str (fnName (fnAt k)) g2⟩, ⟨hs2, .str (Str.ofString "param") g3, pv⟩] 2) :: (I, oI) :: (L + 1 + 1, oc) :: (D, W.listOf cw.toArray ep) :: (DW, LCg.lst wv) :: IM := ⟨_, rfl⟩
  have nI : @Ne Nat (L + 1 + 1) I := hn (L + 1 + 1, oc) (by simp)
  have nS : @Ne Nat ys (L + 1 + 1) := Ne.symm ne3.2.1
  have N8 : News h₀ L _ ([] ++ (y6, { cls := .type "tuple", data := .seq #[.int (cumP (fnAt k) 0).1 u61, .int (cumP (fnAt k) 0).2 u62] }) :: IMp) := newsSub N7 (by (first | ((rw [hIMp]); ((try dsimp only [List.cons_append, List.nil_append]); repeat' (first | exact List.forall_mem_nil _ | (refine fmc (by (first | k_mem | ((repeat (first | (with_reducible exact List.Mem.head _) | exact List.mem_append_left _ (by with_reducible assumption) | exact List.mem_append_left _ (List.Mem.head _) | (with_reducible assumption) | (refine List.Mem.tail _ ?_) | (refine List.mem_append_right _ ?_))); done))) ?_) | (refine fma ?_ ?_) | (intro p9 h9; ((repeat (first | exact h9 | exact List.mem_append_left _ h9 | exact List.mem_append_left _ (List.mem_append_left _ h9) | (refine List.Mem.tail _ ?_) | (refine List.mem_append_right _ ?_))); done)))); done) | (intro p9 h9; rw [hIMp] at h9; simp only [List.mem_append, List.mem_cons, List.not_mem_nil, or_false, List.nil_append, cumP] at h9 ⊢; grind)))
  have hg : Said IMp fun h => IsFn h (.ref gf) (fnAt k) := fun h M => ⟨gf, dg, hs1, hs2, g1, g2, g3, pv, rfl, M (gf, instObj 233 dg) (by rw [hIMp]; exact .tail _ (.head _)), M (dg, dictOf [⟨hs1, .str (Str.ofString "name") g1, .str (fnName (fnAt k)) g2⟩, ⟨hs2, .str (Str.ofString "param") g3, pv⟩] 2) (by rw [hIMp]; exact .tail _ (.tail _ (.head _))), fp⟩
  refine for_rangeP (fix := []) 6 rfl F6 N8 (by exact hb2) hr ⟨by decide, by decide⟩ (by decide) (by decide)
    (fun i m₁ news₁ => E3 fun y t1 t2 => A4 (news₁ = (y, { cls := .type "tuple", data := .seq #[.int (cumP (fnAt k) i).1 t1, .int (cumP (fnAt k) i).2 t2] }) :: IMp) (MA m₁ (.int (nc : Int) tnc) (.ref lb) (.ref DW) (.ref D) (.ref x) (.ref ln)) (MB m₁ (.str (nameAt k) tn) (.ref ys) (.ref gf)) (m₁ (Str.ofString "summed") = some (.ref y))) ⟨y6, u61, u62, rfl, ⟨a1, a2, a3, a4, a5, a6⟩, ⟨rfl, rfl, rfl⟩, rfl⟩ ?_ ?_
  · clear F6 N7 N8 hr
    rintro i₂ t₂ m₁ _ u₃ I₂ oI₂ hi hJ98 ho3 hb3 F9 N9 hn9
    refine Classical.byContradiction fun hg9 => ?_
    obtain ⟨y, t1, t2, r93, A1, B1, e0⟩ := hJ98
    subst r93
    refine hg9 ?_
    clear hg9
    exact law_place rfl rfl rfl X T hA' hk hi hg A1 B1 e0 ho3 hb3 F9 N9 hn9
  · clear F6 N7 N8 hr
    rintro m₁ _ u₃ hJ93 ho3 hb3 F9 N9
    refine Classical.byContradiction fun hg9 => ?_
    obtain ⟨y, t1, t2, r93, A1, B1, e0⟩ := hJ93
    subst r93
    refine hg9 ?_
    clear hg9
    replace ho3 : u₃.os = s₀.os := ho3.trans ho2
    have N10 := newsSub (news' := IMp) N9 (by intro p9 h9; simp [h9])
    rw [hIMp] at N10
    dsimp only
    exact law_k2 rfl rfl rfl X T hA' hk h1 h5 BI mW (by assumption) mD (by assumption) hk5 hkn PI hmw hm4 hms hw1 B1 fp A1 dc kc ho3 hb3 F9 N10 nI nS
end
end
end
section
local macro_rules | `(tactic| k_all) => `(tactic| first | exact List.forall_mem_nil _ | with_reducible assumption | (refine' List.forall_mem_cons.mpr ⟨?a, ?b⟩; (case a => k_ne); (case b => k_all)))
theorem words46 : True := by
  k_with_none
  (k_with "ite" => (first | (refine ite_pos (by ((try simp only [beq_iff_eq, bne_iff_ne, decide_eq_true_eq, Bool.not_eq_true', decide_eq_false_iff_not, beq_eq_false_iff_ne, ne_eq]); omega)) ?_) | (refine ite_neg (by ((try simp only [beq_iff_eq, bne_iff_ne, decide_eq_true_eq, Bool.not_eq_true', decide_eq_false_iff_not, beq_eq_false_iff_ne, ne_eq]); omega)) ?_)))
  (k_with "binaryOp FloorDiv int int" => ((k_dflt (refine' floordiv_int ?h1_q ?_ (Or.inl (PyProof.noPylong_of_log2 ?h2_q)); (case h1_q => omega); (case h2_q => first | assumption | exact Sz.log (by assumption))))))
  (k_with "binaryOp Mult int int" => ((k_dflt (refine' mul_int ?_ ?hm_q; (case hm_q => exact Sz.ok (by with_reducible assumption) (by with_reducible assumption) (by omega))))))
  (k_with "call ref" => (((with_reducible show wpAny _ _ (call (Value.ref 182) [Value.int _ _, Value.int _ _]) _ _ _); k_dflt (refine' frac_k ?F_q ?N_q ?X_q ?T_q ?A_q ?b_q ?z_q ?k_q ?_; (case F_q => k_asm); (case N_q => k_asm); (case X_q => k_asm); (case T_q => k_asm); (case A_q => exact Room.le (by assumption) (by decide)); (case b_q => first | assumption | omega | (exact Int.mul_pos (by assumption) (by assumption))); (case z_q => first | assumption | exact Sz.mul (by assumption) (by assumption)); (case k_q => omega)); intro _ _ _ _ _ _ _ _ _ _ _ _ _ _ _ _ _ _ _ _ _)))
  (k_with "binaryOp Pow int int" => ((k_dflt (refine' pow_int_small ?h1_q ?h2_q ?h3_q ?_; (case h1_q => omega); (case h2_q => omega); (case h3_q => omega)))))
  (k_with "call ref" => (((with_reducible show wpAny _ _ (call (Value.ref 182) [Value.int _ _]) _ _ _); k_dflt (refine' frac1_k ?F_q ?N_q ?X_q ?T_q ?A_q ?_; (case F_q => k_asm); (case N_q => k_asm); (case X_q => k_asm); (case T_q => k_asm); (case A_q => exact Room.le (by assumption) (by decide))); intro _ _ _ _ _ _ _ _ _ _ _ _ _ _ _)))
  (k_with "eval Name" => ((k_dflt (first | (refine' nmL ?F_q ?e_q ?v_q ?_ ?a_q ?b_q ?d_q; (case F_q => with_reducible assumption); (case e_q => exact rfl); (case v_q => first | with_reducible assumption | ((try dsimp only); first | exact (if_neg (by decide)).trans (by with_reducible assumption) | exact (if_neg (by decide)).trans ((if_neg (by decide)).trans (by with_reducible assumption)) | exact (if_neg (by decide)).trans ((if_neg (by decide)).trans ((if_neg (by decide)).trans (by with_reducible assumption)))) | exact rfl); (case a_q => exact rfl); (case b_q => exact rfl); (case d_q => decide); k_whole) | (refine' nmC ?F_q ?c_q ?o_q ?d_q ?_ ?a_q ?b_q ?g_q; (case F_q => with_reducible assumption); (case a_q => exact rfl); (case b_q => exact rfl); (case c_q => exact rfl); (case o_q => with_reducible assumption); (case d_q => with_reducible assumption); (case g_q => decide); k_whole) | (refine' nameG_K ?F_q ?X_q ?T_q ?e_q ?_ ?g_q ?a_q ?b_q ?d_q; (case F_q => with_reducible assumption); (case X_q => k_asm); (case T_q => k_asm); (case a_q => exact rfl); (case b_q => exact rfl); (case e_q => k_is); (case g_q => exact rfl); (case d_q => decide); k_whole) | (refine' nmB ?F_q ?X_q ?T_q ?e_q ?v_q ?n_q ?_ ?g_q ?h_q ?a_q ?b_q ?d_q; (case F_q => with_reducible assumption); (case X_q => k_asm); (case T_q => k_asm); (case a_q => exact rfl); (case b_q => exact rfl); (case e_q => k_is); (case v_q => boot_fast); (case n_q => decide); (case g_q => exact rfl); (case h_q => exact rfl); (case d_q => decide); k_whole)))))
  (k_with "call ref" => (((with_reducible show wpAny _ _ (call (Value.ref 492) [Value.ref _, Value.int _ _]) _ _ _); k_dflt (refine' liftI ?F_q ?N_q ?X_q ?T_q (cellZ _ _) (fun R hR => cell_code ⟨Frag.In.keeps (by k_asm) (Fr.keep (by k_asm)), _, _, _, _, _, Top.keeps (by k_asm) (Fr.keep (by k_asm))⟩ (Room.le (by assumption) (by decide)) (stays_list (Fr.keep (by with_reducible assumption)) (by with_reducible assumption)) (by with_reducible assumption) (by with_reducible assumption) (by omega) (by omega) hR) ?_; (case F_q => k_asm); (case N_q => k_asm); (case X_q => k_asm); (case T_q => k_asm)); intro _ _ _ _ _ _)))
  (k_with "exec For" => ((with_unfolding_all refine for_at ?_)))
  (k_with "pyIter ref" => (first | (with_reducible refine hold_pyF ?_) | (with_reducible refine hold_pyC ?_)))
  (k_with "call builtin:len" => (((with_reducible show wpAny _ _ (call (Value.builtin "len") [Value.ref _]) _ _ _); k_dflt (refine' len_old ?F_q ?l_q ?f_q ?_; (case F_q => with_reducible assumption); (case l_q => with_reducible assumption); (case f_q => omega)))))
  (k_with "subscriptTail Name Name ref int" => (((with_reducible show wpAny _ _ (subscriptTail _ _ (Value.ref _) (Value.int _ _)) _ _ _); k_dflt (refine' item_at ?l_q ?a_q ?b_q ?x_q ?_ ?s_q; (case l_q => with_reducible assumption); (case x_q => with_reducible assumption); (case a_q => omega); (case b_q => omega); (case s_q => with_unfolding_all rfl)))))
  (k_with "compareOp In int ref" => ((k_dflt (refine' in_list_ints ?l_q ?i_q ?_; (case l_q => with_reducible assumption); (case i_q => with_reducible assumption)))))
  (k_with "call builtin:len" => (((with_reducible show wpAny _ _ (call (Value.builtin "len") [Value.ref _]) _ _ _); k_dflt (refine' len_cur ?l_q ?f_q ?_; (case l_q => with_reducible assumption); (case f_q => omega)))))
  (k_with "exec For Name Call cons nil" => ((with_unfolding_all refine for_at ?_)))
  (k_with "exec For Name Name cons nil" => ((with_unfolding_all refine for_at ?_)))
  (k_with "call ref" => (((with_reducible show wpAny _ _ (call (Value.ref 511) [Value.str (nameAt _) _, Value.int _ _]) _ _ _); k_dflt (refine' liftPair ?F_q ?N_q ?X_q ?T_q (gN (fnAt _) _) (gD (fnAt _) _) (fun R hR => gain_code ⟨Frag.In.keeps (by k_asm) (Fr.keep (by k_asm)), _, _, _, _, _, Top.keeps (by k_asm) (Fr.keep (by k_asm))⟩ (Room.le (by assumption) (by decide)) (by assumption) (by omega) (by omega) hR) ?_; (case F_q => k_asm); (case N_q => k_asm); (case X_q => k_asm); (case T_q => k_asm)); intro _ _ _ _ _ _ _ l9q; replace l9q := allNe_of l9q; simp only [AllNe, and_true] at l9q)))
  (k_with "call ref" => (((with_reducible show wpAny _ _ (call (Value.ref 518) [Value.ref _, Value.ref _]) _ _ _); k_dflt (refine' liftPair ?F_q ?N_q ?X_q ?T_q _ _ (fun R hR => add_code ⟨Frag.In.keeps (by k_asm) (Fr.keep (by k_asm)), _, _, _, _, _, Top.keeps (by k_asm) (Fr.keep (by k_asm))⟩ (Room.le (by assumption) (by decide)) (pairOfNews (by k_asm) (by k_mem)) (pairOfNews (by k_asm) (by k_mem)) (by with_reducible assumption) (by with_reducible assumption) (by with_reducible assumption) (by with_reducible assumption) (by omega) hR) ?_; (case F_q => k_asm); (case N_q => k_asm); (case X_q => k_asm); (case T_q => k_asm)); intro _ _ _ _ _ _ _ l9q; replace l9q := allNe_of l9q; simp only [AllNe, and_true] at l9q)))
  (k_with "getAttr ref true" => (((with_reducible show wpAny _ _ (getAttr (Value.ref _) (PySem.Str.ofString "num_cand") _) _ _ _); k_dflt (refine' get_prop ?k1_q ?k2_q ?k3_q ?k4_q ?k5_q ?k6_q ?k7_q ?k8_q ?k9_q ?_; (case k1_q => k_asm); (case k2_q => k_asm); (case k3_q => k_inst); (case k4_q => k_is); (case k5_q => k_is); (case k6_q => k_is); (case k7_q => k_is); (case k8_q => k_is); (case k9_q => k_is); k_whole); k_dflt (refine' numcand_k ?F_q ?N_q ?X_q ?T_q ?A_q (ProfAt.keep ?P_q ?K_q) ?h_q ?_; (case F_q => k_asm); (case N_q => k_asm); (case X_q => k_asm); (case T_q => k_asm); (case A_q => exact Room.le (by assumption) (by decide)); (case P_q => with_reducible assumption); (case K_q => exact Fr.keep (by k_asm)); (case h_q => with_reducible assumption)); intro _ _ _ _ _)))
  (k_with "call ref" => (((with_reducible show wpAny _ _ (call (Value.ref 481) [Value.ref _] _) _ _ _); (k_dflt (show wpAny _ _ (call (Value.ref 481) [Value.ref _] [(Str.ofString "weight", Value.int _ _)]) _ _ _)); k_dflt (refine' voter_k ?F_q ?N_q ?X_q ?T_q ?C_q ?U_q ?t_q ?B_q (fun G9 R hR => voter_list_code G9 (Room.le (by assumption) (by decide)) ?l_q ?i_q ?n_q ?w_q hR) ?_; (case F_q => k_asm); (case N_q => k_asm); (case X_q => k_asm); (case T_q => k_asm); (case C_q => k_asm); (case U_q => k_updF); (case t_q => with_reducible assumption); (case B_q => with_reducible assumption); (case l_q => exact stays_list (Fr.keep (by k_asm)) (by with_reducible assumption)); (case i_q => with_reducible assumption); (case n_q => omega); (case w_q => with_reducible assumption)); intro _ _ _ _ _ _ _ _ _ _ _ _ N9q lx9q ly9q lz9q _ _ _ _ _ _ _; (try dsimp only at N9q lx9q ly9q lz9q); replace lx9q := allNe_of lx9q; replace ly9q := allNe_of ly9q; replace lz9q := allNe_of lz9q; simp only [AllNe, and_true] at lx9q ly9q lz9q)))
  (k_with "call ref" => (((with_reducible show wpAny _ _ (call (Value.ref 481) [Value.ref _] _) _ _ _); (k_dflt (show wpAny _ _ (call (Value.ref 481) [Value.ref _] [(Str.ofString "weight", Value.int _ _), (Str.ofString "num_cand", Value.int _ _)]) _ _ _)); k_dflt (refine' voter_k ?F_q ?N_q ?X_q ?T_q ?C_q ?U_q ?t_q ?B_q (fun G9 R hR => voter_set_code G9 (Room.le (by assumption) (by decide)) ?l_q ?i_q ?n_q ?w_q hR) ?_; (case F_q => k_asm); (case N_q => k_asm); (case X_q => k_asm); (case T_q => k_asm); (case C_q => k_asm); (case U_q => k_updF); (case t_q => with_reducible assumption); (case B_q => with_reducible assumption); (case l_q => exact Fr.keep (by k_asm) _ _ (by with_reducible assumption)); (case i_q => with_reducible assumption); (case n_q => with_reducible assumption); (case w_q => with_reducible assumption)); intro _ _ _ _ _ _ _ _ _ _ _ _ N9q lx9q ly9q lz9q _ _ _ _ _ _ _; (try dsimp only at N9q lx9q ly9q lz9q); replace lx9q := allNe_of lx9q; replace ly9q := allNe_of ly9q; replace lz9q := allNe_of lz9q; simp only [AllNe, and_true] at lx9q ly9q lz9q)))
  (k_with "call ref" => (((with_reducible show wpAny _ _ (call (Value.ref 245) [Value.str (nameAt _) _, Value.int _ _]) _ _ _); k_dflt (refine' liftFn ?F_q ?N_q ?X_q ?T_q (fnAt _) (fun R hR => gms2 ⟨Frag.In.keeps (by k_asm) (Fr.keep (by k_asm)), _, _, _, _, _, Top.keeps (by k_asm) (Fr.keep (by k_asm))⟩ (Room.le (by assumption) (by decide)) (by assumption) hR) ?_; (case F_q => k_asm); (case N_q => k_asm); (case X_q => k_asm); (case T_q => k_asm)); intro _ _ _ _ _ _ _ _ _ _ _ _ _ _ _ _)))
  (k_with "binaryOp BitAnd" => (((with_reducible show wpAny _ _ (binaryOp _ (Value.ref _) (Value.ref _)) _ _ _); k_dflt (refine' and_k ?F_q ?N_q (News.get ?N2_q ?m_q) (Fr.keep ?F2_q _ _ ?o_q) (new_old ?N3_q ?m3_q ?o3_q) ?s_q ?t_q ?_; (case F_q => k_asm); (case N_q => k_asm); (case N2_q => k_asm); (case N3_q => k_asm); (case F2_q => k_asm); (case m_q => k_mem); (case m3_q => k_mem); (case o_q => with_reducible assumption); (case o3_q => with_reducible assumption); (case s_q => with_reducible assumption); (case t_q => with_reducible assumption)); intro _ _ _ _ _ _ l9q _; replace l9q := allNe_of l9q; simp only [AllNe, and_true] at l9q)))
  (k_with "call ref" => (((with_reducible show wpAny _ _ (call (Value.ref 371) [Value.ref _, Value.ref _]) _ _ _); refine hold ?_)))
  (k_with "call ref" => (((with_reducible show wpAny _ _ (call (Value.ref 444) [Value.int _ _]) _ _ _); refine hold ?_)))
  (k_with "call ref cons nil" => (((with_reducible show wpAny _ _ (call (Value.ref 537) [Value.str _ _]) _ _ _); refine hold ?_)))
  trivial
section
theorem words47 : True := by
  (k_with "eval ListComp Name cons" => ((refine hold ?_)))
  (k_with "call ref cons nil" => (((with_reducible show wpAny _ _ (call (Value.ref 497) _) _ _ _); refine hold ?_)))
  (k_with "call ref cons nil" => (((with_reducible show wpAny _ _ (call (Value.ref 504) _) _ _ _); refine hold ?_)))
  (k_with "exec Assign cons ListComp" => (((with_reducible show wpAny _ _ (exec (Stmt.Assign [Expr.Name (Str.ofString "committee") _] _ _) _) _ _ _); refine hold ?_)))
  trivial
theorem headNames {h₀ h : Heap} {L x : Addr} {ep : Nat} {t0 t1 t2 t3 t4 t5 t6 t7 t8 t9 t10 : Tok} {rest : List (Addr × Obj)} (N : News h₀ L h ((x, W.listOf #[.str (Str.ofString "pav") t0, .str (Str.ofString "adams") t1, .str (Str.ofString "slav") t2, .str (Str.ofString "cc") t3, .str (Str.ofString "av") t4, .str (Str.ofString "geom2") t5, .str (Str.ofString "geom3") t6, .str (Str.ofString "geom10") t7, .str (Str.ofString "atleast1") t8, .str (Str.ofString "atleast2") t9, .str (Str.ofString "atleast3") t10] ep) :: rest)) :
    ∃ y nv, News h₀ L h ((y, W.listOf (List.toArray nv) ep) :: rest) ∧ y = x ∧ ∀ k, k < 11 → ∃ t, nv[k]? = some (.str (nameAt k) t) :=
  ⟨x, [_, _, _, _, _, _, _, _, _, _, _], N, rfl, fun k hk => by
    rcases ((by decide +kernel : ∀ n : Fin 11, n.val = 0 ∨ n.val = 1 ∨ n.val = 2 ∨ n.val = 3 ∨ n.val = 4 ∨ n.val = 5 ∨ n.val = 6 ∨ n.val = 7 ∨ n.val = 8 ∨ n.val = 9 ∨ n.val = 10) ⟨k, hk⟩ : k = 0 ∨ k = 1 ∨ k = 2 ∨ k = 3 ∨ k = 4 ∨ k = 5 ∨ k = 6 ∨ k = 7 ∨ k = 8 ∨ k = 9 ∨ k = 10) with rfl | rfl | rfl | rfl | rfl | rfl | rfl | rfl | rfl | rfl | rfl <;> exact ⟨_, rfl⟩⟩
theorem ma_of {h₀ h : Heap} {L : Addr} {m : Str → Option Value} {nc : Nat} {vb vw vk vp vn : Value} (_F : Fr h₀ L h m) (e : ∃ t, MA m (.int (nc : Int) t) vb vw vk vp vn) : ∃ t, MA m (.int (nc : Int) t) vb vw vk vp vn := e
theorem law_code {prog : Program} {w : World} {A : Around} {s : Shared} {R : Result → Shared → Prop} (G : GndP w s) (hA : Room A 30) (hfr : A.frames = some []) (hfile : (prog.main.file == Str.ofString "/claim/cut.py") = true) (htop : (prog.main.scope.names.lookup (Str.ofString "super")).isSome = false)
    {l : Addr} {vs : List Value} {ns : List Int} (hl : s.heap.IsList l vs.toArray) (hi : IntsAre vs ns) (hn : ns.length < 2 ^ 62)
    (hR : ∀ s', DoneP s s' → R (.ok (.ret (.bool true))) s') :
    codeAny (model prog w) A (.call (.ref 542) ⟨[.ref l], []⟩) R s := by
  obtain ⟨n90, CH, n92, GB⟩ := G
  obtain ⟨X, p, loose, mean, mg, mb, T⟩ := n90
  (refine xa_1_2 (n92) ?_; intro ps ht hT; (try clear n92))
  have Xs := X.keeps (fun b o e => hid_of e)
  w_on
  w_strict (k_dflt (refine' enterPF (K := hd.heap_1 w.params) (binds := [(Str.ofString "script", .ref l)]) ht X T.nolimit ?o ?c ?b ?l ?d hA hfr (fun L h₁ tk cells F N Y l25 dp un gd hA' => ?_) ?c2 ?c3 ?c4; (case o => k_is); (case c => k_is); (case b => first | exact BindsTo.of_eq rfl | exact binds_K Xs rfl (by k_is) rfl rfl rfl); (case l => exact rfl); (case d => decide +kernel); (case c2 => exact rfl); (case c3 => exact rfl); (case c4 => exact rfl)))
  dsimp only
  clear Xs
  w_strict (k_fold)
  (refine xa_2_3 (CellsAre.two Y) ?_; intro o1 o2 hE d1 d2)
  subst hE
  clear Y
  have d1b : o1.data = .cell none := d1
  have d2b : o2.data = .cell (some (.ref l)) := d2
  clear d1 d2
  replace hl := hid_list ht hl
  w_strict (k_steps)
  unfold Hold
  rename Fr _ _ _ _ => F1
  rename News _ _ _ _ => N1
  have c0 := cellZ_nonneg ns (k := 0) (by decide)
  obtain ⟨nc, enc⟩ : ∃ nc : Nat, 1 + (cellZ ns 0).fmod 5 = (nc : Int) := nat_of (by rw [Int.fmod_eq_emod_of_nonneg _ (by decide)]; omega)
  obtain ⟨nv, env⟩ : ∃ nv : Nat, 1 + ((cellZ ns 0).fdiv 5).fmod 4 = (nv : Int) := nat_of (by rw [Int.fmod_eq_emod_of_nonneg _ (by decide)]; omega)
  rw [Int.fmod_eq_emod_of_nonneg _ (by decide)] at enc env
  rw [Int.fdiv_eq_ediv_of_nonneg _ (by decide)] at env
  have bnc : 1 ≤ nc ∧ nc ≤ 5 := by omega
  have bnv : 1 ≤ nv ∧ nv ≤ 4 := by omega
  rw [Int.fmod_eq_emod_of_nonneg _ (by decide), Int.fmod_eq_emod_of_nonneg _ (by decide), Int.fdiv_eq_ediv_of_nonneg _ (by decide), enc, env] at F1 ⊢
  refine ballots_k F1 N1 X T (hA'.le (by decide)) hl hi hn (by omega) (by omega) ?_
  intro lb imm h₂ tk₂ F2 N2 ap1 BI
  clear F1 N1
  w_strict (k_steps)
  unfold Hold
  k_dflt (refine' compU_at _ ?c0 ?c1 ?c2 ?c3 ?c4 ?c5 ?c7 ?c8 ?_ ?c6; (case c0 => with_unfolding_all rfl); (case c1 => with_unfolding_all rfl); (case c2 => decide); (case c3 => exact rfl); (case c4 => decide); (case c5 => exact rfl); (case c7 => exact rfl); (case c8 => exact rfl); (case c6 => (intro _; exact rfl)))
  w_strict (k_steps)
  rename IsRange _ _ _ _ _ _ _ _ => hr4
  rename Fr _ _ _ _ => F4
  rename News _ _ _ _ => N4
  refine Classical.byContradiction fun hg9 => ?_
  (refine xa_2_3 (headLst N4) ?_; intro DW wv N4 r93 r94)
  subst r93
  subst r94
  refine hg9 ?_
  clear hg9
  (refine xa_1_3 (weights_are ns nv) ?_; intro ws hws hwl hw1)
  rename LCg.Off1 DW _ => of1
  rename IntsAre wv _ => hwi
  rw [← hws] at hwi
  (refine xa_1_3 (masks_are ns (nv := nv) bnc.2) ?_; intro ms hbm hml hms)
  rw [hbm] at BI
  have c1 := cellZ_nonneg ns (k := 1) (by decide)
  have ro4 := range_ok (a := 0) (b := (nc : Int)) (n := nc) ⟨by decide, by decide⟩ (by omega) (by omega)
  refine comp_rangeU nc (fun c => cellZ ns 1 / 2 ^ c.toNat % 2 == 1) (fun c => c) rfl F4 N4 hr4 ro4.1 ro4.2 (by omega) ?_ ?_ ?_
  · intro C2 c tc2 s₅ m₅ E5 hcm F5 e5
    have N5 := newsNil F5
    have X3 := X.keeps F4.keep
    have T3 := T.keeps F4.keep
    have q2 := stays_list F4.keep hl
    have cc2 := (N4 (L + 1, o2) (by k_mem)).1
    dsimp only at cc2
    refine wpAny_tests_one ?_
    w_strict (k_steps)
    · rw [Int.fdiv_eq_ediv_of_nonneg _ (pow_nonneg2 _), Int.fmod_eq_emod_of_nonneg _ (by decide)]
    · exact ⟨_, _, rfl, by assumption⟩
  · intro C c tc s₃ m₃ E' hcm F3 e5
    have N3 := newsNil F3
    w_strict (k_steps)
    all_goals first | exact ⟨_, rfl⟩ | exact keeps_refl _ | exact keeps_tok _ _
  · intro D h₅ tk₅ cw ep F5 N5 nD nn kk iw
    refine storeThen_fr F5 N5 ?_
    intro h₆ tk₆ F6 N6
    replace F6 : Fr (hid s.heap) L h₆ _ := F6
    replace N6 : News (hid s.heap) L h₆ _ := N6
    rw [List.map_id', filter_mask c1 bnc.2] at iw
    obtain ⟨km, hkm⟩ : ∃ km, km = maskZ (cellZ ns 1) nc := ⟨_, rfl⟩
    rw [← hkm] at iw
    have hk5 : km < 32 := by rw [hkm]; exact maskZ_lt bnc.2
    have hkn : ∀ z ∈ zsOf km, z < nc := by rw [hkm]; exact fun z hz => maskZ_mem hz
    clear hkm hws
    clear F4 N4 F5 N5
    w_strict (k_steps)
    unfold Hold
    rename Fr _ _ _ _ => F7
    rename News _ _ _ _ => N7
    have m25 : (25, tabObj ps) ∈ (D, W.listOf cw.toArray ep) :: (DW, LCg.lst wv) :: (L + 1 + 1, o1) :: (L + 1, o2) :: (25, tabObj ps) :: imm := .tail _ (.tail _ (.tail _ (.tail _ (.head _))))
    have n1 : @Ne Nat D 25 := objNe N7 (.head _) m25 (show Value.type "list" ≠ Value.none from nofun)
    have n2 : @Ne Nat DW 25 := objNe N7 (.tail _ (.head _)) m25 (show Value.type "list" ≠ Value.none from nofun)
    have n3 : ∀ p ∈ imm, p.1 ≠ 25 := ap1 (25, tabObj ps) (by simp)
    refine' liftP (ps := ps) F7 N7 X T CH ?U hT GB (fun v s' => E2 fun x imm2 => A3 (v = .ref x) (Made _ s'.heap imm2) (ProfIn w imm2 x nc ms ws))
      (fun G R hR => law_profile_code G (hA'.le (by decide)) (BI.is fun p hp => (N7 p (by simp [hp])).1) (bs := ms.map intsOf) (wv := wv) ⟨_, (N7 (DW, LCg.lst wv) (by simp)).1, rfl, _, rfl⟩ hwi rfl (by rw [List.length_map]; omega) (by rw [List.length_map]; omega) bnc.1 bnc.2 hms hw1
        (fun x imm s' D M P => hR _ s' D ⟨x, imm, rfl, M, P⟩)) ?_
    case U => k_updF
    rintro _ u ps₂ F8 N8 hT2 GB2 hos DP hJ99
    refine Classical.byContradiction fun hg9 => ?_
    obtain ⟨x, imm2, r92, MD, PI⟩ := hJ99
    subst r92
    refine hg9 ?_
    clear hg9
    try dsimp only at N8
    have ap2 := made_apart N7 MD
    have N9 := newsMade F7 N8 MD
    clear N8
    obtain ⟨IM, hIM⟩ : ∃ IM, IM = (D, W.listOf cw.toArray ep) :: (DW, LCg.lst wv) :: (imm ++ imm2) := ⟨_, rfl⟩
    have N10 : News (hid s.heap) L u.heap ((25, tabObj ps₂) :: (L + 1 + 1, o1) :: (L + 1, o2) :: IM) := newsSub N9 (by intro p9 h9; rw [hIM] at h9; simp only [List.mem_append, List.mem_cons] at h9 ⊢; grind)
    have BI2 : BallotsIn IM lb (ms.map intsOf) := BI.mono (by intro p9 h9; rw [hIM]; simp [h9])
    have PI2 : ProfIn w IM x nc ms ws := PI.mono (by intro p9 h9; rw [hIM]; simp [h9])
    have mD : (D, W.listOf cw.toArray ep) ∈ IM := by rw [hIM]; exact .head _
    have mW : (DW, LCg.lst wv) ∈ IM := by rw [hIM]; exact .tail _ (.head _)
    have k25 : ∀ p ∈ IM, p.1 ≠ 25 := by
      rw [hIM]
      refine fmc (n1) ?_
      refine fmc (n2) ?_
      intro p hp
      rcases List.mem_append.mp hp with hp | hp
      · exact n3 p hp
      · exact ap2 _ m25 p hp
    have kc : ∀ p ∈ IM, p.1 ≠ L + 1 + 1 := by
      rw [hIM]
      refine fmc (Ne.symm (nD (L + 1 + 1, o1) (by simp))) ?_
      refine fmc (Ne.symm of1.1) ?_
      intro p hp
      rcases List.mem_append.mp hp with hp | hp
      · exact ap1 (L + 1 + 1, o1) (by simp) p hp
      · exact ap2 (L + 1 + 1, o1) (by simp) p hp
    clear N9 ap1 ap2 MD PI BI hIM N7 F7 m25 nD nn kk
    w_strict (k_steps)
    unfold Hold
    rename IsRange _ _ _ _ _ _ _ _ => hr
    rename Fr _ _ _ _ => F11
    rename News _ _ _ _ => N11
    rename _ < _ ∧ _ < _ ∧ _ < _ ∧ _ => lt7
    refine Classical.byContradiction fun hg9 => ?_
    (refine xa_2_3 (headNames N11) ?_; intro ln nv N12 r93 hnm)
    subst r93
    refine hg9 ?_
    clear hg9
    clear N11
    obtain ⟨tnc, A0⟩ := ma_of (nc := nc) (vb := .ref lb) (vw := .ref DW) (vk := .ref D) (vp := .ref x) (vn := .ref ln) F11 ⟨_, rfl, rfl, rfl, rfl, rfl, rfl⟩
    obtain ⟨IM2, h2⟩ : ∃ IM2, IM2 = (ln, W.listOf (List.toArray nv) 0) :: (25, tabObj ps₂) :: (L + 1, o2) :: IM := ⟨_, rfl⟩
    have sIM : ∀ p ∈ IM, p ∈ IM2 := by intro p hp; rw [h2]; exact .tail _ (.tail _ (.tail _ hp))
    have kc2 : ∀ p ∈ IM2, p.1 ≠ L + 1 + 1 := by
      intro p hp
      rw [h2] at hp
      rcases List.mem_cons.mp hp with rfl | hp
      · exact Ne.symm (Nat.ne_of_lt lt7.2.1)
      rcases List.mem_cons.mp hp with rfl | hp
      · exact neN (by omega)
      rcases List.mem_cons.mp hp with rfl | hp
      · exact neN (by omega)
      · exact kc p hp
    have N13 : News (hid s.heap) L _ (IM2 ++ [(L + 1 + 1, o1)]) := newsSub N12 (by intro p9 h9; rw [h2] at h9; simp only [List.mem_append, List.mem_cons, List.not_mem_nil, or_false] at h9 ⊢; grind)
    have hmw : ms.length = ws.length := by omega
    refine for_rangeP (fix := IM2) 3 rfl F11 N13 (by exact GB2) hr ⟨by decide, by decide⟩ (by decide) (by decide)
      (fun i m₁ news₁ => E2 fun oc cx => A3 (news₁ = [(L + 1 + 1, oc)]) (oc.data = .cell cx) (MA m₁ (.int (nc : Int) tnc) (.ref lb) (.ref DW) (.ref D) (.ref x) (.ref ln))) ⟨o1, _, rfl, d1b, A0⟩ ?_ ?_
    · clear F11 N12 N13 hr
      rintro i t m₁ _ u₃ I₂ oI₂ hi3 hJ98 ho3 hb3 F N hn9
      refine Classical.byContradiction fun hg9 => ?_
      obtain ⟨oc, cx, r92, dc, A1⟩ := hJ98
      subst r92
      refine hg9 ?_
      clear hg9
      exact law_k rfl rfl X T hA' hi3 bnc.1 bnc.2 hl (by assumption) hn (by rw [h2]; exact .tail _ (.tail _ (.head _))) d2b (by rw [h2]; exact .head _) hnm (BI2.mono sIM) (sIM _ mW) hwi (sIM _ mD) (by assumption) hk5 hkn (PI2.mono sIM) hmw (by omega) hms hw1 A1 dc kc2 ho3 hb3 F N hn9
    · clear F11 N12 N13 hr A0
      rintro m₁ _ u₃ hJ93 ho3 hb3 F N
      refine Classical.byContradiction fun hg9 => ?_
      obtain ⟨oc, cx, r92, dc, A1⟩ := hJ93
      subst r92
      refine hg9 ?_
      clear hg9
      have N14 : News (hid s.heap) L _ ((25, tabObj ps₂) :: (L + 1 + 1, oc) :: IM) := newsSub N (by intro p9 h9; rw [h2]; simp only [List.mem_append, List.mem_cons, List.not_mem_nil, or_false] at h9 ⊢; grind)
      clear N h2 sIM kc2 A1 hnm
      w_strict (k_steps)
      unfold Hold
      rename Fr _ _ _ _ => F15
      rename News _ _ _ _ => N15
      refine unknown_pavv F15 N15 X T rfl rfl (hA'.le (by decide)) hfile htop ?_
      intro h' tk F16 N16
      clear F15 N15
      w_strict (k_steps)
      unfold Hold
      rename Fr _ _ _ _ => F15
      rename News _ _ _ _ => N15
      refine unknown_nil F15 N15 X T rfl rfl (hA'.le (by decide)) hfile htop ?_
      intro h' tk F16 N16
      clear F15 N15
      w_strict (k_steps)
      unfold Hold
      rename Fr _ _ _ _ => F15
      rename News _ _ _ _ => N15
      refine unknown_Cc F15 N15 X T rfl rfl (hA'.le (by decide)) hfile htop ?_
      intro h' tk F16 N16
      clear F15 N15
      w_strict (k_steps)
      exact hR _ (donePofFr F16 N16 (.head _) hT2 hb3 (ho3.trans hos))
end
end
end
end Mine
theorem PySem.Challenge.cw_jv0001_01_holds : PySem.Challenge.rw_jv0001_01.Holds := by
  refine Mine.hd ?_
  k_fill
  intro w s₀ s₁ mg mb G Y fa o pm cd doc dV kV ho hd hcd hD hmg hg args vals as hpre hlay hrd hwl hlo
  have KX := km_in_of Y
  have hT8 := km_tabs_of Y
  refine Ground.open G ?_
  intro T B D TE TW
  clear D
  obtain rfl : fa = 542 := by
    have e := mg_of KX T.g (show nsIn (Mine.hd.heap_1 w.params) mainGlobals (Str.ofString "law") = some (some (.ref 542)) by kernel_rfl)
    have e2 : mg (Str.ofString "law") = some (.ref fa) := hmg
    rw [e2] at e
    cases e; rfl
  have hT9 : TabsAt [(29, 25)] s₁.heap := List.forall_mem_cons.mpr ⟨⟨codeHd_of_K KX (by kernel_rfl), hT8 25 (.head _)⟩, nofun⟩
  have GP : Mine.GndP w s₁ := ⟨⟨ghost_K hT9 KX (by kernel_rfl), _, _, _, _, _, ghost_top hT9 T⟩, (ghost_code hT9).1, ⟨#[], hT8 25 (.head _), trivial⟩, .of_eq hg⟩
  clear hd ho hcd hD hmg
  wrow_args hpre hlay hrd hwl hlo
  refine enter_call ?_
  rename IntsAre _ _ => hi
  rename Heap.IsList _ _ _ => hl
  rename ¬ _ < _ => hc
  refine Mine.law_code GP ⟨rfl, by decide, by decide⟩ rfl (by decide +kernel) (by decide +kernel) hl hi (by omega) fun s' DP => ?_
  obtain ⟨ps, hP, -⟩ := DP.tab
  have h25 := hT8 25 (.head _)
  refine ⟨.inl ⟨_, .bool true, [], rfl, fun _ => by kernel_rfl, .bool _, by kernel_rfl, fun _ => ⟨List.nodup_nil, nofun⟩⟩, ⟨fun b ob e => ?_, fun b ob e => ?_⟩, DP.os, DP.bare⟩
  · by_cases hb : b = 25
    · subst hb
      rw [h25] at e
      cases e
      exact .inr (.inl ⟨((hT9 (29, 25) (.head _)).1.tab h25).isCodeTable, rfl, #[], ps, rfl, by rw [Array.empty_append]; exact hP⟩)
    · exact .inl (DP.keep b ob hb e)
  · by_cases hb : b = 25
    · subst hb
      exact ⟨_, hP⟩
    · exact ⟨ob, DP.keep b ob hb e⟩
