import PyProof.Rows.All
import Wide.All
import OpenK.AllK
import Wide.FinOn
import PySem.Challenge.RW_je0021_01
set_option Elab.async false
set_option compiler.extract_closed false
open PySem PySem.W PyProof.Rows PySem.Calls
namespace Mine
-- part Elim
theorem exe_0_2 {p0 p1 : Prop} {P : Prop} (h : p0 ∧ p1) (k : p0 → p1 → P) : P := k  h.1 h.2
theorem exe_0_3 {p0 p1 p2 : Prop} {P : Prop} (h : p0 ∧ p1 ∧ p2) (k : p0 → p1 → p2 → P) : P := k  h.1 h.2.1 h.2.2
theorem exe_1_1 {α0 : Type} {p0 : α0 → Prop} {P : Prop} (h : ∃ a, p0 a) (k : ∀ a, p0 a → P) : P := h.elim fun a h => k a h
theorem exe_1_2 {α0 : Type} {p0 p1 : α0 → Prop} {P : Prop} (h : ∃ a, p0 a ∧ p1 a) (k : ∀ a, p0 a → p1 a → P) : P := h.elim fun a h => k a h.1 h.2
theorem exe_1_3 {α0 : Type} {p0 p1 p2 : α0 → Prop} {P : Prop} (h : ∃ a, p0 a ∧ p1 a ∧ p2 a) (k : ∀ a, p0 a → p1 a → p2 a → P) : P := h.elim fun a h => k a h.1 h.2.1 h.2.2
theorem exe_1_4 {α0 : Type} {p0 p1 p2 p3 : α0 → Prop} {P : Prop} (h : ∃ a, p0 a ∧ p1 a ∧ p2 a ∧ p3 a) (k : ∀ a, p0 a → p1 a → p2 a → p3 a → P) : P := h.elim fun a h => k a h.1 h.2.1 h.2.2.1 h.2.2.2
theorem exe_2_1 {α0 α1 : Type} {p0 : α0 → α1 → Prop} {P : Prop} (h : ∃ a b, p0 a b) (k : ∀ a b, p0 a b → P) : P := h.elim fun a h => h.elim fun b h => k a b h
theorem exe_2_2 {α0 α1 : Type} {p0 p1 : α0 → α1 → Prop} {P : Prop} (h : ∃ a b, p0 a b ∧ p1 a b) (k : ∀ a b, p0 a b → p1 a b → P) : P := h.elim fun a h => h.elim fun b h => k a b h.1 h.2
theorem exe_2_3 {α0 α1 : Type} {p0 p1 p2 : α0 → α1 → Prop} {P : Prop} (h : ∃ a b, p0 a b ∧ p1 a b ∧ p2 a b) (k : ∀ a b, p0 a b → p1 a b → p2 a b → P) : P := h.elim fun a h => h.elim fun b h => k a b h.1 h.2.1 h.2.2
theorem exe_2_4 {α0 α1 : Type} {p0 p1 p2 p3 : α0 → α1 → Prop} {P : Prop} (h : ∃ a b, p0 a b ∧ p1 a b ∧ p2 a b ∧ p3 a b) (k : ∀ a b, p0 a b → p1 a b → p2 a b → p3 a b → P) : P := h.elim fun a h => h.elim fun b h => k a b h.1 h.2.1 h.2.2.1 h.2.2.2
theorem exe_2_5 {α0 α1 : Type} {p0 p1 p2 p3 p4 : α0 → α1 → Prop} {P : Prop} (h : ∃ a b, p0 a b ∧ p1 a b ∧ p2 a b ∧ p3 a b ∧ p4 a b) (k : ∀ a b, p0 a b → p1 a b → p2 a b → p3 a b → p4 a b → P) : P := h.elim fun a h => h.elim fun b h => k a b h.1 h.2.1 h.2.2.1 h.2.2.2.1 h.2.2.2.2
theorem exe_2_6 {α0 α1 : Type} {p0 p1 p2 p3 p4 p5 : α0 → α1 → Prop} {P : Prop} (h : ∃ a b, p0 a b ∧ p1 a b ∧ p2 a b ∧ p3 a b ∧ p4 a b ∧ p5 a b) (k : ∀ a b, p0 a b → p1 a b → p2 a b → p3 a b → p4 a b → p5 a b → P) : P := h.elim fun a h => h.elim fun b h => k a b h.1 h.2.1 h.2.2.1 h.2.2.2.1 h.2.2.2.2.1 h.2.2.2.2.2
theorem exe_3_2 {α0 α1 α2 : Type} {p0 p1 : α0 → α1 → α2 → Prop} {P : Prop} (h : ∃ a b c, p0 a b c ∧ p1 a b c) (k : ∀ a b c, p0 a b c → p1 a b c → P) : P := h.elim fun a h => h.elim fun b h => h.elim fun c h => k a b c h.1 h.2
theorem exe_3_4 {α0 α1 α2 : Type} {p0 p1 p2 p3 : α0 → α1 → α2 → Prop} {P : Prop} (h : ∃ a b c, p0 a b c ∧ p1 a b c ∧ p2 a b c ∧ p3 a b c) (k : ∀ a b c, p0 a b c → p1 a b c → p2 a b c → p3 a b c → P) : P := h.elim fun a h => h.elim fun b h => h.elim fun c h => k a b c h.1 h.2.1 h.2.2.1 h.2.2.2
theorem exe_3_6 {α0 α1 α2 : Type} {p0 p1 p2 p3 p4 p5 : α0 → α1 → α2 → Prop} {P : Prop} (h : ∃ a b c, p0 a b c ∧ p1 a b c ∧ p2 a b c ∧ p3 a b c ∧ p4 a b c ∧ p5 a b c) (k : ∀ a b c, p0 a b c → p1 a b c → p2 a b c → p3 a b c → p4 a b c → p5 a b c → P) : P := h.elim fun a h => h.elim fun b h => h.elim fun c h => k a b c h.1 h.2.1 h.2.2.1 h.2.2.2.1 h.2.2.2.2.1 h.2.2.2.2.2
theorem exe_3_7 {α0 α1 α2 : Type} {p0 p1 p2 p3 p4 p5 p6 : α0 → α1 → α2 → Prop} {P : Prop} (h : ∃ a b c, p0 a b c ∧ p1 a b c ∧ p2 a b c ∧ p3 a b c ∧ p4 a b c ∧ p5 a b c ∧ p6 a b c) (k : ∀ a b c, p0 a b c → p1 a b c → p2 a b c → p3 a b c → p4 a b c → p5 a b c → p6 a b c → P) : P := h.elim fun a h => h.elim fun b h => h.elim fun c h => k a b c h.1 h.2.1 h.2.2.1 h.2.2.2.1 h.2.2.2.2.1 h.2.2.2.2.2.1 h.2.2.2.2.2.2
theorem exe_4_8 {α0 α1 α2 α3 : Type} {p0 p1 p2 p3 p4 p5 p6 p7 : α0 → α1 → α2 → α3 → Prop} {P : Prop} (h : ∃ a b c d, p0 a b c d ∧ p1 a b c d ∧ p2 a b c d ∧ p3 a b c d ∧ p4 a b c d ∧ p5 a b c d ∧ p6 a b c d ∧ p7 a b c d) (k : ∀ a b c d, p0 a b c d → p1 a b c d → p2 a b c d → p3 a b c d → p4 a b c d → p5 a b c d → p6 a b c d → p7 a b c d → P) : P := h.elim fun a h => h.elim fun b h => h.elim fun c h => h.elim fun d h => k a b c d h.1 h.2.1 h.2.2.1 h.2.2.2.1 h.2.2.2.2.1 h.2.2.2.2.2.1 h.2.2.2.2.2.2.1 h.2.2.2.2.2.2.2
theorem exe_5_3 {α0 α1 α2 α3 α4 : Type} {p0 p1 p2 : α0 → α1 → α2 → α3 → α4 → Prop} {P : Prop} (h : ∃ a b c d e, p0 a b c d e ∧ p1 a b c d e ∧ p2 a b c d e) (k : ∀ a b c d e, p0 a b c d e → p1 a b c d e → p2 a b c d e → P) : P := h.elim fun a h => h.elim fun b h => h.elim fun c h => h.elim fun d h => h.elim fun e h => k a b c d e h.1 h.2.1 h.2.2
theorem exe_5_4 {α0 α1 α2 α3 α4 : Type} {p0 p1 p2 p3 : α0 → α1 → α2 → α3 → α4 → Prop} {P : Prop} (h : ∃ a b c d e, p0 a b c d e ∧ p1 a b c d e ∧ p2 a b c d e ∧ p3 a b c d e) (k : ∀ a b c d e, p0 a b c d e → p1 a b c d e → p2 a b c d e → p3 a b c d e → P) : P := h.elim fun a h => h.elim fun b h => h.elim fun c h => h.elim fun d h => h.elim fun e h => k a b c d e h.1 h.2.1 h.2.2.1 h.2.2.2
theorem exe_5_10 {α0 α1 α2 α3 α4 : Type} {p0 p1 p2 p3 p4 p5 p6 p7 p8 p9 : α0 → α1 → α2 → α3 → α4 → Prop} {P : Prop} (h : ∃ a b c d e, p0 a b c d e ∧ p1 a b c d e ∧ p2 a b c d e ∧ p3 a b c d e ∧ p4 a b c d e ∧ p5 a b c d e ∧ p6 a b c d e ∧ p7 a b c d e ∧ p8 a b c d e ∧ p9 a b c d e) (k : ∀ a b c d e, p0 a b c d e → p1 a b c d e → p2 a b c d e → p3 a b c d e → p4 a b c d e → p5 a b c d e → p6 a b c d e → p7 a b c d e → p8 a b c d e → p9 a b c d e → P) : P := h.elim fun a h => h.elim fun b h => h.elim fun c h => h.elim fun d h => h.elim fun e h => k a b c d e h.1 h.2.1 h.2.2.1 h.2.2.2.1 h.2.2.2.2.1 h.2.2.2.2.2.1 h.2.2.2.2.2.2.1 h.2.2.2.2.2.2.2.1 h.2.2.2.2.2.2.2.2.1 h.2.2.2.2.2.2.2.2.2
theorem exe_7_7 {α0 α1 α2 α3 α4 α5 α6 : Type} {p0 p1 p2 p3 p4 p5 p6 : α0 → α1 → α2 → α3 → α4 → α5 → α6 → Prop} {P : Prop} (h : ∃ a b c d e f g, p0 a b c d e f g ∧ p1 a b c d e f g ∧ p2 a b c d e f g ∧ p3 a b c d e f g ∧ p4 a b c d e f g ∧ p5 a b c d e f g ∧ p6 a b c d e f g) (k : ∀ a b c d e f g, p0 a b c d e f g → p1 a b c d e f g → p2 a b c d e f g → p3 a b c d e f g → p4 a b c d e f g → p5 a b c d e f g → p6 a b c d e f g → P) : P := h.elim fun a h => h.elim fun b h => h.elim fun c h => h.elim fun d h => h.elim fun e h => h.elim fun f h => h.elim fun g h => k a b c d e f g h.1 h.2.1 h.2.2.1 h.2.2.2.1 h.2.2.2.2.1 h.2.2.2.2.2.1 h.2.2.2.2.2.2
theorem exe_7_10 {α0 α1 α2 α3 α4 α5 α6 : Type} {p0 p1 p2 p3 p4 p5 p6 p7 p8 p9 : α0 → α1 → α2 → α3 → α4 → α5 → α6 → Prop} {P : Prop} (h : ∃ a b c d e f g, p0 a b c d e f g ∧ p1 a b c d e f g ∧ p2 a b c d e f g ∧ p3 a b c d e f g ∧ p4 a b c d e f g ∧ p5 a b c d e f g ∧ p6 a b c d e f g ∧ p7 a b c d e f g ∧ p8 a b c d e f g ∧ p9 a b c d e f g) (k : ∀ a b c d e f g, p0 a b c d e f g → p1 a b c d e f g → p2 a b c d e f g → p3 a b c d e f g → p4 a b c d e f g → p5 a b c d e f g → p6 a b c d e f g → p7 a b c d e f g → p8 a b c d e f g → p9 a b c d e f g → P) : P := h.elim fun a h => h.elim fun b h => h.elim fun c h => h.elim fun d h => h.elim fun e h => h.elim fun f h => h.elim fun g h => k a b c d e f g h.1 h.2.1 h.2.2.1 h.2.2.2.1 h.2.2.2.2.1 h.2.2.2.2.2.1 h.2.2.2.2.2.2.1 h.2.2.2.2.2.2.2.1 h.2.2.2.2.2.2.2.2.1 h.2.2.2.2.2.2.2.2.2
theorem exe_7_12 {α0 α1 α2 α3 α4 α5 α6 : Type} {p0 p1 p2 p3 p4 p5 p6 p7 p8 p9 p10 p11 : α0 → α1 → α2 → α3 → α4 → α5 → α6 → Prop} {P : Prop} (h : ∃ a b c d e f g, p0 a b c d e f g ∧ p1 a b c d e f g ∧ p2 a b c d e f g ∧ p3 a b c d e f g ∧ p4 a b c d e f g ∧ p5 a b c d e f g ∧ p6 a b c d e f g ∧ p7 a b c d e f g ∧ p8 a b c d e f g ∧ p9 a b c d e f g ∧ p10 a b c d e f g ∧ p11 a b c d e f g) (k : ∀ a b c d e f g, p0 a b c d e f g → p1 a b c d e f g → p2 a b c d e f g → p3 a b c d e f g → p4 a b c d e f g → p5 a b c d e f g → p6 a b c d e f g → p7 a b c d e f g → p8 a b c d e f g → p9 a b c d e f g → p10 a b c d e f g → p11 a b c d e f g → P) : P := h.elim fun a h => h.elim fun b h => h.elim fun c h => h.elim fun d h => h.elim fun e h => h.elim fun f h => h.elim fun g h => k a b c d e f g h.1 h.2.1 h.2.2.1 h.2.2.2.1 h.2.2.2.2.1 h.2.2.2.2.2.1 h.2.2.2.2.2.2.1 h.2.2.2.2.2.2.2.1 h.2.2.2.2.2.2.2.2.1 h.2.2.2.2.2.2.2.2.2.1 h.2.2.2.2.2.2.2.2.2.2.1 h.2.2.2.2.2.2.2.2.2.2.2
theorem exi_1_3 {α0 : Type} {p0 p1 p2 : α0 → Prop} (a : α0) (h0 : p0 a) (h1 : p1 a) (h2 : p2 a) : ∃ a, p0 a ∧ p1 a ∧ p2 a := ⟨a, h0, h1, h2⟩
theorem exi_1_4 {α0 : Type} {p0 p1 p2 p3 : α0 → Prop} (a : α0) (h0 : p0 a) (h1 : p1 a) (h2 : p2 a) (h3 : p3 a) : ∃ a, p0 a ∧ p1 a ∧ p2 a ∧ p3 a := ⟨a, h0, h1, h2, h3⟩
theorem exi_2_3 {α0 α1 : Type} {p0 p1 p2 : α0 → α1 → Prop} (a : α0) (b : α1) (h0 : p0 a b) (h1 : p1 a b) (h2 : p2 a b) : ∃ a b, p0 a b ∧ p1 a b ∧ p2 a b := ⟨a, b, h0, h1, h2⟩
theorem exi_2_4 {α0 α1 : Type} {p0 p1 p2 p3 : α0 → α1 → Prop} (a : α0) (b : α1) (h0 : p0 a b) (h1 : p1 a b) (h2 : p2 a b) (h3 : p3 a b) : ∃ a b, p0 a b ∧ p1 a b ∧ p2 a b ∧ p3 a b := ⟨a, b, h0, h1, h2, h3⟩
theorem exi_2_5 {α0 α1 : Type} {p0 p1 p2 p3 p4 : α0 → α1 → Prop} (a : α0) (b : α1) (h0 : p0 a b) (h1 : p1 a b) (h2 : p2 a b) (h3 : p3 a b) (h4 : p4 a b) : ∃ a b, p0 a b ∧ p1 a b ∧ p2 a b ∧ p3 a b ∧ p4 a b := ⟨a, b, h0, h1, h2, h3, h4⟩
theorem exi_3_4 {α0 α1 α2 : Type} {p0 p1 p2 p3 : α0 → α1 → α2 → Prop} (a : α0) (b : α1) (c : α2) (h0 : p0 a b c) (h1 : p1 a b c) (h2 : p2 a b c) (h3 : p3 a b c) : ∃ a b c, p0 a b c ∧ p1 a b c ∧ p2 a b c ∧ p3 a b c := ⟨a, b, c, h0, h1, h2, h3⟩
theorem exi_3_6 {α0 α1 α2 : Type} {p0 p1 p2 p3 p4 p5 : α0 → α1 → α2 → Prop} (a : α0) (b : α1) (c : α2) (h0 : p0 a b c) (h1 : p1 a b c) (h2 : p2 a b c) (h3 : p3 a b c) (h4 : p4 a b c) (h5 : p5 a b c) : ∃ a b c, p0 a b c ∧ p1 a b c ∧ p2 a b c ∧ p3 a b c ∧ p4 a b c ∧ p5 a b c := ⟨a, b, c, h0, h1, h2, h3, h4, h5⟩
theorem exi_3_7 {α0 α1 α2 : Type} {p0 p1 p2 p3 p4 p5 p6 : α0 → α1 → α2 → Prop} (a : α0) (b : α1) (c : α2) (h0 : p0 a b c) (h1 : p1 a b c) (h2 : p2 a b c) (h3 : p3 a b c) (h4 : p4 a b c) (h5 : p5 a b c) (h6 : p6 a b c) : ∃ a b c, p0 a b c ∧ p1 a b c ∧ p2 a b c ∧ p3 a b c ∧ p4 a b c ∧ p5 a b c ∧ p6 a b c := ⟨a, b, c, h0, h1, h2, h3, h4, h5, h6⟩
theorem exi_4_8 {α0 α1 α2 α3 : Type} {p0 p1 p2 p3 p4 p5 p6 p7 : α0 → α1 → α2 → α3 → Prop} (a : α0) (b : α1) (c : α2) (d : α3) (h0 : p0 a b c d) (h1 : p1 a b c d) (h2 : p2 a b c d) (h3 : p3 a b c d) (h4 : p4 a b c d) (h5 : p5 a b c d) (h6 : p6 a b c d) (h7 : p7 a b c d) : ∃ a b c d, p0 a b c d ∧ p1 a b c d ∧ p2 a b c d ∧ p3 a b c d ∧ p4 a b c d ∧ p5 a b c d ∧ p6 a b c d ∧ p7 a b c d := ⟨a, b, c, d, h0, h1, h2, h3, h4, h5, h6, h7⟩
theorem exi_5_10 {α0 α1 α2 α3 α4 : Type} {p0 p1 p2 p3 p4 p5 p6 p7 p8 p9 : α0 → α1 → α2 → α3 → α4 → Prop} (a : α0) (b : α1) (c : α2) (d : α3) (e : α4) (h0 : p0 a b c d e) (h1 : p1 a b c d e) (h2 : p2 a b c d e) (h3 : p3 a b c d e) (h4 : p4 a b c d e) (h5 : p5 a b c d e) (h6 : p6 a b c d e) (h7 : p7 a b c d e) (h8 : p8 a b c d e) (h9 : p9 a b c d e) : ∃ a b c d e, p0 a b c d e ∧ p1 a b c d e ∧ p2 a b c d e ∧ p3 a b c d e ∧ p4 a b c d e ∧ p5 a b c d e ∧ p6 a b c d e ∧ p7 a b c d e ∧ p8 a b c d e ∧ p9 a b c d e := ⟨a, b, c, d, e, h0, h1, h2, h3, h4, h5, h6, h7, h8, h9⟩
theorem exi_7_7 {α0 α1 α2 α3 α4 α5 α6 : Type} {p0 p1 p2 p3 p4 p5 p6 : α0 → α1 → α2 → α3 → α4 → α5 → α6 → Prop} (a : α0) (b : α1) (c : α2) (d : α3) (e : α4) (f : α5) (g : α6) (h0 : p0 a b c d e f g) (h1 : p1 a b c d e f g) (h2 : p2 a b c d e f g) (h3 : p3 a b c d e f g) (h4 : p4 a b c d e f g) (h5 : p5 a b c d e f g) (h6 : p6 a b c d e f g) : ∃ a b c d e f g, p0 a b c d e f g ∧ p1 a b c d e f g ∧ p2 a b c d e f g ∧ p3 a b c d e f g ∧ p4 a b c d e f g ∧ p5 a b c d e f g ∧ p6 a b c d e f g := ⟨a, b, c, d, e, f, g, h0, h1, h2, h3, h4, h5, h6⟩
theorem exi_7_10 {α0 α1 α2 α3 α4 α5 α6 : Type} {p0 p1 p2 p3 p4 p5 p6 p7 p8 p9 : α0 → α1 → α2 → α3 → α4 → α5 → α6 → Prop} (a : α0) (b : α1) (c : α2) (d : α3) (e : α4) (f : α5) (g : α6) (h0 : p0 a b c d e f g) (h1 : p1 a b c d e f g) (h2 : p2 a b c d e f g) (h3 : p3 a b c d e f g) (h4 : p4 a b c d e f g) (h5 : p5 a b c d e f g) (h6 : p6 a b c d e f g) (h7 : p7 a b c d e f g) (h8 : p8 a b c d e f g) (h9 : p9 a b c d e f g) : ∃ a b c d e f g, p0 a b c d e f g ∧ p1 a b c d e f g ∧ p2 a b c d e f g ∧ p3 a b c d e f g ∧ p4 a b c d e f g ∧ p5 a b c d e f g ∧ p6 a b c d e f g ∧ p7 a b c d e f g ∧ p8 a b c d e f g ∧ p9 a b c d e f g := ⟨a, b, c, d, e, f, g, h0, h1, h2, h3, h4, h5, h6, h7, h8, h9⟩
theorem exi_7_12 {α0 α1 α2 α3 α4 α5 α6 : Type} {p0 p1 p2 p3 p4 p5 p6 p7 p8 p9 p10 p11 : α0 → α1 → α2 → α3 → α4 → α5 → α6 → Prop} (a : α0) (b : α1) (c : α2) (d : α3) (e : α4) (f : α5) (g : α6) (h0 : p0 a b c d e f g) (h1 : p1 a b c d e f g) (h2 : p2 a b c d e f g) (h3 : p3 a b c d e f g) (h4 : p4 a b c d e f g) (h5 : p5 a b c d e f g) (h6 : p6 a b c d e f g) (h7 : p7 a b c d e f g) (h8 : p8 a b c d e f g) (h9 : p9 a b c d e f g) (h10 : p10 a b c d e f g) (h11 : p11 a b c d e f g) : ∃ a b c d e f g, p0 a b c d e f g ∧ p1 a b c d e f g ∧ p2 a b c d e f g ∧ p3 a b c d e f g ∧ p4 a b c d e f g ∧ p5 a b c d e f g ∧ p6 a b c d e f g ∧ p7 a b c d e f g ∧ p8 a b c d e f g ∧ p9 a b c d e f g ∧ p10 a b c d e f g ∧ p11 a b c d e f g := ⟨a, b, c, d, e, f, g, h0, h1, h2, h3, h4, h5, h6, h7, h8, h9, h10, h11⟩
-- part Base
def fnBody : Stmt → List Stmt
  | .FunctionDef (body := b) .. => b
  | _ => []
def fnScope : Stmt → Scope
  | .FunctionDef (scope := b) .. => b
  | _ => default
def at5 : List Stmt → Stmt
  | _ :: _ :: _ :: _ :: _ :: x :: _ => x
  | _ => .Pass ⟨0,0,0,0⟩
def at3 : List Stmt → Stmt
  | _ :: _ :: _ :: x :: _ => x
  | _ => .Pass ⟨0,0,0,0⟩
def stepSt : Stmt := at5 PySem.Challenge.pw_je0021_01.main.body
def stepB : List Stmt := fnBody stepSt
def stepScope : Scope := fnScope stepSt
def initSt : Stmt := at3 PySem.Challenge.pw_je0021_01.main.body
def initB : List Stmt := fnBody initSt
def initScope : Scope := fnScope initSt

/-- a row: a list of `n` ints, given by a function -/
def RowIs (vs : List Value) (n : Nat) (g : Nat → Int) : Prop := vs.length = n ∧ ∀ q, q < n → ∃ t, vs[q]? = some (.int (g q) t)

structure MatIn (news : List (Addr × Obj)) (l : Addr) (rs : List Addr) (n1 n2 : Nat) (f : Nat → Nat → Int) : Prop where
  top : ∃ c, (l, listOf (rs.map Value.ref).toArray c) ∈ news
  len : rs.length = n1
  row : ∀ (i : Nat) (r : Addr), rs[i]? = some r → ∃ vs c, (r, listOf vs.toArray c) ∈ news ∧ RowIs vs n2 (f i)
  nodup : rs.Nodup
  off : l ∉ rs

section
variable {prog : Program} {w : World} {A : Around} {E : Value → Shared → Prop} {s : Shared} {h₀ : Heap} {L : Addr} {m : Str → Option Value} {news : List (Addr × Obj)} {value slice : Expr}

theorem mat_item {l : Addr} {rs : List Addr} {n1 n2 : Nat} {f : Nat → Nat → Int} {k : Int} {u : Tok} {Q : Value → Shared → Prop}
    (N : News h₀ L s.heap news) (M : MatIn news l rs n1 n2 f) (h0 : 0 ≤ k) (h1 : k < n1) (hf : (n1 : Int) < 2 ^ 62)
    (h : ∀ r vs c, rs[k.toNat]? = some r → (r, listOf vs.toArray c) ∈ news → RowIs vs n2 (f k.toNat) → Q (.ref r) s)
    (hs : subscripted slice false (.ref l) (.int k u) = operate [.ref l, .int k u] (getItem (.ref l) (.int k u)) := by with_unfolding_all rfl) (hg : ∀ r, letTemporaryGo value (.ref l) r = pure () := by intro _; with_unfolding_all rfl) :
    wpAny (model prog w) A (subscriptTail value slice (.ref l) (.int k u)) Q E s := by
  obtain ⟨c, hm⟩ := M.top
  have hk : k.toNat < rs.length := by rw [M.len]; lia
  obtain ⟨vs, c', hm', hr⟩ := M.row k.toNat rs[k.toNat] (List.getElem?_eq_getElem hk)
  exact kim_list N hm rfl rfl h0 (by lia) (by rw [List.getElem?_map, List.getElem?_eq_getElem hk]; rfl) (h _ _ _ (List.getElem?_eq_getElem hk) hm' hr) hs hg

theorem row_item {r : Addr} {vs : List Value} {c n : Nat} {g : Nat → Int} {k : Int} {u : Tok} {Q : Value → Shared → Prop}
    (N : News h₀ L s.heap news) (hm : (r, listOf vs.toArray c) ∈ news) (R : RowIs vs n g) (h0 : 0 ≤ k) (h1 : k < n) (hf : (n : Int) < 2 ^ 62)
    (h : ∀ t, Q (.int (g k.toNat) t) s)
    (hs : subscripted slice false (.ref r) (.int k u) = operate [.ref r, .int k u] (getItem (.ref r) (.int k u)) := by with_unfolding_all rfl) (hg : ∀ r', letTemporaryGo value (.ref r) r' = pure () := by intro _; with_unfolding_all rfl) :
    wpAny (model prog w) A (subscriptTail value slice (.ref r) (.int k u)) Q E s := by
  obtain ⟨t, ht⟩ := R.2 k.toNat (by lia)
  exact kim_list N hm rfl rfl h0 (by lia) ht (h t) hs hg

theorem min4_le {m a b c d : Int} (h : m = min (min a b) (min c d)) : m ≤ a ∧ m ≤ b ∧ m ≤ c ∧ m ≤ d :=
  h ▸ ⟨Int.le_trans (Int.min_le_left ..) (Int.min_le_left ..), Int.le_trans (Int.min_le_left ..) (Int.min_le_right ..), Int.le_trans (Int.min_le_right ..) (Int.min_le_left ..), Int.le_trans (Int.min_le_right ..) (Int.min_le_right ..)⟩
theorem le_min4 {m z a b c d : Int} (h : m = min (min a b) (min c d)) (h1 : z ≤ a) (h2 : z ≤ b) (h3 : z ≤ c) (h4 : z ≤ d) : z ≤ m :=
  h ▸ Int.le_min.mpr ⟨Int.le_min.mpr ⟨h1, h2⟩, Int.le_min.mpr ⟨h3, h4⟩⟩
theorem min4_fin {f : Nat → Int} {a b c d : Int} {z : Nat} (v0 : f 0 = a) (v1 : f 1 = b) (v2 : f 2 = c) (v3 : f 3 = d) (hz : z ≤ 3) (h : ∀ k, k ≤ 3 → f z ≤ f k) : f z = min (min a b) (min c d) := by
  refine Int.le_antisymm (le_min4 rfl (v0 ▸ h 0 (by decide)) (v1 ▸ h 1 (by decide)) (v2 ▸ h 2 (by decide)) (v3 ▸ h 3 (by decide))) ?_
  have q := min4_le (a := a) (b := b) (c := c) (d := d) rfl
  match z, hz with
  | 0, _ => rw [v0]; exact q.1
  | 1, _ => rw [v1]; exact q.2.1
  | 2, _ => rw [v2]; exact q.2.2.1
  | 3, _ => rw [v3]; exact q.2.2.2
theorem args_min4 (a b c d : Value) : argsOk "min" ⟨[a, b, c, d], []⟩ := by unfold argsOk; kernel_rfl

theorem min4 {a b c d : Int} {t u x y : Tok} {Q : Value → Shared → Prop} (hh : A.handled = none) (F : Fr h₀ L s.heap m) (N : News h₀ L s.heap news)
    (h : ∀ h' M (t' : Tok) tk, Fr h₀ L h' m → News h₀ L h' news → M = min (min a b) (min c d) → Q (.int M t') { s with heap := h', toks := tk }) :
    wpAny (model prog w) A (call (.builtin "min") [.int a t, .int b u, .int c x, .int d y]) Q E s := by
  have hname : (toString "min" ++ toString ".loop" : String) = "min.loop" := by decide
  have hT : (s.heap.push { cls := .type "tuple", data := .seq #[.int a t, .int b u, .int c x, .int d y] }).IsTuple s.heap.objs.size (intItems #[(a, t), (b, u), (c, x), (d, y)]) := ⟨_, Heap.get?_push_size _ rfl, rfl, 0, by simp [intItems]⟩
  refine call_function_tree PySem.F.kind_min PySem.F.plain_min PySem.F.entry_min (args_min4 _ _ _ _) ?_
  show wpAny _ A.in1 (Builtin.Builtins.bindParams "min" ["key", "default"] 0 ⟨[], []⟩ >>= _) _ _ s
  refine wpAny_bind (wpAny_of_eq (show Builtin.Builtins.bindParams "min" ["key", "default"] 0 ⟨[], []⟩ = pure [none, none] from rfl) ?_)
  show wpAny _ A.in1 (newTuple [.int a t, .int b u, .int c x, .int d y] >>= _) _ _ s
  refine wpAny_bind (wpAny_newObj_type ?_)
  refine wpAny_bind (wpAny_pyIter_tuple hT ?_)
  have hsz : (s.heap.push { cls := .type "tuple", data := .seq #[.int a t, .int b u, .int c x, .int d y] }).objs.size = s.heap.objs.size + 1 := Heap.size_push ..
  have W := Walks.tuple (prog := prog) (w := w) (A := A.in1) hh (s.heap.push { cls := .type "tuple", data := .seq #[.int a t, .int b u, .int c x, .int d y] }).objs.size s.heap.objs.size (by rw [hsz]; exact Nat.ne_of_lt (Nat.lt_succ_self _)) (intItems #[(a, t), (b, u), (c, x), (d, y)])
  refine wpAny_bind (wpAny_newObj_type ?_)
  rw [hname]
  refine wpAny_pure ⟨plainId_quiet PySem.F.plain_min_loop _, codeAny_min_loop_first W _ (CmpOf.ints_lt (numAt #[(a, t), (b, u), (c, x), (d, y)]) (fun _ _ => intItems_at)) _ ?_ (by simp [intItems]) (W.frame 0 _ _ ⟨⟨_, Heap.get?_push_size _ rfl, rfl, rfl⟩, hT.push _⟩ fun b _ o e => Heap.get?_push_of_some _ e) (Heap.get?_push_size _ rfl) fun v h' tk hP hk => ?_⟩
  · intro hm
    have hlt : ∀ z : Addr, z ∈ [(s.heap.push { cls := .type "tuple", data := .seq #[.int a t, .int b u, .int c x, .int d y] }).objs.size, s.heap.objs.size] → z < ((s.heap.push { cls := .type "tuple", data := .seq #[.int a t, .int b u, .int c x, .int d y] }).push { cls := .type "tuple_iterator", data := .fields #[.ref s.heap.objs.size, .int 0 0] }).objs.size := by
      intro z hb
      rw [Heap.size_push, hsz]
      rcases List.mem_cons.mp hb with rfl | hb
      · rw [hsz]; exact Nat.lt_succ_self _
      · rcases List.mem_cons.mp hb with rfl | hb
        · exact Nat.lt_succ_of_lt (Nat.lt_succ_self _)
        · cases hb
    exact Nat.lt_irrefl _ (hlt _ hm)
  · have hold : ∀ d' o, s.heap.get? d' = some o → h'.get? d' = some o := fun d' o e => by
      have e1 := Heap.get?_push_of_some { cls := .type "tuple", data := .seq #[.int a t, .int b u, .int c x, .int d y] } e
      have e2 := Heap.get?_push_of_some { cls := .type "tuple_iterator", data := .fields #[.ref s.heap.objs.size, .int 0 0] } e1
      refine hk d' o (fun hm => ?_) (Nat.ne_of_lt (Heap.lt_size e2)) (Heap.get?_push_of_some _ e2)
      rcases List.mem_cons.mp hm with e3 | hm
      · have := Heap.lt_size e; rw [e3, hsz] at this; exact Nat.lt_irrefl _ (Nat.lt_of_succ_lt this)
      · cases hm
    obtain ⟨t', rfl⟩ := intItems_at hP
    obtain ⟨h1, h2⟩ := argBest_lt (numAt #[(a, t), (b, u), (c, x), (d, y)]) ((intItems #[(a, t), (b, u), (c, x), (d, y)]).size - 1)
    refine h h' _ t' tk (F.grownK hold) (N.grown hold) ?_
    have hs3 : (intItems #[(a, t), (b, u), (c, x), (d, y)]).size - 1 = 3 := by simp [intItems]
    rw [hs3] at h1 h2 ⊢
    exact min4_fin rfl rfl rfl rfl h1 h2

theorem set_at {r : Addr} {vs : List Value} {c : Nat} {k : Int} {t : Tok} {v : Value} {Q : Unit → Shared → Prop} (F : Fr h₀ L s.heap m) (N : News h₀ L s.heap news) (hm : (r, listOf vs.toArray c) ∈ news)
    (h0 : 0 ≤ k) (hf : k < 2 ^ 63) (hk : k < vs.length)
    (h : ∀ h' news', Fr h₀ L h' m → News h₀ L h' news' → (r, listOf (vs.set k.toNat v).toArray c) ∈ news' → (∀ p ∈ news, p.1 ≠ r → p ∈ news') → (∀ p ∈ news', p.1 ≠ r → p ∈ news) → Q () { s with heap := h' }) :
    wpAny (model prog w) A (setItem (.ref r) (.int k t) v) Q E s := by
  have z := N _ hm
  have e0 : Obj.mapSeq (·.setIfInBounds k.toNat v) (listOf vs.toArray c) = listOf (vs.set k.toNat v).toArray c := by
    show Obj.mk _ _ (Data.seq _ _) _ = _
    have e1 : vs.toArray.setIfInBounds k.toNat v = (vs.set k.toNat v).toArray := by
      apply Array.toList_inj.mp; simp
    simp [e1]
  have hs : Heap.SameBut r s.heap (s.heap.update r (Obj.mapSeq (·.setIfInBounds k.toNat v))) := Heap.SameBut.update ..
  have ho : (s.heap.update r (Obj.mapSeq (·.setIfInBounds k.toNat v))).get? r = some (listOf (vs.set k.toNat v).toArray c) := by
    have := Heap.get?_update_self (Obj.mapSeq (·.setIfInBounds k.toNat v)) z.1 (by rw [e0]; rfl)
    rw [e0] at this; exact this
  refine ki_setAt z.1 h0 hf (by rw [List.size_toArray]; exact hk) (h _ (news.map fun p => if p.1 = r then (r, listOf (vs.set k.toNat v).toArray c) else p) (F.change hs z.2.1 z.2.2) (N.replace hs ho) ?_ ?_ ?_)
  · exact List.mem_map.mpr ⟨_, hm, by simp⟩
  · exact fun p hp hne => List.mem_map.mpr ⟨p, hp, by simp [hne]⟩
  · intro p hp hne
    obtain ⟨q, hq, rfl⟩ := List.mem_map.mp hp
    by_cases e : q.1 = r
    · simp [e] at hne
    · simp only [e, if_false]; exact hq
end

theorem MatIn.set {news news' : List (Addr × Obj)} {l r : Addr} {rs : List Addr} {n1 n2 i j c : Nat} {f : Nat → Nat → Int} {vs : List Value} {v : Int} {t : Tok} (M : MatIn news l rs n1 n2 f) (hr : rs[i]? = some r)
    (R : RowIs vs n2 (f i)) (hnew : (r, listOf (vs.set j (.int v t)).toArray c) ∈ news') (keep : ∀ p ∈ news, p.1 ≠ r → p ∈ news') :
    MatIn news' l rs n1 n2 (fun a b => if a = i ∧ b = j then v else f a b) := by
  have hmem : r ∈ rs := List.mem_of_getElem? hr
  have hlr : l ≠ r := fun e => M.off (e ▸ hmem)
  refine ⟨?_, M.len, ?_, M.nodup, M.off⟩
  · obtain ⟨c, hc⟩ := M.top
    exact ⟨c, keep _ hc hlr⟩
  · intro k r' hk
    by_cases e : k = i
    · subst e
      rw [hr] at hk
      cases hk
      refine ⟨_, _, hnew, by rw [List.length_set]; exact R.1, ?_⟩
      intro q hq
      by_cases e : q = j
      · subst e
        exact ⟨t, by rw [List.getElem?_set_self (by rw [R.1]; exact hq)]; simp⟩
      · obtain ⟨t', ht'⟩ := R.2 q hq
        exact ⟨t', by rw [List.getElem?_set_ne (Ne.symm e), ht']; simp [e]⟩
    · obtain ⟨vs', c', hm', hR'⟩ := M.row k r' hk
      have hne : r' ≠ r := by
        intro e'
        subst e'
        have h1 := (List.getElem?_eq_some_iff.mp hk).1
        exact e ((List.getElem?_inj h1 M.nodup).mp (hk.trans hr.symm))
      refine ⟨vs', c', keep _ hm' hne, hR'.1, ?_⟩
      intro q hq
      obtain ⟨t', ht'⟩ := hR'.2 q hq
      exact ⟨t', by rw [ht']; simp [e]⟩

theorem toNat1 (a : Nat) : ((a : Int) - 1).toNat = a - 1 := by lia
def stepVal (x1 x2 : Str) (sc : Int) (tr : Bool) (F0 : Nat → Nat → Int) (i j ll lr : Int) : Int :=
  let c := F0 (i-1).toNat (j-1).toNat + (if (Txt.item x1 (i-1) != Txt.item x2 (j-1)) = true then sc else 0)
  let d := if tr = true ∧ 0 < ll ∧ 0 < lr then F0 (ll-1).toNat (lr-1).toNat + i - ll + j - lr - 1 else c + 1
  min (min (F0 (i-1).toNat j.toNat + 1) (F0 i.toNat (j-1).toNat + 1)) (min c d)
-- part Loops
def isCellD : Data → Bool
  | .cell _ => true
  | _ => false
def plainB (o : Obj) : Bool := o.cls == .type "list" || o.cls == .type "dict" || o.cls == .type "tuple" || isCellD o.data
/-- the address is none of the ledger's -/
def Apart (keep : List (Addr × Obj)) (a : Addr) : Prop := ∀ q ∈ keep, q.1 ≠ a
def mineOf (keep news : List (Addr × Obj)) : List (Addr × Obj) := news.filter fun p => plainB p.2 && keep.all fun q => q.1 != p.1
theorem mem_mineOf {keep news : List (Addr × Obj)} {p : Addr × Obj} (h : p ∈ news) (hp : plainB p.2 = true) (hl : Apart keep p.1) : p ∈ mineOf keep news :=
  List.mem_filter.mpr ⟨h, by
    rw [hp, Bool.true_and, List.all_eq_true]
    exact fun q hq => bne_iff_ne.mpr (hl q hq)⟩
theorem of_mineOf {keep news : List (Addr × Obj)} {p : Addr × Obj} (h : p ∈ mineOf keep news) : p ∈ news ∧ plainB p.2 = true ∧ Apart keep p.1 := by
  obtain ⟨h1, h2⟩ := List.mem_filter.mp h
  obtain ⟨h3, h4⟩ := Bool.and_eq_true_iff.mp h2
  exact ⟨h1, h3, fun q hq => bne_iff_ne.mp (List.all_eq_true.mp h4 q hq)⟩

def MyEnd (h₀ : Heap) (L : Addr) (J : (Str → Option Value) → List (Addr × Obj) → Prop) (own keep : List (Addr × Obj)) (s₁ s₂ : Shared) : Prop :=
  ∃ h' tk m' news', s₂ = { s₁ with heap := h', toks := tk } ∧ Fr h₀ L h' m' ∧ News h₀ L h' news' ∧ (∀ p ∈ own, p ∈ news') ∧ (∀ p ∈ keep, p ∈ news') ∧ J m' (mineOf keep news')
def MyPost (h₀ : Heap) (L : Addr) (J : (Str → Option Value) → List (Addr × Obj) → Prop) (own keep : List (Addr × Obj)) (s₁ : Shared) (Q : Flow → Shared → Prop) (f : Flow) (s₂ : Shared) : Prop :=
  match f with
  | .ret v => Q (.ret v) s₂
  | .brk => Q .next s₂
  | _ => MyEnd h₀ L J own keep s₁ s₂

section
variable {prog : Program} {w : World} {A : Around} {E : Value → Shared → Prop} {s : Shared} {env : Env} {h₀ : Heap} {x : Str} {body : List Stmt} {Q : Flow → Shared → Prop}

theorem loop_J {I : Addr} {fp : List Addr} {n : Nat} {P : Nat → Value → Prop} {St : Nat → Heap → Prop} {m₀ : Str → Option Value} {news keep : List (Addr × Obj)} (J : Nat → (Str → Option Value) → List (Addr × Obj) → Prop)
    (W : Walks prog w A I fp [I] n P St) (hLf : env.locals ∉ fp) (hI0 : h₀.get? I = none) (hIk : ∀ p ∈ keep, p.1 ≠ I) (hfp : ∀ b ∈ fp, b ≠ I → ∀ p ∈ keep, True)
    (hSt : ∀ i h, St i h → ∃ o, h.get? I = some o ∧ plainB o = false) (hst : St 0 s.heap) (F : Fr h₀ env.locals s.heap m₀) (N : News h₀ env.locals s.heap news) (hkeep : ∀ p ∈ keep, p ∈ news) (hj : J 0 m₀ (mineOf keep news))
    (turn : ∀ i v m₁ mine h tk own, i < n → P i v → J i m₁ mine → (∀ p ∈ mine, Apart keep p.1 ∧ plainB p.2 = true) → (∀ p ∈ own, p.1 ∈ fp) → St (i + 1) h → Fr h₀ env.locals h (fun y => if y = x then some v else m₁ y) → News h₀ env.locals h (own ++ (mine ++ keep)) →
      wpAny (model prog w) A (execs body env) (MyPost h₀ env.locals (J (i + 1)) own keep { s with heap := h, toks := tk } Q) E { s with heap := h, toks := tk })
    (done : ∀ m₁ mine h tk, J n m₁ mine → (∀ p ∈ mine, Apart keep p.1 ∧ plainB p.2 = true) → Fr h₀ env.locals h m₁ → News h₀ env.locals h (mine ++ keep) → Q .next { s with heap := h, toks := tk }) :
    LoopAtV prog w A h₀ env x body Q E (.ref I) s := by
  have notI : ∀ {h : Heap} {l : List (Addr × Obj)} {o : Obj}, News h₀ env.locals h l → h.get? I = some o → plainB o = false → ∀ p ∈ l, plainB p.2 = true → p.1 ≠ I := by
    intro h l o N' ho hb p hp hpl e
    have := (N' p hp).1
    rw [e, ho] at this
    rw [Option.some.inj this, hpl] at hb
    cases hb
  have hmine : ∀ {l : List (Addr × Obj)}, ∀ p ∈ mineOf keep l, Apart keep p.1 ∧ plainB p.2 = true := fun p hp => ⟨(of_mineOf hp).2.2, (of_mineOf hp).2.1⟩
  let J' : Nat → (Str → Option Value) → List (Addr × Obj) → Prop := fun i m₁ news₁ => ∃ mine, news₁ = mine ++ keep ∧ (∀ p ∈ mine, Apart keep p.1 ∧ plainB p.2 = true) ∧ J i m₁ mine
  refine ⟨I, fp, [I], n, P, St, m₀, mineOf keep news ++ keep, J', rfl, W, hLf, ?_, ?_, hst, F, ?_, ⟨_, rfl, hmine, hj⟩, ?_, ?_⟩
  · intro b hb
    rw [List.mem_singleton.mp hb]; exact hI0
  · intro p hp hw
    have e := List.mem_singleton.mp hw
    rcases List.mem_append.mp hp with hp | hp
    · obtain ⟨o, ho, hb⟩ := hSt _ _ hst
      exact notI N ho hb p (of_mineOf hp).1 (of_mineOf hp).2.1 e
    · exact hIk p hp e
  · intro p hp
    rcases List.mem_append.mp hp with hp | hp
    · exact N p (of_mineOf hp).1
    · exact N p (hkeep p hp)
  · rintro i v m₁ news₁ s₁ own ⟨hh', tk', rfl⟩ hin hP ⟨mine, rfl, hml, hJ⟩ hoff hown hownAt hall hst₁ F₁ N₁
    refine wpAny_mono (turn i v m₁ mine hh' tk' own hin hP hJ hml hown hst₁ F₁ N₁) (fun f s₂ p => ?_) fun _ _ e => e
    have fin : MyEnd h₀ env.locals (J (i + 1)) own keep { s with heap := hh', toks := tk' } s₂ → LoopStepU h₀ env.locals [I] own (J' (i + 1)) { s with heap := hh', toks := tk' } .next s₂ := by
      rintro ⟨h', tk, m', news', e, F', N', ho, hk, hm⟩
      obtain ⟨oI, hoI, hbI⟩ := hSt _ _ hst₁
      have hIo : (I, oI) ∈ own := hall I (W.sub _ (List.mem_singleton.mpr rfl)) hI0 oI hoI
      have hI' : h'.get? I = some oI := (N' _ (ho _ hIo)).1
      refine ⟨rfl, h', tk, m', mineOf keep news' ++ keep, e, F', fun p hp => ?_, fun p hp hw => ?_, _, rfl, hmine, hm⟩
      · rcases List.mem_append.mp hp with hp | hp
        · exact N' p (ho p hp)
        · rcases List.mem_append.mp hp with hp | hp
          · exact N' p (of_mineOf hp).1
          · exact N' p (hk p hp)
      · have e := List.mem_singleton.mp hw
        rcases List.mem_append.mp hp with hp | hp
        · exact notI N' hI' hbI p (of_mineOf hp).1 (of_mineOf hp).2.1 e
        · exact hIk p hp e
    cases f with
    | ret v => exact .ret p
    | brk => exact .brk p
    | next => exact .next (fin p)
    | cont => exact .cont (fin p)
  · rintro h' tk m' news' F' N' _ ⟨mine, rfl, hml, hJ⟩
    exact done m' mine h' tk hJ hml F' N'

theorem rng_loop {r : Addr} {a₀ b₀ : Int} {t₀ u₀ v₀ : Tok} {n : Nat} {m₀ : Str → Option Value} {news : List (Addr × Obj)} (keep : List (Addr × Obj)) (J : Nat → (Str → Option Value) → List (Addr × Obj) → Prop)
    (hh : A.handled = none) (F : Fr h₀ env.locals s.heap m₀) (N : News h₀ env.locals s.heap news) (hr : IsRange s.heap r a₀ b₀ 1 t₀ u₀ v₀) (hsmall : Builtin.Range.small a₀ b₀ 1 = true) (hn : Builtin.Range.rangeSize a₀ b₀ 1 = (n : Int))
    (hkeep : ∀ p ∈ keep, p ∈ news) (hj : J 0 m₀ (mineOf keep news))
    (turn : ∀ i t m₁ mine h tk own, i < n → J i m₁ mine → (∀ p ∈ mine, Apart keep p.1 ∧ plainB p.2 = true) → (∀ p ∈ own, ∀ q ∈ mine, p.1 ≠ q.1) → Fr h₀ env.locals h (fun y => if y = x then some (.int (a₀ + (i : Int)) t) else m₁ y) → News h₀ env.locals h (own ++ (mine ++ keep)) →
      wpAny (model prog w) A (execs body env) (MyPost h₀ env.locals (J (i + 1)) own keep { s with heap := h, toks := tk } Q) E { s with heap := h, toks := tk })
    (done : ∀ m₁ mine h tk, J n m₁ mine → (∀ p ∈ mine, Apart keep p.1 ∧ plainB p.2 = true) → Fr h₀ env.locals h m₁ → News h₀ env.locals h (mine ++ keep) → Q .next { s with heap := h, toks := tk }) :
    wpAny (model prog w) A (pyIter (.ref r)) (fun it s₂ => LoopAtV prog w A h₀ env x body Q E it s₂) E s := by
  refine wpAny_pyIter_range hr hsmall ?_
  have W : Walks prog w A s.heap.objs.size [s.heap.objs.size] [s.heap.objs.size] n (fun i v => i < n ∧ ∃ t, v = .int (a₀ + i * 1) t)
      (fun i h => IsRangeIter h s.heap.objs.size (a₀ + (i : Nat) * 1) ((n : Int) - (i : Nat)) 1) := (Walks.range hh _ a₀ 1 n).bound
  refine loop_J (news := news) (keep := keep) J W ?_ (next_is_new F) ?_ (fun _ _ _ _ _ => trivial) ?_ (by show IsRangeIter _ _ _ _ _; rw [hn]; simpa using Heap.get?_push_size _ rfl) (F.push _) (fun p hp => ⟨Heap.get?_push_of_some _ (N p hp).1, (N p hp).2⟩) hkeep hj ?_ done
  · intro hm
    exact absurd F.ns.lt ((List.mem_singleton.mp hm) ▸ Nat.lt_irrefl _)
  · intro p hp e
    exact absurd (Heap.lt_size (N p (hkeep p hp)).1) (e ▸ Nat.lt_irrefl _)
  · intro i h hs
    exact ⟨_, hs, by rfl⟩
  · rintro i v m₁ mine h tk own hi ⟨_, t, rfl⟩ hJ hml hown hst F₁ N₁
    have e1 : a₀ + (i : Int) * 1 = a₀ + (i : Int) := by omega
    rw [e1] at F₁
    refine turn i t m₁ mine h tk own hi hJ hml (fun p hp q hq e => ?_) F₁ N₁
    have e2 := List.mem_singleton.mp (hown p hp)
    have h1 := (N₁ q (List.mem_append_right _ (List.mem_append_left _ hq))).1
    rw [← e, e2, show h.get? s.heap.objs.size = some _ from hst] at h1
    have := (hml q hq).2
    rw [← Option.some.inj h1] at this
    cases this

theorem rngS {r L : Addr} {a₀ b₀ : Int} {t₀ u₀ v₀ : Tok} {m₀ : Str → Option Value} {news : List (Addr × Obj)} (S : List Str) (n : Nat) (keep : List (Addr × Obj)) (J : Nat → (Str → Option Value) → List (Addr × Obj) → Prop)
    (hL : env.locals = L) (hh : A.handled = none) (F : Fr h₀ L s.heap m₀) (N : News h₀ L s.heap news) (hr : IsRange s.heap r a₀ b₀ 1 t₀ u₀ v₀) (hsmall : Builtin.Range.small a₀ b₀ 1 = true) (hn : Builtin.Range.rangeSize a₀ b₀ 1 = (n : Int))
    (hkeep : ∀ p ∈ keep, p ∈ news) (hx : S.contains x = true) (hj : J 0 m₀ (mineOf keep news))
    (turn : ∀ i t u mine h tk own, i < n → J i u mine → (∀ p ∈ mine, Apart keep p.1 ∧ plainB p.2 = true) → (∀ p ∈ own, ∀ q ∈ mine, p.1 ≠ q.1) → Fr h₀ L h (fun y => if y = x then some (.int (a₀ + (i : Int)) t) else if S.contains y then u y else m₀ y) → News h₀ L h (own ++ (mine ++ keep)) →
      wpAny (model prog w) A (execs body env) (MyPost h₀ L (fun m mine => (∀ y, S.contains y = false → m y = m₀ y) ∧ J (i + 1) m mine) own keep { s with heap := h, toks := tk } Q) E { s with heap := h, toks := tk })
    (done : ∀ u mine h tk, J n u mine → (∀ p ∈ mine, Apart keep p.1 ∧ plainB p.2 = true) → Fr h₀ L h (fun y => if S.contains y then u y else m₀ y) → News h₀ L h (mine ++ keep) → Q .next { s with heap := h, toks := tk }) :
    wpAny (model prog w) A (pyIter (.ref r)) (fun it s₂ => LoopAtV prog w A h₀ env x body Q E it s₂) E s := by
  subst hL
  have norm : ∀ {m₁ : Str → Option Value}, (∀ y, S.contains y = false → m₁ y = m₀ y) → m₁ = fun y => if S.contains y then m₁ y else m₀ y := by
    intro m₁ h
    funext y
    cases e : S.contains y with
    | true => simp
    | false => simp only [Bool.false_eq_true, if_false]; exact h y e
  refine rng_loop (n := n) keep (fun i m mine => (∀ y, S.contains y = false → m y = m₀ y) ∧ J i m mine) hh F N hr hsmall hn hkeep ⟨fun _ _ => rfl, hj⟩ ?_ ?_
  · rintro i t m₁ mine h tk own hi ⟨hm, hJ⟩ hml hown F₁ N₁
    have F₂ : Fr h₀ env.locals h (fun y => if y = x then some (.int (a₀ + (i : Int)) t) else if S.contains y then m₁ y else m₀ y) := by
      have e := norm hm
      rw [e] at F₁
      exact F₁
    exact turn i t m₁ mine h tk own hi hJ hml hown F₂ N₁
  · rintro m₁ mine h tk ⟨hm, hJ⟩ hml F₁ N₁
    have F₂ : Fr h₀ env.locals h (fun y => if S.contains y then m₁ y else m₀ y) := by
      have e := norm hm
      rw [e] at F₁
      exact F₁
    exact done m₁ mine h tk hJ hml F₂ N₁
end
section
variable {prog : Program} {w : World} {M : Model} {A : Around} {E : Value → Shared → Prop} {s : Shared} {h₀ : Heap} {L D : Addr} {m : Str → Option Value} {news : List (Addr × Obj)}
theorem newList_L {vs : List Value} {Q : Value → Shared → Prop} (F : Fr h₀ L s.heap m) (N : News h₀ L s.heap news)
    (h : ∀ l h', Fr h₀ L h' m → News h₀ L h' ((l, listOf vs.toArray 0) :: news) → (∀ p ∈ news, p.1 < l) → L < l → Q (.ref l) { s with heap := h' }) (hsz : vs.length ≤ sizeLine := by size_fits) : wpAny M A (newList vs) Q E s :=
  newList_N F N (fun h' F' N' => h _ h' F' N' (fun p hp => Heap.lt_size (N p hp).1) F.ns.lt) hsz
theorem newTuple_L {vs : List Value} {Q : Value → Shared → Prop} (F : Fr h₀ L s.heap m) (N : News h₀ L s.heap news)
    (h : ∀ l h', Fr h₀ L h' m → News h₀ L h' ((l, ({ cls := .type "tuple", data := .seq vs.toArray } : Obj)) :: news) → (∀ p ∈ news, p.1 < l) → L < l → Q (.ref l) { s with heap := h' }) (hsz : vs.length ≤ sizeLine := by size_fits) : wpAny M A (newTuple vs) Q E s :=
  newTuple_N F N (fun h' F' N' => h _ h' F' N' (fun p hp => Heap.lt_size (N p hp).1) F.ns.lt) hsz
theorem append_L {its : List Value} {n : Nat} {x : Value} {Q : Value → Shared → Prop} (F : Fr h₀ L s.heap m) (N : News h₀ L s.heap news) (hm : (D, listOf its.toArray n) ∈ news)
    (h : ∀ h' news', Fr h₀ L h' m → News h₀ L h' news' → (D, listOf (its ++ [x]).toArray (n + 1)) ∈ news' → (∀ p ∈ news, p.1 ≠ D → p ∈ news') → (∀ p ∈ news', p.1 ≠ D → p ∈ news) → Q .none { s with heap := h' }) (hsz : its.length ≤ sizeLine := by size_fits) :
    wpAny (model prog w) A (call (.builtin "list.append") [.ref D, x]) Q E s := by
  have z := N _ hm
  refine append_at (hsz := by rw [List.size_toArray]; exact hsz) z.1 fun h' hs ho' => ?_
  rw [show its.toArray.push x = (its ++ [x]).toArray from by simp] at ho'
  refine h h' (news.map fun p => if p.1 = D then (D, listOf (its ++ [x]).toArray (n + 1)) else p) (F.change hs z.2.1 z.2.2) (N.replace hs ho') ?_ ?_ ?_
  · exact List.mem_map.mpr ⟨_, hm, by simp⟩
  · exact fun p hp hne => List.mem_map.mpr ⟨p, hp, by simp [hne]⟩
  · intro p hp hne
    obtain ⟨q, hq, rfl⟩ := List.mem_map.mp hp
    by_cases e : q.1 = D
    · simp [e] at hne
    · simp only [e, if_false]; exact hq
end
theorem RowIs.rep {v : Value} {c : Int} {k : Nat} (h : ∃ t, v = .int c t) : RowIs (List.replicate k [v]).flatten k (fun _ => c) := by
  have e : (List.replicate k [v]).flatten = List.replicate k v := by
    induction k with
    | zero => rfl
    | succ k ih => rw [List.replicate_succ, List.flatten_cons, ih, List.replicate_succ]; rfl
  rw [e]
  refine ⟨by simp, fun q hq => ?_⟩
  obtain ⟨t, rfl⟩ := h
  exact ⟨t, by simp [hq]⟩
theorem MatIn.mono {news news' : List (Addr × Obj)} {l : Addr} {rs : List Addr} {n1 n2 : Nat} {f : Nat → Nat → Int} (M : MatIn news l rs n1 n2 f)
    (h : ∀ p ∈ news, p.1 = l ∨ p.1 ∈ rs → p ∈ news') : MatIn news' l rs n1 n2 f := by
  refine ⟨?_, M.len, ?_, M.nodup, M.off⟩
  · obtain ⟨c, hc⟩ := M.top
    exact ⟨c, h _ hc (.inl rfl)⟩
  · intro i r hr
    obtain ⟨vs, c, hm, R⟩ := M.row i r hr
    exact ⟨vs, c, h _ hm (.inr (List.mem_of_getElem? hr)), R⟩
theorem MatIn.above {news : List (Addr × Obj)} {keep : List (Addr × Obj)} {l : Addr} {rs : List Addr} {n1 n2 : Nat} {f : Nat → Nat → Int} (M : MatIn news l rs n1 n2 f) (h : ∀ p ∈ news, Apart keep p.1) : Apart keep l ∧ ∀ r ∈ rs, Apart keep r := by
  refine ⟨?_, fun r hr => ?_⟩
  · obtain ⟨c, hc⟩ := M.top
    exact h _ hc
  · obtain ⟨i, hi⟩ := List.mem_iff_getElem?.mp hr
    obtain ⟨vs, c, hm, R⟩ := M.row i r hi
    exact h _ hm
theorem MatIn.toMine {news keep : List (Addr × Obj)} {l : Addr} {rs : List Addr} {n1 n2 : Nat} {f : Nat → Nat → Int} (M : MatIn news l rs n1 n2 f) (h1 : Apart keep l) (h2 : ∀ r ∈ rs, Apart keep r) : MatIn (mineOf keep news) l rs n1 n2 f := by
  refine ⟨?_, M.len, ?_, M.nodup, M.off⟩
  · obtain ⟨c, hc⟩ := M.top
    exact ⟨c, mem_mineOf hc (by rfl) h1⟩
  · intro i r hr
    obtain ⟨vs, c, hm, R⟩ := M.row i r hr
    exact ⟨vs, c, mem_mineOf hm (by rfl) (h2 r (List.mem_of_getElem? hr)), R⟩
/-- one row more -/
theorem MatIn.push {news news' : List (Addr × Obj)} {l r : Addr} {rs : List Addr} {n1 n2 c c' : Nat} {f : Nat → Nat → Int} {vs : List Value} (M : MatIn news l rs n1 n2 f) (hm : (r, listOf vs.toArray c) ∈ news') (R : RowIs vs n2 (f n1))
    (hl : (l, listOf ((rs ++ [r]).map Value.ref).toArray c') ∈ news') (hne : r ∉ rs) (hlr : l ≠ r) (k : ∀ p ∈ news, p.1 ≠ l → p ∈ news') : MatIn news' l (rs ++ [r]) (n1 + 1) n2 f := by
  refine ⟨⟨c', hl⟩, by rw [List.length_append, M.len]; rfl, ?_, ?_, ?_⟩
  · intro i r' hr
    rcases Nat.lt_or_ge i rs.length with h | h
    · rw [List.getElem?_append_left h] at hr
      obtain ⟨vs', c'', hm', R'⟩ := M.row i r' hr
      refine ⟨vs', c'', k _ hm' ?_, R'⟩
      intro e
      exact M.off (e ▸ List.mem_of_getElem? hr)
    · rw [List.getElem?_append_right h] at hr
      have h0 : i - rs.length = 0 := by
        have := (List.getElem?_eq_some_iff.mp hr).1
        simp only [List.length_cons, List.length_nil] at this
        omega
      rw [h0] at hr
      have h1 : i = n1 := by have := M.len; omega
      subst h1
      cases hr
      exact ⟨vs, c, hm, R⟩
  · refine List.nodup_append.mpr ⟨M.nodup, by simp, fun a ha b hb e => ?_⟩
    rw [List.mem_singleton.mp hb] at e
    exact hne (e ▸ ha)
  · simp only [List.mem_append, List.mem_singleton, not_or]
    exact ⟨M.off, hlr⟩
theorem MatIn.congr {news : List (Addr × Obj)} {l : Addr} {rs : List Addr} {n1 n2 : Nat} {f f' : Nat → Nat → Int} (M : MatIn news l rs n1 n2 f) (h : ∀ a b, a < n1 → b < n2 → f a b = f' a b) : MatIn news l rs n1 n2 f' := by
  refine ⟨M.top, M.len, ?_, M.nodup, M.off⟩
  intro i r hr
  obtain ⟨vs, c, hm, R⟩ := M.row i r hr
  refine ⟨vs, c, hm, R.1, fun q hq => ?_⟩
  obtain ⟨t, ht⟩ := R.2 q hq
  have hi : i < n1 := by have := (List.getElem?_eq_some_iff.mp hr).1; rw [M.len] at this; exact this
  exact ⟨t, by rw [ht, h i q hi hq]⟩
theorem MatIn.fresh {news : List (Addr × Obj)} {l : Addr} {rs : List Addr} {n1 n2 : Nat} {f : Nat → Nat → Int} {a : Addr} (M : MatIn news l rs n1 n2 f) (h : ∀ p ∈ news, p.1 < a) : a ∉ rs ∧ l ≠ a := by
  refine ⟨fun hr => ?_, fun e => ?_⟩
  · obtain ⟨i, hi⟩ := List.mem_iff_getElem?.mp hr
    obtain ⟨vs, c, hm, R⟩ := M.row i a hi
    exact Nat.lt_irrefl _ (h _ hm)
  · obtain ⟨c, hc⟩ := M.top
    have := h _ hc
    rw [e] at this
    exact Nat.lt_irrefl _ this

theorem allLt_mem {d : Nat} : ∀ {l : List (Addr × Obj)}, AllLt d l → ∀ p ∈ l, p.1 < d
  | [], _, p, hp => by cases hp
  | q :: r, h, p, hp => by
    rcases List.mem_cons.mp hp with rfl | hp
    · exact h.1
    · exact allLt_mem h.2 p hp
theorem post_next {h₀ : Heap} {L : Addr} {S : List Str} {m₀ m' : Str → Option Value} {J : (Str → Option Value) → List (Addr × Obj) → Prop} {own keep news' : List (Addr × Obj)} {s₁ : Shared} {Q : Flow → Shared → Prop} {h' : Heap} {tk : Nat}
    (F : Fr h₀ L h' m') (N : News h₀ L h' news') (ho : ∀ p ∈ own, p ∈ news') (hk : ∀ p ∈ keep, p ∈ news') (hm : ∀ y, S.contains y = false → m' y = m₀ y) (hJ : J m' (mineOf keep news')) :
    MyPost h₀ L (fun m mine => (∀ y, S.contains y = false → m y = m₀ y) ∧ J m mine) own keep s₁ Q .next { s₁ with heap := h', toks := tk } :=
  ⟨h', tk, m', news', rfl, F, N, ho, hk, hm, hJ⟩

theorem gen_toks {M : Model} {A : Around} {E : Value → Shared → Prop} {α : Type} {t : Sem α} {Q : α → Shared → Prop} {h : Heap} {g : Array GenState} {d : Drawn} {X : Nat} {o : OsState} (H : ∀ tk, wpAny M A t Q E ⟨h, g, d, tk, o⟩) : wpAny M A t Q E ⟨h, g, d, X, o⟩ := H X
theorem ne_allB {l : Addr} {news : List (Addr × Obj)} (h : ∀ p ∈ news, p.1 < l) : ∀ p ∈ news, p.1 ≠ l := fun p hp => Nat.ne_of_lt (h p hp)
theorem ne_in {S : List Str} {x y : Str} (hy : S.contains y = false) (hx : S.contains x = true) : y ≠ x := by
  intro e
  subst e
  rw [hx] at hy
  cases hy
theorem skip1 {x y : Str} {a b c : Option Value} (h : y ≠ x) (h2 : b = c) : (if y = x then a else b) = c := (if_neg h).trans h2
theorem skipS {S S2 : List Str} {y : Str} {a b c : Option Value} (hy : S.contains y = false) (hs : (S2.all fun x => S.contains x) = true) (h2 : b = c) : (if S2.contains y = true then a else b) = c := by
  have h : ¬ S2.contains y = true := by
    intro e
    have h3 := List.all_eq_true.mp hs y (by simpa using e)
    rw [hy] at h3
    cases h3
  exact (if_neg h).trans h2
theorem keep2 {x y : Str} {a b c : Option Value} (h : y = x → a = c) (h2 : b = c) : (if y = x then a else b) = c := by
  by_cases e : y = x
  · rw [if_pos e]; exact h e
  · rw [if_neg e]; exact h2
section
variable {M : Model} {A : Around} {E : Value → Shared → Prop} {s : Shared} {env : Env}
theorem g_iter {v : Value} {Q : Value → Shared → Prop} (h : wpAny M A (pyIter v) Q E s) : wpAny M A (pyIter v) Q E s := h
theorem g_while {a : Expr} {b c : List Stmt} {d : Pos} {Q : Flow → Shared → Prop} (h : wpAny M A (exec (.While a b c d) env) Q E s) : wpAny M A (exec (.While a b c d) env) Q E s := h
theorem g_comp {a b c d} {Q : Value → Shared → Prop} (h : wpAny M A (eval (.ListComp a b c d) env) Q E s) : wpAny M A (eval (.ListComp a b c d) env) Q E s := h
theorem g_src {a b c d e f g h i j k l m n} (x : LCg.CompSrc a b c d e f g h i j k l m n) : LCg.CompSrc a b c d e f g h i j k l m n := x
theorem g_srcT {a b c d e f g h i j k l m n o} (x : LCt.CompSrcT a b c d e f g h i j k l m n o) : LCt.CompSrcT a b c d e f g h i j k l m n o := x
theorem g_cend {a b c d e f g h i j k l m n} (x : LCg.CompEnd a b c d e f g h i j k l m n) : LCg.CompEnd a b c d e f g h i j k l m n := x
theorem g_asc {x a b c d p} {r : List Stmt} {Q : Flow → Shared → Prop} (h : wpAny M A (execs (.Assign [x] (.ListComp a b c d) p :: r) env) Q E s) : wpAny M A (execs (.Assign [x] (.ListComp a b c d) p :: r) env) Q E s := h
theorem g_add {a b : Addr} {Q : Value → Shared → Prop} (h : wpAny M A (binaryOp .Add (.ref a) (.ref b)) Q E s) : wpAny M A (binaryOp .Add (.ref a) (.ref b)) Q E s := h
theorem g_if {a b c d} {r : List Stmt} {Q : Flow → Shared → Prop} (h : wpAny M A (execs (.If a b c d :: r) env) Q E s) : wpAny M A (execs (.If a b c d :: r) env) Q E s := h
theorem g_for {a b c d e} {r : List Stmt} {Q : Flow → Shared → Prop} (h : wpAny M A (execs (.For a b c d e :: r) env) Q E s) : wpAny M A (execs (.For a b c d e :: r) env) Q E s := h
theorem g_fork {a b c d e} {Q : Flow → Shared → Prop} (h : wpAny M A (exec (.For (.Name (Str.ofString "k") a) b c d e) env) Q E s) : wpAny M A (exec (.For (.Name (Str.ofString "k") a) b c d e) env) Q E s := h
theorem g_lam {a b c d} {Q : Value → Shared → Prop} (h : wpAny M A (eval (.Lambda a b c d) env) Q E s) : wpAny M A (eval (.Lambda a b c d) env) Q E s := h
theorem g_min {a : List Value} {b : List (Str × Value)} {Q : Value → Shared → Prop} (h : wpAny M A (call (.builtin "min") a b) Q E s) : wpAny M A (call (.builtin "min") a b) Q E s := h
theorem g_join {a : List Value} {b : List (Str × Value)} {Q : Value → Shared → Prop} (h : wpAny M A (call (.builtin "str.join") a b) Q E s) : wpAny M A (call (.builtin "str.join") a b) Q E s := h
theorem g_ast {x y a b c d} {r : List Stmt} {Q : Flow → Shared → Prop} (h : wpAny M A (execs (.Assign [.Name x y] (.Tuple a b c) d :: r) env) Q E s) : wpAny M A (execs (.Assign [.Name x y] (.Tuple a b c) d :: r) env) Q E s := h
theorem g_sub {a b k t} {r : Addr} {Q : Value → Shared → Prop} (h : wpAny M A (subscriptTail a b (.ref r) (.int k t)) Q E s) : wpAny M A (subscriptTail a b (.ref r) (.int k t)) Q E s := h
theorem g_len {r : Addr} {Q : Value → Shared → Prop} (h : wpAny M A (call (.builtin "len") [.ref r]) Q E s) : wpAny M A (call (.builtin "len") [.ref r]) Q E s := h
theorem g_app {b : String} {r : Addr} {v : Value} {Q : Value → Shared → Prop} (h : wpAny M A (call (.builtin b) [.ref r, v]) Q E s) : wpAny M A (call (.builtin b) [.ref r, v]) Q E s := h
end
-- part Step

theorem join_if {M : Model} {A : Around} {E : Value → Shared → Prop} {s : Shared} {c : Prop} [Decidable c] {X Y : Sem Value} {a b : Int} {Q : Value → Shared → Prop} (hX : ∀ Q' : Value → Shared → Prop, (∀ t tk, Q' (.int a t) { s with toks := tk }) → wpAny M A X Q' E s) (hY : ∀ Q' : Value → Shared → Prop, (∀ t tk, Q' (.int b t) { s with toks := tk }) → wpAny M A Y Q' E s)
    (h : ∀ t tk, Q (.int (if c then a else b) t) { s with toks := tk }) : if c then wpAny M A X Q E s else wpAny M A Y Q E s := by
  split
  · rename_i hc
    refine hX Q fun t tk => ?_
    have := h t tk
    rwa [if_pos hc] at this
  · rename_i hc
    refine hY Q fun t tk => ?_
    have := h t tk
    rwa [if_neg hc] at this
theorem gen_tokS {M : Model} {A : Around} {E : Value → Shared → Prop} {α : Type} {t : Sem α} {Q : α → Shared → Prop} {h : Heap} {g : Array GenState} {d : Drawn} {X : Nat} {o : OsState} (H : ∀ tk, wpAny M A t Q E ⟨h, g, d, tk, o⟩) : wpAny M A t Q E ⟨h, g, d, X, o⟩ := H X
section
local macro_rules | `(tactic| k_is) => `(tactic| assumption)
local macro_rules | `(tactic| walk_at "subscriptTail") => `(tactic| (k_here; (with_reducible refine g_sub ?_); (with_unfolding_all refine mat_item (by assumption) (by assumption) (by omega) (by omega) (by omega) ?_); intro r' vs' c' hr' hm' hR'))
local macro_rules | `(tactic| walk_at "subscriptTail") => `(tactic| (k_here; (with_reducible refine g_sub ?_); (with_unfolding_all refine row_item (by assumption) (by assumption) (by assumption) (by omega) (by omega) (by omega) ?_); intro _))
local macro_rules | `(tactic| walk_at "call builtin:min") => `(tactic| (k_here; (with_reducible show wpAny _ _ (call (Value.builtin _) [Value.int _ _, Value.int _ _, Value.int _ _, Value.int _ _]) _ _ _); (with_unfolding_all refine min4 (by assumption) (by assumption) (by assumption) ?_); intro h' M' t' tk' F' N' hM'))
local macro_rules | `(tactic| walk_at "setItem ref int") => `(tactic| (k_here; (with_unfolding_all refine set_at (by assumption) (by assumption) (by assumption) (by omega) (by omega) (by (rename RowIs _ _ _ => hR'); rw [hR'.1]; omega) ?_); intro h' news' F' N' hm' hk1' hk2'))
local macro_rules | `(tactic| walk_at "ite") => `(tactic| (k_here; (with_reducible show ite _ (wpAny _ _ (eval (Expr.Name _ _) _) _ _ _) (wpAny _ _ (eval (Expr.Constant _ _ _) _) _ _ _)); k_dflt (refine' join_if (b := 0) (fun q hq => ld (by assumption) (by rfl) (hq _ _)) (fun q hq => wpAny_Constant_int (hq _ _)) ?_); intro _ _; (try dsimp only)))
local macro_rules | `(tactic| walk_at "execs cons") => `(tactic| (k_here; (try (with_reducible refine gen_tokS ?_; intro tk'; try dsimp only)); refine wpAny_execs_cons ?_))
local macro_rules | `(tactic| walk_at "execs nil") => `(tactic| (k_here; refine wpAny_execs_nil ?_))
theorem step_end {g : Heap} {L : Addr} {s : Shared} {news : List (Addr × Obj)} {Q : Flow → Shared → Prop} {l : Addr} {rs : List Addr} {n1 n2 : Nat} {F0 : Nat → Nat → Int} {i j : Nat} {v : Int}
  (hQ : ∀ h' tk m' news' r, Fr g L h' m' → News g L h' news' → MatIn news' l rs n1 n2 (fun a b => if a = i ∧ b = j then v else F0 a b) → r ∈ rs → (∀ p ∈ news, p.1 ≠ r → p ∈ news') → (∀ p ∈ news', p.1 ≠ r → p ∈ news) → Q .next { s with heap := h', toks := tk })
  (M0 : MatIn news l rs n1 n2 F0) {h' : Heap} {tk : Nat} {m' : Str → Option Value} {news' : List (Addr × Obj)} {r : Addr} {vs : List Value} {c : Nat} {v' : Int} {t : Tok} (F : Fr g L h' m') (N : News g L h' news') (hr : rs[i]? = some r)
  (R : RowIs vs n2 (F0 i)) (hnew : (r, listOf (vs.set j (.int v' t)).toArray c) ∈ news') (k1 : ∀ p ∈ news, p.1 ≠ r → p ∈ news') (k2 : ∀ p ∈ news', p.1 ≠ r → p ∈ news) (e : v' = v) : Q .next { s with heap := h', toks := tk } := by
  subst e
  exact hQ _ _ _ _ _ F N (MatIn.set M0 hr R hnew k1) (List.mem_of_getElem? hr) k1 k2

set_option maxRecDepth 100000 in
set_option maxHeartbeats 8000000 in
theorem step_ok {prog : Program} {w : World} {A : Around} {g : Heap} {L f : Addr} {cd : Value} {s : Shared} {news : List (Addr × Obj)} {K : Frag} {E : Value → Shared → Prop} {Q : Flow → Shared → Prop}
  {p : Program} {loose : List Str} {mean : ExcName → Option Value} {mg mb : Str → Option Value}
  {l : Addr} {i j ll lr sc : Int} {ti tj t1 t2 t3 t4 t5 : Tok} {x1 x2 : Str} {tr : Bool} {rs : List Addr} {n1 n2 : Nat} {F0 : Nat → Nat → Int}
  (X : K.In g) (T : Top p loose mean mg mb g) (N : News g L s.heap news) (M0 : MatIn news l rs n1 n2 F0)
  (F : Fr g L s.heap (fun y => List.lookup y (List.reverse [(Str.ofString "lev", Value.ref l), (Str.ofString "i", Value.int i ti), (Str.ofString "j", Value.int j tj), (Str.ofString "s1", Value.str x1 t1), (Str.ofString "s2", Value.str x2 t2), (Str.ofString "last_left", Value.int ll t3), (Str.ofString "last_right", Value.int lr t4), (Str.ofString "substitution_cost", Value.int sc t5), (Str.ofString "transpositions", Value.bool tr)])))
  (hmin : nsIn K mainGlobals (Str.ofString "min") = some none) (hi : 1 ≤ i) (hi1 : i ≤ x1.length) (hj : 1 ≤ j) (hj1 : j ≤ x2.length) (hx1 : x1.length ≤ 10) (hx2 : x2.length ≤ 10)
  (hl0 : 0 ≤ ll) (hl1 : ll < i) (hr0 : 0 ≤ lr) (hr1 : lr < j) (hn1 : n1 = x1.length + 1) (hn2 : n2 = x2.length + 1) (hh : A.handled = none)
  (hQ : ∀ h' tk m' news' r, Fr g L h' m' → News g L h' news' → MatIn news' l rs n1 n2 (fun a b => if a = i.toNat ∧ b = j.toNat then stepVal x1 x2 sc tr F0 i j ll lr else F0 a b) → r ∈ rs → (∀ p ∈ news, p.1 ≠ r → p ∈ news') → (∀ p ∈ news', p.1 ≠ r → p ∈ news) → Q .next { s with heap := h', toks := tk }) : 
  wpAny (model prog w) A (execs stepB (envOf (Str.ofString "_edit_dist_step") stepScope L f cd)) Q E s := by
  have e : stepScope = fnScope stepSt := rfl
  dsimp only [stepSt, fnScope, at5, PySem.Challenge.pw_je0021_01] at e
  rw [e]
  clear e
  dsimp only [stepB, stepSt, fnBody, at5, PySem.Challenge.pw_je0021_01]
  k_steps
  all_goals (
    refine step_end hQ M0 (by assumption) (by assumption) (by assumption) (by assumption) (by assumption) (by assumption) (by assumption) ?_
    (rename (_ : Int) = min _ _ => hM'); rw [hM']; unfold stepVal
    first
      | (have hd : tr = true ∧ 0 < ll ∧ 0 < lr := ⟨by assumption, by assumption, by assumption⟩; simp only [if_pos hd]; done)
      | (have hd : ¬ (tr = true ∧ 0 < ll ∧ 0 < lr) := fun h => by first | omega | exact absurd (h.1.symm.trans (by assumption)) (by decide)
         simp only [if_neg hd]; done))
-- part WLlt
end
section
local macro_rules | `(tactic| k_is) => `(tactic| assumption)
local macro_rules | `(tactic| k_mem) => `(tactic| first | assumption | (refine List.mem_append_left _ ?_; k_mem) | (refine List.mem_append_right _ ?_; k_mem))
local macro_rules | `(tactic| walk_at "execs cons") => `(tactic| (k_here; (try (with_reducible refine gen_toks ?_; intro tk'; try dsimp only)); refine wpAny_execs_cons ?_))
local macro_rules | `(tactic| walk_at "execs nil") => `(tactic| (k_here; refine wpAny_execs_nil ?_))
local macro_rules | `(tactic| walk_at "exec For Name Call cons nil") => `(tactic| (k_here; (rename Fr _ _ _ _ => lF'); (with_unfolding_all refine' For_invVF lF' ?k1 ?k2 ?_; (case k1 => exact rfl); (case k2 => exact rfl); k_whole)))
local macro_rules | `(tactic| k_data) => `(tactic| with_reducible first | refine g_iter ?_ | refine g_while ?_ | refine g_comp ?_ | refine g_src ?_ | refine g_srcT ?_ | refine g_cend ?_ | refine g_asc ?_ | refine g_add ?_)
local macro_rules | `(tactic| k_steps) => `(tactic| repeat' ((fail_if_success k_data); (first | (k_unfold; (try dsimp only)) | (k_end; wrow_close) | walk1 | (dsimp only; walk1) | (leave1; walk_say "STEP leave1"; try dsimp only) | fail "no step")))
local macro_rules | `(tactic| walk_at "newTuple") => `(tactic| (k_here; k_dflt (refine' newTuple_L ?k1 ?k2 ?_; (case k1 => k_asm); (case k2 => k_asm); k_whole); intro l' h' F' N' l1 l2; (have l4 := l1); (try k_lt l1); (try k_sweep)))
local macro_rules | `(tactic| walk_at "newList") => `(tactic| (k_here; k_dflt (refine' newList_L ?k1 ?k2 ?_; (case k1 => k_asm); (case k2 => k_asm); k_whole); intro l' h' F' N' l1 l2; (have l3 := ne_allB l1); (try k_sweep)))
local macro_rules | `(tactic| walk_at "call builtin:list.append") => `(tactic| (k_here; (with_reducible refine g_app ?_); k_dflt (refine' append_L ?k1 ?k2 ?k3 ?_ ?z; (case k1 => k_asm); (case k2 => k_asm); (case k3 => k_mem); (case z => first | assumption | omega | size_fits); k_whole); intro h' news' F' N' ha' hk1' hk2'; (try k_sweep)))

def at4 : List Stmt → Stmt
  | _ :: _ :: _ :: _ :: x :: _ => x
  | _ => .Pass ⟨0,0,0,0⟩
def at2 : List Stmt → Stmt
  | _ :: _ :: x :: _ => x
  | _ => .Pass ⟨0,0,0,0⟩
def lltSt : Stmt := at4 PySem.Challenge.pw_je0021_01.main.body
def lltB : List Stmt := fnBody lltSt
def lltScope : Scope := fnScope lltSt
def chkSt : Stmt := at2 PySem.Challenge.pw_je0021_01.main.body
def chkB : List Stmt := fnBody chkSt
def chkScope : Scope := fnScope chkSt
abbrev Ar (dp un : Nat) (fr : Option (List Env)) (gd : Option (List Code)) : Around := { handled := none, depth := dp, frames := fr, guards := gd, units := un }

theorem valueAt_stored {K : Type} [DecidableEq K] (kvs : List (K × Value)) (k k' : K) (v : Value) : valueAt (stored kvs k v) k' = if k' = k then some v else valueAt kvs k' := by
  unfold stored
  split
  · rename_i h
    induction kvs with
    | nil => simp at h
    | cons p r ih =>
      by_cases e : p.1 = k'
      · by_cases e2 : k' = k
        · subst e2; simp [valueAt, e]
        · have : ¬ p.1 = k := fun e3 => e2 (e ▸ e3)
          simp [valueAt, this, e, e2]
      · have key : valueAt (List.map (fun kv => if kv.1 = k then (kv.1, v) else kv) (p :: r)) k' = valueAt (List.map (fun kv => if kv.1 = k then (kv.1, v) else kv) r) k' := by
          unfold valueAt
          rw [List.map_cons, List.find?_cons_of_neg]
          by_cases e3 : p.1 = k
          · simp only [e3, if_true]
            intro e4
            exact e (e3.trans (of_decide_eq_true e4))
          · simp only [e3, if_false]
            intro e4
            exact e (of_decide_eq_true e4)
        rw [key]
        have key2 : valueAt (p :: r) k' = valueAt r k' := by simp [valueAt, e]
        rw [key2]
        by_cases h2 : r.any (fun kv => decide (kv.1 = k)) = true
        · exact ih h2
        · have h3 : p.1 = k := by
            simp only [List.any_cons, Bool.or_eq_true, decide_eq_true_eq] at h
            rcases h with h | h
            · exact h
            · exact absurd h h2
          have h4 : ¬ k' = k := fun e4 => e (h3.trans e4.symm)
          rw [if_neg h4]
          have h5 : List.map (fun kv => if kv.1 = k then (kv.1, v) else kv) r = r := by
            conv => rhs; rw [← List.map_id r]
            refine List.map_congr_left fun q hq => ?_
            have : ¬ q.1 = k := by
              intro e5
              exact h2 (List.any_eq_true.mpr ⟨q, hq, by simp [e5]⟩)
            simp [this]
          rw [h5]
  · rename_i h
    by_cases e : k' = k
    · subst e
      have : kvs.find? (fun kv => decide (kv.1 = k')) = none := by
        rw [List.find?_eq_none]
        intro q hq hk
        exact h (List.any_eq_true.mpr ⟨q, hq, hk⟩)
      simp [valueAt, List.find?_append, this]
    · have : ¬ k = k' := fun e2 => e e2.symm
      simp [valueAt, List.find?_append, this, e]

theorem storedAll_zero {l : List Value} {kvs : List (Str × Value)} (h : StoredAll (fun v k => ∃ u, v = .str k u) (fun _ y => ∃ t, y = .int 0 t) l kvs) :
    kvs.length ≤ l.length ∧ ∀ k, (∃ u, Value.str k u ∈ l) → ∃ t, valueAt kvs k = some (.int 0 t) := by
  refine ⟨h.length_le, ?_⟩
  induction h with
  | nil => rintro k ⟨u, hu⟩; cases hu
  | @snoc l kvs v k y _ hk hy ih =>
    rintro k' ⟨u, hu⟩
    obtain ⟨u', rfl⟩ := hk
    obtain ⟨t, rfl⟩ := hy
    rw [valueAt_stored]
    by_cases e : k' = k
    · exact ⟨t, by rw [if_pos e]⟩
    · rw [if_neg e]
      rcases List.mem_append.mp hu with hu | hu
      · exact ih k' ⟨u, hu⟩
      · exfalso
        have := List.mem_singleton.mp hu
        injection this with h1 _
        exact e h1

section
variable {prog : Program} {w : World} {A : Around} {E : Value → Shared → Prop} {s : Shared} {env : Env} {h₀ : Heap} {L : Addr} {m : Str → Option Value} {news : List (Addr × Obj)}
/-- {c: 0 for c in sigma}, sigma a str -/
theorem zero_comp {x : Str} {t : Tok} {scope : Scope} {cl : List (Str × Addr)} {c sg : Str} {p1 p2 p3 p4 pos : Pos} {k0 : Nat} {Q : Value → Shared → Prop} (hh : A.handled = none) (F : Fr h₀ L s.heap m) (N : News h₀ L s.heap news) (hsz : x.cps.size ≤ 100)
    (hclos : closureFor scope env = pure cl) (hcell : ∀ y ∈ scope.names, y.2 ≠ .cell) (hkind : scope.kind = .function)
    (hnames : ∀ y ∈ scope.names, y.2 = .local → scope.names.lookup y.1 = some .local) (hx : scope.names.lookup c = some .local)
    (hit : ∀ {Q' : Value → Shared → Prop} {E' : Value → Shared → Prop}, Q' (.str x t) s → wpAny (model prog w) A (eval (.Name sg p4) env) Q' E' s)
    (hkey : ∀ C v s₃ m₃ E', s₃.heap.Ns C m₃ → m₃ c = some v → wpAny (model prog w) A (eval (.Name c p1) (compEnvC scope cl C env)) (fun y s₄ => y = v ∧ s₄ = s₃) E' s₃)
    (hval : ∀ C (s₃ : Shared) E', wpAny (model prog w) A (eval (.Constant (.int 0) k0 p2) (compEnvC scope cl C env)) (fun y s₄ => (∃ t, y = .int 0 t) ∧ Keeps s₃ s₄) E' s₃)
    (hQ : ∀ D o kvs h' tk, Fr h₀ L h' m → News h₀ L h' ((D, o) :: news) → Apart news D → o.IsDictOf (strKind prog w) kvs → kvs.length ≤ x.cps.size → (∀ k ∈ x.cps.toList, ∃ t, valueAt kvs ⟨#[k]⟩ = some (.int 0 t)) → Q (.ref D) { s with heap := h', toks := tk }) :
    wpAny (model prog w) A (eval (.DictComp (.Name c p1) (.Constant (.int 0) k0 p2) [⟨.Name c p3, .Name sg p4, [], 0⟩] scope pos) env) Q E s := by
  refine wpAny_DictComp_free (strKind prog w) (fun _ => true) (fun v k => ∃ u, v = .str k u) (fun _ y => ∃ t, y = .int 0 t) hclos hcell hkind hnames hx ?_
  refine hit (wpAny_pyIter_str fun o St hW hst => ?_)
  have hL : L < s.heap.objs.size := F.ns.lt
  refine ⟨_, _, _, _, _, _, rfl, hW A hh, Nat.le_trans hsz (by decide), hst, ?_, ⟨?_, ?_, ?_⟩, ?_⟩
  · intro b hb
    rw [List.mem_singleton.mp hb]
    show _ < (s.heap.push o).objs.size
    rw [Heap.size_push]; exact Nat.lt_succ_self _
  · intro C i v s₃ m₃ E' _ _ _ _
    exact wpAny_pure ⟨rfl, ⟨s₃.heap, s₃.toks, rfl, fun _ _ e => e⟩⟩
  · rintro C i v s₃ m₃ E' ⟨c', u, hc, rfl⟩ _ hn hm _
    refine wpAny_mono (hkey C _ s₃ m₃ E' hn hm) (fun y s₄ h => ?_) fun _ _ e => e
    obtain ⟨rfl, rfl⟩ := h
    exact ⟨⟨_, strKind_is prog w _ _, u, rfl⟩, ⟨s₄.heap, s₄.toks, rfl, fun _ _ e => e⟩⟩
  · rintro C i v s₃ m₃ E' _ _ _ _ _
    exact hval C s₃ E'
  · intro D h' tk kvs vs hD hDd hlen hP hF hk
    have hF' : StoredAll (fun v k => ∃ u, v = .str k u) (fun _ y => ∃ t, y = .int 0 t) vs kvs := by
      have e : vs.filter (fun _ => true) = vs := List.filter_eq_self.mpr fun _ _ => rfl
      rw [e] at hF; exact hF
    obtain ⟨hl, hz⟩ := storedAll_zero hF'
    obtain ⟨ob, hob, hdd⟩ := Heap.dictOf_iff.mp hDd
    have keep : ∀ b o', s.heap.get? b = some o' → h'.get? b = some o' := fun b o' e =>
      hk b o' (fun hm => by rw [List.mem_singleton.mp hm] at e; exact absurd (Heap.lt_size e) (Nat.lt_irrefl _)) (Heap.get?_push_of_some _ e)
    have hap : Apart news D := fun p hp e => by
      have h1 := Heap.get?_push_of_some o (N p hp).1
      rw [e] at h1
      rw [show (s.heap.push o).get? D = none from hD] at h1
      cases h1
    have hDL : D ≠ L := fun e => by
      obtain ⟨oL, _, _, hoL, _⟩ := F.ns
      have h1 := Heap.get?_push_of_some o hoL
      rw [← e] at h1
      rw [show (s.heap.push o).get? D = none from hD] at h1
      cases h1
    have hD0 : h₀.get? D = none := by
      cases e : h₀.get? D with
      | none => rfl
      | some o' =>
        have h1 := Heap.get?_push_of_some o (F.keep _ _ e)
        rw [show (s.heap.push o).get? D = none from hD] at h1
        cases h1
    refine hQ D ob kvs h' tk (F.grownK keep) (fun p hp => ?_) hap hdd (by omega) ?_
    · rcases List.mem_cons.mp hp with rfl | hp
      · exact ⟨hob, hDL, hD0⟩
      · exact ⟨keep _ _ (N p hp).1, (N p hp).2⟩
    · intro k hk'
      obtain ⟨i, hi⟩ := List.mem_iff_getElem?.mp hk'
      have hi2 : x.cps[i]? = some k := by rw [← Array.getElem?_toList]; exact hi
      have hlt : i < vs.length := by
        rw [hlen]
        obtain ⟨h1, _⟩ := Array.getElem?_eq_some_iff.mp hi2
        exact h1
      obtain ⟨c', u, hc, e⟩ := hP i vs[i] (List.getElem?_eq_getElem hlt)
      rw [hi2] at hc
      cases hc
      exact hz _ ⟨u, e ▸ List.getElem_mem hlt⟩
end

set_option maxRecDepth 100000 in
set_option maxHeartbeats 8000000 in
theorem llt_ok {prog : Program} {w : World} {dp un : Nat} {fr : Option (List Env)} {gd : Option (List Code)} {g : Heap} {L f : Addr} {cd : Value} {s : Shared} {news : List (Addr × Obj)} {K : Frag} {Q : Flow → Shared → Prop}
  {p : Program} {loose : List Str} {mean : ExcName → Option Value} {mg mb : Str → Option Value}
  {x : Str} {t1 : Tok}
  (X : K.In g) (T : Top p loose mean mg mb g) (N : News g L s.heap news)
  (F : Fr g L s.heap (fun y => List.lookup y (List.reverse [(Str.ofString "sigma", Value.str x t1)])))
  (hx : x.cps.size ≤ 100)
  (hQ : ∀ D o kvs h' tk m', Fr g L h' m' → News g L h' ((D, o) :: news) → Apart news D → o.IsDictOf (strKind prog w) kvs → kvs.length ≤ x.cps.size → (∀ k ∈ x.cps.toList, ∃ t, valueAt kvs ⟨#[k]⟩ = some (.int 0 t)) → Q (.ret (.ref D)) { s with heap := h', toks := tk }) :
  wpAny (model prog w) (Ar dp un fr gd) (execs lltB (envOf (Str.ofString "_last_left_t_init") lltScope L f cd)) Q (fun _ _ => False) s := by
  have e : lltScope = fnScope lltSt := rfl
  dsimp only [lltSt, fnScope, at4, PySem.Challenge.pw_je0021_01] at e
  rw [e]
  clear e
  dsimp only [lltB, lltSt, fnBody, at4, PySem.Challenge.pw_je0021_01]
  refine wpAny_execs_cons (wpAny_Return_some ?_)
  refine zero_comp (A := Ar dp un fr gd) (cl := []) (t := t1) rfl F N hx ?c1 ?c2 ?c3 ?c4 ?c5 ?_ ?_ ?_ ?_
  case c1 => rfl
  case c2 => decide
  case c3 => rfl
  case c4 => decide
  case c5 => rfl
  · intro Q' E' h
    exact ld F rfl h
  · intro C v s₃ m₃ E' hn hm
    exact wpAny_Name (wpAny_loadName_local (by rfl) (by rfl) hn hm ⟨rfl, rfl⟩) (by decide)
  · intro C s₃ E'
    exact wpAny_Constant_int ⟨⟨_, rfl⟩, ⟨_, _, rfl, fun _ _ e => e⟩⟩
  · intro D o kvs h' tk F' N' ha hd hl hz
    exact hQ D o kvs h' tk _ F' N' ha hd hl hz

set_option maxRecDepth 100000 in
set_option maxHeartbeats 8000000 in
theorem chk_ok {prog : Program} {w : World} {dp un : Nat} {fr : Option (List Env)} {gd : Option (List Code)} {g : Heap} {L f : Addr} {cd : Value} {s : Shared} {news : List (Addr × Obj)} {K : Frag} {Q : Flow → Shared → Prop}
  {p : Program} {loose : List Str} {mean : ExcName → Option Value} {mg mb : Str → Option Value}
  {x1 x2 x3 : Str} {t1 t2 t3 t4 : Tok}
  (X : K.In g) (T : Top p loose mean mg mb g) (N : News g L s.heap news)
  (F : Fr g L s.heap (fun y => List.lookup y (List.reverse [(Str.ofString "s1", Value.str x1 t1), (Str.ofString "s2", Value.str x2 t2), (Str.ofString "func_name", Value.str x3 t3)])))
  (hlen : nsIn K mainGlobals (Str.ofString "len") = some none) (hmax : nsIn K mainGlobals (Str.ofString "max") = some none) (hM : nsIn K mainGlobals (Str.ofString "MAX_DISTANCE_INPUT_LEN") = some (some (.int 2000 t4)))
  (hx1 : x1.length ≤ 10) (hx2 : x2.length ≤ 10)
  (hQ : ∀ h' tk m', Fr g L h' m' → News g L h' news → Q .next { s with heap := h', toks := tk }) :
  wpAny (model prog w) (Ar dp un fr gd) (execs chkB (envOf (Str.ofString "_check_distance_input_len") chkScope L f cd)) Q (fun _ _ => False) s := by
  have e : chkScope = fnScope chkSt := rfl
  dsimp only [chkSt, fnScope, at2, PySem.Challenge.pw_je0021_01] at e
  rw [e]
  clear e
  dsimp only [chkB, chkSt, fnBody, at2, PySem.Challenge.pw_je0021_01]
  k_steps
  all_goals exact hQ _ _ _ (by assumption) (by assumption)
-- part WCalls

def FnEnd (g : Heap) (s : Shared) (P : Value → List (Addr × Obj) → Prop) (fl : Flow) (s' : Shared) : Prop :=
  ∃ h' tk news' L' m', s' = { s with heap := h', toks := tk } ∧ Fr g L' h' m' ∧ News g L' h' news' ∧ P (match fl with | .ret v => v | _ => .none) news'

theorem fn_ret {g : Heap} {s : Shared} {P : Value → List (Addr × Obj) → Prop} {v : Value} {h' : Heap} {tk : Nat} {news' : List (Addr × Obj)} {L' : Addr} {m' : Str → Option Value}
    (F : Fr g L' h' m') (N : News g L' h' news') (hP : P v news') : FnEnd g s P (.ret v) { s with heap := h', toks := tk } := ⟨h', tk, news', L', m', rfl, F, N, hP⟩
theorem fn_next {g : Heap} {s : Shared} {P : Value → List (Addr × Obj) → Prop} {h' : Heap} {tk : Nat} {news' : List (Addr × Obj)} {L' : Addr} {m' : Str → Option Value}
    (F : Fr g L' h' m') (N : News g L' h' news') (hP : P .none news') : FnEnd g s P .next { s with heap := h', toks := tk } := ⟨h', tk, news', L', m', rfl, F, N, hP⟩
theorem call_fn {prog : Program} {w : World} {A A₀ : Around} {E : Value → Shared → Prop} {s : Shared} {K : Frag} {L : Addr} {h₀ base : Heap} {m mg mb : Str → Option Value} {news : List (Addr × Obj)} {p : Program} {loose : List Str} {mean : ExcName → Option Value} {Q : Value → Shared → Prop}
    {env : Env} {outer : List Env} {name qual : Str} {params : Arguments} {body : List Stmt} {scope : Scope} {dV kV doc pm cdv ct oc : Value} {an od : Option Addr} {osl : Array (Option Value)} {f : Addr} {args : List Value} {kw : List (Str × Value)} {binds : List (Str × Value)}
    (P : Value → List (Addr × Obj) → Prop)
    (B : Below A₀ base outer h₀) (F : Fr h₀ L s.heap m) (X₀ : K.In h₀) (N : News h₀ L s.heap news) (T : Top p loose mean mg mb h₀) (hA : A.frames = some (env :: outer)) (hf : env.frame = some L) (hke : env.scope.kind = .function)
    (ho : K.lookup f = some ⟨oc, od, .func (fnOf name qual params body scope dV kV doc pm an cdv ct), osl⟩) (hcd : codeIn K cdv qual = true) (hroom : A.depth < recursionLimit)
    (hbind : BindsTo s (fnOf name qual params body scope dV kV doc pm an cdv ct) ⟨args, kw⟩ binds) (hloc : ∀ y ∈ binds, scope.names.lookup y.1 = some .local)
    (hco : scope.isCoroutine = false) (hgen : scope.isGenerator = false) (hk : scope.kind = .function) (hcell : ∀ x ∈ scope.names, x.2 ≠ .cell)
    (h : ∀ g L' h₁ tk, Fr h₀ L g m → Fr g L' h₁ (fun y => binds.reverse.lookup y) → News g L' h₁ news → Below A base (env :: outer) g → K.In g → Top p loose mean mg mb g →
      wpAny (model prog w) (A.deeper (envOf qual scope L' f cdv)) (execs body (envOf qual scope L' f cdv)) (FnEnd g s P) (fun _ _ => False) { s with heap := h₁, toks := tk })
    (k : ∀ v news' h' tk, P v news' → Fr h₀ L h' m → News h₀ L h' news' → Q v { s with heap := h', toks := tk }) :
    wpAny (model prog w) A (call (.ref f) args kw) Q E s := by
  refine wpAny_call (code_def B F X₀ N T hA hf hke ho hcd hroom hbind hloc (fun g L' h₁ FG F' N' B' X' T' => ?_) hco hgen hk hcell)
  refine wpAny_mono (h g L' h₁ _ FG F' N' B' X' T') (fun fl s' he => ?_) fun _ _ x => x.elim
  obtain ⟨h', tk, news', L'', m', rfl, F2, N2, hP⟩ := he
  exact ⟨L'', m', news', F2, N2, fun F3 N3 => k _ news' h' tk hP F3 N3⟩

def fnParams : Stmt → Option Arguments
  | .FunctionDef (args := b) .. => some b
  | _ => none
structure FnAt (K : Frag) (nm : Str) (st : Stmt) (dV : Value) (f : Addr) : Prop where
  name : nsIn K mainGlobals nm = some (some (.ref f))
  keep : keepIn K (.ref f) = true
  obj : ∃ ps oc od kV doc pm an cdv ct osl, fnParams st = some ps ∧ K.lookup f = some ⟨oc, od, .func (fnOf nm nm ps (fnBody st) (fnScope st) dV kV doc pm an cdv ct), osl⟩ ∧ codeIn K cdv nm = true
theorem fnAt_take {K : Frag} {nm : Str} {st : Stmt} {dV : Value} {f : Addr} (H : FnAt K nm st dV f) {ps : Arguments} (e : fnParams st = some ps) {P : Prop}
    (k : nsIn K mainGlobals nm = some (some (.ref f)) → keepIn K (.ref f) = true → ∀ oc od kV doc pm an cdv ct osl, K.lookup f = some ⟨oc, od, .func (fnOf nm nm ps (fnBody st) (fnScope st) dV kV doc pm an cdv ct), osl⟩ → codeIn K cdv nm = true → P) : P := by
  obtain ⟨h1, h2, ps', oc, od, kV, doc, pm, an, cdv, ct, osl, hp, ho, hc⟩ := H
  rw [e] at hp
  cases hp
  exact k h1 h2 oc od kV doc pm an cdv ct osl ho hc
-- part WDict
section
variable {prog : Program} {w : World} {A : Around} {E : Value → Shared → Prop} {s : Shared} {h₀ : Heap} {L : Addr} {m : Str → Option Value} {news : List (Addr × Obj)} {value slice : Expr}
theorem News.same {h : Heap} {a : Addr} {o o' : Obj} (N : News h₀ L h news) (h1 : (a, o) ∈ news) (h2 : (a, o') ∈ news) : o = o' :=
  Option.some.inj ((N _ h1).1.symm.trans (N _ h2).1)
theorem dict_item {d : Addr} {o : Obj} {kvs : List (Str × Value)} {x : Str} {t : Tok} {v : Value} {Q : Value → Shared → Prop} (N : News h₀ L s.heap news) (hm : (d, o) ∈ news) (hd : o.IsDictOf (strKind prog w) kvs) (hv : valueAt kvs x = some v)
    (h : Q v { s with toks := s.toks + 1 })
    (hs : subscripted slice false (.ref d) (.str x t) = operate [.ref d, .str x t] (getItem (.ref d) (.str x t)) := by with_unfolding_all rfl) (hg : ∀ r, letTemporaryGo value (.ref d) r = pure () := by intro _; with_unfolding_all rfl) :
    wpAny (model prog w) A (subscriptTail value slice (.ref d) (.str x t)) Q E s := by
  have hD : s.heap.DictOf (strKind prog w) d kvs := Heap.dictOf_iff.mpr ⟨o, (N _ hm).1, hd⟩
  exact subscriptTail_builtin hD.mapOf.typeIs slot_dict_getitem.lookup (wpAny_getItem_of (strKind_is prog w x t) hD.mapOf hv h) hs hg
theorem dict_set {d : Addr} {o : Obj} {kvs : List (Str × Value)} {x : Str} {t : Tok} {v : Value} {Q : Unit → Shared → Prop} (F : Fr h₀ L s.heap m) (N : News h₀ L s.heap news) (hm : (d, o) ∈ news) (hd : o.IsDictOf (strKind prog w) kvs) (hl : kvs.length ≤ 1000)
    (h : ∀ h' news' o', Fr h₀ L h' m → News h₀ L h' news' → (d, o') ∈ news' → o'.IsDictOf (strKind prog w) (stored kvs x v) → (∀ p ∈ news, p.1 ≠ d → p ∈ news') → Q () { s with heap := h', toks := s.toks + 1 }) :
    wpAny (model prog w) A (setItem (.ref d) (.str x t) v) Q E s := by
  have hD : s.heap.DictOf (strKind prog w) d kvs := Heap.dictOf_iff.mpr ⟨o, (N _ hm).1, hd⟩
  refine wpAny_setItem_pairs (hsz := Nat.le_trans hl (by decide)) (strKind_is prog w x t) hD fun h' hD' hs => ?_
  obtain ⟨o', ho', hd'⟩ := Heap.dictOf_iff.mp hD'
  refine h h' (news.map fun p => if p.1 = d then (d, o') else p) o' (F.change hs (N _ hm).2.1 (N _ hm).2.2) (N.replace hs ho') ?_ hd' ?_
  · exact List.mem_map.mpr ⟨_, hm, by simp⟩
  · exact fun p hp hne => List.mem_map.mpr ⟨p, hp, by simp [hne]⟩
end
theorem IsDict.plain {prog : Program} {w : World} {o : Obj} {kvs : List (Str × Value)} (h : o.IsDictOf (strKind prog w) kvs) : o.cls = .type "dict" := by
  obtain ⟨es, ep, he, _⟩ := h; exact he.1
theorem plainB_dict {o : Obj} (h : o.cls = .type "dict") : plainB o = true := by
  unfold plainB; rw [h]; rfl
theorem MatIn.apart_dict {news : List (Addr × Obj)} {h₀ h : Heap} {L l d : Addr} {rs : List Addr} {n1 n2 : Nat} {f : Nat → Nat → Int} {o : Obj} (M : MatIn news l rs n1 n2 f) (N : News h₀ L h news) (hd : (d, o) ∈ news) (ho : o.cls = .type "dict") : d ≠ l ∧ ∀ r ∈ rs, d ≠ r := by
  refine ⟨?_, fun r hr => ?_⟩
  · rintro rfl
    obtain ⟨c, hc⟩ := M.top
    rw [News.same N hd hc] at ho
    exact absurd ho (by intro e; injection e with e; exact absurd e (by decide))
  · rintro rfl
    obtain ⟨i, hi⟩ := List.mem_iff_getElem?.mp hr
    obtain ⟨vs, c, hm, R⟩ := M.row i _ hi
    rw [News.same N hd hm] at ho
    exact absurd ho (by intro e; injection e with e; exact absurd e (by decide))
/-- one name's value told -/
theorem fr_known {h₀ h : Heap} {L : Addr} {m : Str → Option Value} (z : Str) {x : Str} {v w : Option Value} (F : Fr h₀ L h (fun y => if y = x then v else m y)) (hz : m z = w) : Fr h₀ L h (fun y => if y = x then v else if y = z then w else m y) := by
  have e : (fun y => if y = x then v else if y = z then w else m y) = fun y => if y = x then v else m y := by
    funext y
    by_cases h1 : y = x
    · rw [if_pos h1, if_pos h1]
    · rw [if_neg h1, if_neg h1]
      by_cases h2 : y = z
      · rw [if_pos h2, h2, hz]
      · rw [if_neg h2]
  rw [e]; exact F
theorem fr_known0 {h₀ h : Heap} {L : Addr} {m : Str → Option Value} (z : Str) {w : Option Value} (F : Fr h₀ L h m) (hz : m z = w) : Fr h₀ L h (fun y => if y = z then w else m y) := by
  have e : (fun y => if y = z then w else m y) = m := by
    funext y
    by_cases h2 : y = z
    · rw [if_pos h2, h2, hz]
    · rw [if_neg h2]
  rw [e]; exact F

/-- the last place below n (1, 2 ..) where P holds; 0 where none -/
def IsLast (P : Nat → Prop) (n r : Nat) : Prop := (r = 0 ∨ (1 ≤ r ∧ r < n ∧ P r)) ∧ ∀ k, r < k → k < n → ¬ P k
theorem IsLast.start (P : Nat → Prop) {n : Nat} (h : n ≤ 1) : IsLast P n 0 := ⟨.inl rfl, fun k h1 h2 => by lia⟩
theorem IsLast.hit {P : Nat → Prop} {n : Nat} (h : 1 ≤ n) (hp : P n) : IsLast P (n + 1) n := ⟨.inr ⟨h, by lia, hp⟩, fun k h1 h2 => by lia⟩
theorem IsLast.miss {P : Nat → Prop} {n r : Nat} (h : IsLast P n r) (hp : ¬ P n) : IsLast P (n + 1) r :=
  ⟨h.1.imp id fun ⟨a, b, c⟩ => ⟨a, by lia, c⟩, fun k h1 h2 => by
    by_cases e : k = n
    · subst e; exact hp
    · exact h.2 k h1 (by lia)⟩
theorem IsLast.lt {P : Nat → Prop} {n r : Nat} (h : IsLast P n r) (hn : 1 ≤ n) : r < n := by rcases h.1 with h | h <;> lia

/-- the k-th letter (1, 2 ..) -/
def lt1 (x : Str) (k : Nat) : Str := Txt.item x ((k : Int) - 1)
def CellEq (x1 x2 : Str) (sc : Int) (tr : Bool) (u : Nat → Nat → Int) (i j : Nat) : Prop :=
  ∃ ll lr : Nat, IsLast (fun k => lt1 x1 k = lt1 x2 j) i ll ∧ IsLast (fun k => lt1 x2 k = lt1 x1 i) j lr ∧ u i j = stepVal x1 x2 sc tr u i j ll lr
def Bord (u : Nat → Nat → Int) (n1 n2 : Nat) : Prop := (∀ b, b < n2 → u 0 b = b) ∧ (∀ a, a < n1 → u a 0 = a)
theorem stepVal_congr {x1 x2 : Str} {sc : Int} {tr : Bool} {u u' : Nat → Nat → Int} {i j ll lr : Nat} (hi : 1 ≤ i) (hj : 1 ≤ j) (hl : ll < i ∨ ll = 0) (hr : lr < j ∨ lr = 0) (h : ∀ a b, a ≤ i → b ≤ j → ¬ (a = i ∧ b = j) → u' a b = u a b) :
    stepVal x1 x2 sc tr u' i j ll lr = stepVal x1 x2 sc tr u i j ll lr := by
  unfold stepVal
  rw [toNat1, toNat1, toNat1, toNat1, Int.toNat_natCast, Int.toNat_natCast, h (i-1) (j-1) (by lia) (by lia) (by lia), h (i-1) j (by lia) (by lia) (by lia), h i (j-1) (by lia) (by lia) (by lia), h (ll-1) (lr-1) (by lia) (by lia) (by lia)]
theorem CellEq.congr {x1 x2 : Str} {sc : Int} {tr : Bool} {u u' : Nat → Nat → Int} {i j : Nat} (c : CellEq x1 x2 sc tr u i j) (hi : 1 ≤ i) (hj : 1 ≤ j) (h : ∀ a b, a ≤ i → b ≤ j → u' a b = u a b) : CellEq x1 x2 sc tr u' i j := by
  obtain ⟨ll, lr, h1, h2, e⟩ := c
  have := h1.lt hi
  have := h2.lt hj
  refine ⟨ll, lr, h1, h2, ?_⟩
  rw [h i j (Nat.le_refl _) (Nat.le_refl _), e]
  exact (stepVal_congr hi hj (by lia) (by lia) (fun a b ha hb _ => h a b ha hb)).symm
theorem CellEq.new {x1 x2 : Str} {sc : Int} {tr : Bool} {u : Nat → Nat → Int} {i j ll lr : Nat} (hi : 1 ≤ i) (hj : 1 ≤ j) (h1 : IsLast (fun k => lt1 x1 k = lt1 x2 j) i ll) (h2 : IsLast (fun k => lt1 x2 k = lt1 x1 i) j lr) :
    CellEq x1 x2 sc tr (fun a b => if a = i ∧ b = j then stepVal x1 x2 sc tr u i j ll lr else u a b) i j := by
  have := h1.lt hi
  have := h2.lt hj
  refine ⟨ll, lr, h1, h2, ?_⟩
  show (if i = i ∧ j = j then _ else _) = _
  rw [if_pos ⟨rfl, rfl⟩]
  refine (stepVal_congr hi hj (by lia) (by lia) (fun a b ha hb hn => ?_)).symm
  show (if a = i ∧ b = j then _ else _) = _
  rw [if_neg hn]

theorem letter_of (x : Str) (k : Nat) (h1 : 1 ≤ k) (h2 : k ≤ x.length) : ∃ c ∈ x.cps.toList, lt1 x k = ⟨#[c]⟩ := by
  have hl : x.length = x.cps.size := rfl
  refine ⟨x.cps.getD (k - 1) 0, ?_, ?_⟩
  · have hlt : k - 1 < x.cps.size := by lia
    rw [Array.getD_eq_getD_getElem?, Array.getElem?_eq_getElem hlt]
    exact Array.mem_toList_iff.mpr (Array.getElem_mem hlt)
  · exact item_at (by lia) (by lia) (by lia)
theorem letter_l (x y : Str) (k : Nat) (h1 : 1 ≤ k) (h2 : k ≤ x.length) : ∃ c ∈ (x ++ y).cps.toList, lt1 x k = ⟨#[c]⟩ := by
  obtain ⟨c, hc, e⟩ := letter_of x k h1 h2
  refine ⟨c, ?_, e⟩
  rw [Str.cps_append, Array.toList_append]
  exact List.mem_append_left _ hc
theorem letter_r (x y : Str) (k : Nat) (h1 : 1 ≤ k) (h2 : k ≤ y.length) : ∃ c ∈ (x ++ y).cps.toList, lt1 y k = ⟨#[c]⟩ := by
  obtain ⟨c, hc, e⟩ := letter_of y k h1 h2
  refine ⟨c, ?_, e⟩
  rw [Str.cps_append, Array.toList_append]
  exact List.mem_append_right _ hc

theorem cells_next {x1 x2 : Str} {sc : Int} {tr : Bool} {u : Nat → Nat → Int} {n1 n2 i j ll lr : Nat} (hi : i < n1) (hB : Bord u n1 n2) (hC : ∀ a b, 1 ≤ a → a ≤ i → 1 ≤ b → b < n2 → CellEq x1 x2 sc tr u a b) (hD : ∀ b, 1 ≤ b → b ≤ j → CellEq x1 x2 sc tr u (i + 1) b)
    (h1 : IsLast (fun k => lt1 x1 k = lt1 x2 (j + 1)) (i + 1) ll) (h2 : IsLast (fun k => lt1 x2 k = lt1 x1 (i + 1)) (j + 1) lr) {u' : Nat → Nat → Int}
    (e : u' = fun a b => if a = i + 1 ∧ b = j + 1 then stepVal x1 x2 sc tr u ((i + 1 : Nat) : Int) ((j + 1 : Nat) : Int) ll lr else u a b) :
    Bord u' n1 n2 ∧ (∀ a b, 1 ≤ a → a ≤ i → 1 ≤ b → b < n2 → CellEq x1 x2 sc tr u' a b) ∧ ∀ b, 1 ≤ b → b ≤ j + 1 → CellEq x1 x2 sc tr u' (i + 1) b := by
  subst e
  refine ⟨⟨fun b hb => ?_, fun a ha => ?_⟩, fun a b ha1 ha2 hb1 hb2 => ?_, fun b hb1 hb2 => ?_⟩
  · show (if 0 = i + 1 ∧ b = j + 1 then _ else _) = _
    rw [if_neg (by lia)]; exact hB.1 b hb
  · show (if a = i + 1 ∧ 0 = j + 1 then _ else _) = _
    rw [if_neg (by lia)]; exact hB.2 a ha
  · refine (hC a b ha1 ha2 hb1 hb2).congr ha1 hb1 fun a' b' h3 h4 => ?_
    show (if a' = i + 1 ∧ b' = j + 1 then _ else _) = _
    rw [if_neg (by lia)]
  · by_cases e : b = j + 1
    · subst e
      exact CellEq.new (by lia) (by lia) h1 h2
    · refine (hD b hb1 (by lia)).congr (by lia) hb1 fun a' b' h3 h4 => ?_
      show (if a' = i + 1 ∧ b' = j + 1 then _ else _) = _
      rw [if_neg (by lia)]
-- part WInit

section
local macro_rules | `(tactic| walk_at "subscriptTail") => `(tactic| (k_here; (with_reducible refine g_sub ?_); (with_unfolding_all refine mat_item (by assumption) (by assumption) (by omega) (by omega) (by omega) ?_); intro r' vs' c' hr' hm' hR'))
local macro_rules | `(tactic| walk_at "subscriptTail") => `(tactic| (k_here; (with_reducible refine g_sub ?_); (with_unfolding_all refine row_item (by assumption) (by assumption) (by assumption) (by omega) (by omega) (by omega) ?_); intro _))
local macro_rules | `(tactic| walk_at "setItem ref int") => `(tactic| (k_here; (with_unfolding_all refine set_at (by assumption) (by assumption) (by assumption) (by omega) (by omega) (by (rename RowIs _ _ _ => hR'); rw [hR'.1]; omega) ?_); intro h' news' F' N' hm' hk1' hk2'))

set_option maxRecDepth 100000 in
set_option maxHeartbeats 8000000 in
theorem init_ok {prog : Program} {w : World} {A : Around} {g : Heap} {L f : Addr} {cd : Value} {s : Shared} {news : List (Addr × Obj)} {K : Frag} {Q : Flow → Shared → Prop}
  {p : Program} {loose : List Str} {mean : ExcName → Option Value} {mg mb : Str → Option Value}
  {n1 n2 : Nat} {t1 t2 : Tok}
  (X : K.In g) (T : Top p loose mean mg mb g) (N : News g L s.heap news)
  (F : Fr g L s.heap (fun y => List.lookup y (List.reverse [(Str.ofString "len1", Value.int n1 t1), (Str.ofString "len2", Value.int n2 t2)])))
  (hmin : nsIn K mainGlobals (Str.ofString "range") = some none) (hn1 : 1 ≤ n1) (hn2 : 1 ≤ n2) (hm1 : n1 ≤ 20) (hm2 : n2 ≤ 20) (hh : A.handled = none)
  (hQ : ∀ h' tk m' news' l rs, Fr g L h' m' → News g L h' news' → (∀ p ∈ news, p ∈ news') → MatIn news' l rs n1 n2 (fun a b => if a = 0 then (b : Int) else if b = 0 then (a : Int) else 0) → Apart news l → (∀ r ∈ rs, Apart news r) → Q (.ret (.ref l)) { s with heap := h', toks := tk }) :
  wpAny (model prog w) A (execs initB (envOf (Str.ofString "_edit_dist_init") initScope L f cd)) Q (fun _ _ => False) s := by
  have e : initScope = fnScope initSt := rfl
  dsimp only [initSt, fnScope, at3, PySem.Challenge.pw_je0021_01] at e
  rw [e]
  clear e
  dsimp only [initB, initSt, fnBody, at3, PySem.Challenge.pw_je0021_01]
  k_steps
  rename_i l h1 l1 l2 l3 h2 F2 N2 tk h3 tk3 t3 u3 v3 hr F3 N3 hk
  clear F2 N2 hk
  refine rngS (L := L) [Str.ofString "i"] n1 news (fun i m mine => ∃ rs, MatIn mine l rs i n2 (fun _ _ => 0)) rfl hh F3 N3 hr ?_ ?_ (fun p hp => List.mem_cons_of_mem _ hp) (by decide) ?_ ?_ ?_
  · exact small_one (by lia) (by lia) (by lia) (by lia)
  · exact rangeSize_nat _ _
  · refine ⟨[], ⟨⟨0, mem_mineOf (.head _) rfl (fun q hq => Nat.ne_of_lt (l1 q hq))⟩, rfl, fun i r hr => by simp at hr, List.nodup_nil, by simp⟩⟩
  · rintro i t u mine h tk own hi ⟨rs, M⟩ hml hown F4 N4
    obtain ⟨c, hc⟩ := M.top
    have hrl := M.len
    k_steps
    rename_i l' _ l1' l2' _ D _ i1 _ _ _ _ _ lD _ news' F5 N5 ha hk1 hk2
    have lD' := allLt_mem lD.2
    refine exe_0_2 (M.fresh (a := D) (fun p hp => lD' p (List.mem_append_right _ (List.mem_append_left _ hp)))) ?_
    intro f1 f2
    refine exe_0_2 (M.above (keep := news) (fun p hp => (hml p hp).1)) ?_
    intro b1 b2
    have lD0 : Apart news D := fun q hq => Nat.ne_of_lt (lD' q (List.mem_append_right _ (List.mem_append_right _ hq)))
    refine post_next F5 N5 (fun p hp => hk1 p (.tail _ (.tail _ (List.mem_append_left _ hp))) (hown p hp _ hc)) (fun p hp => hk1 p (.tail _ (.tail _ (List.mem_append_right _ (List.mem_append_right _ hp)))) (Nat.ne_of_lt (l1 p hp))) ?_ ?_
    · intro y hy
      repeat' first | exact rfl | refine skip1 (ne_in hy (by rfl)) ?_ | refine skipS hy (by rfl) ?_ | refine keep2 (fun e => by subst e; rfl) ?_
    · refine ⟨rs ++ [D], (M.push (news' := news') (c := 0) (hk1 _ (.head _) (Ne.symm f2)) (RowIs.rep (k := n2) ⟨_, rfl⟩) (c' := c + 1) (by rw [List.map_append]; exact ha) f1 f2 (fun p hp hne => hk1 p (.tail _ (.tail _ (List.mem_append_right _ (List.mem_append_left _ hp)))) hne)).toMine b1 ?_⟩
      intro r hr
      rcases List.mem_append.mp hr with hr | hr
      · exact b2 r hr
      · rw [List.mem_singleton.mp hr]; exact lD0
  rintro u mine h tk ⟨rs, M⟩ hml F4 N4
  refine exe_0_2 (M.above (keep := news) (fun p hp => (hml p hp).1)) ?_
  intro b1 b2
  clear hr F3 N3
  k_steps
  rename_i h3 tk3 t3 u3 v3 hr F3 N3 hk
  clear hk
  refine rngS (L := L) [Str.ofString "i"] n1 news (fun i m mine => MatIn mine l rs n1 n2 (fun a b => if b = 0 ∧ a < i then (a : Int) else 0)) rfl hh F3 N3 hr ?_ ?_ (fun p hp => List.mem_append_right _ hp) (by decide) ?_ ?_ ?_
  · exact small_one (by lia) (by lia) (by lia) (by lia)
  · exact rangeSize_nat _ _
  · exact ((M.mono (fun p hp _ => List.mem_append_left _ hp)).toMine b1 b2).congr (by intro a b _ _; simp)
  · rintro i t u mine h tk own hi M hml hown F4 N4
    have M' := M.mono (news' := own ++ (mine ++ news)) (fun p hp _ => List.mem_append_right _ (List.mem_append_left _ hp))
    k_steps
    rename_i r vs c hr hm hR h' news' F5 N5 ha hk1 hk2
    have hrm := List.mem_of_getElem? hr
    have hrL := b2 _ hrm
    obtain ⟨vs', c', hmm, _⟩ := M.row _ _ hr
    refine post_next F5 N5 (fun p hp => hk1 p (List.mem_append_left _ hp) (hown p hp _ hmm)) (fun p hp => hk1 p (List.mem_append_right _ (List.mem_append_right _ hp)) ?_) ?_ ?_
    · exact hrL p hp
    · intro y hy
      repeat' first | exact rfl | refine skip1 (ne_in hy (by rfl)) ?_ | refine skipS hy (by rfl) ?_ | refine keep2 (fun e => by subst e; rfl) ?_
    · refine ((MatIn.set M' hr hR ha hk1).toMine b1 b2).congr ?_
      intro a b _ _
      simp
      (repeat' split) <;> lia
  rintro u mine h tk M hml F4 N4
  clear hr F3 N3
  k_steps
  rename_i h3 tk3 t3 u3 v3 hr F3 N3 hk
  clear hk
  refine rngS (L := L) [Str.ofString "j", Str.ofString "i"] n2 news (fun i m mine => MatIn mine l rs n1 n2 (fun a b => if b = 0 then (a : Int) else if a = 0 ∧ b < i then (b : Int) else 0)) rfl hh F3 N3 hr ?_ ?_ (fun p hp => List.mem_append_right _ hp) (by decide) ?_ ?_ ?_
  · exact small_one (by lia) (by lia) (by lia) (by lia)
  · exact rangeSize_nat _ _
  · refine ((M.mono (fun p hp _ => List.mem_append_left _ hp)).toMine b1 b2).congr ?_
    intro a b _ _
    simp
    (repeat' split) <;> lia
  · rintro i t u mine h tk own hi M hml hown F4 N4
    have M' := M.mono (news' := own ++ (mine ++ news)) (fun p hp _ => List.mem_append_right _ (List.mem_append_left _ hp))
    k_steps
    rename_i r vs c hr hm hR h' news' F5 N5 ha hk1 hk2
    have hrm := List.mem_of_getElem? hr
    have hrL := b2 _ hrm
    obtain ⟨vs', c', hmm, _⟩ := M.row _ _ hr
    refine post_next F5 N5 (fun p hp => hk1 p (List.mem_append_left _ hp) (hown p hp _ hmm)) (fun p hp => hk1 p (List.mem_append_right _ (List.mem_append_right _ hp)) ?_) ?_ ?_
    · exact hrL p hp
    · intro y hy
      repeat' first | exact rfl | refine skip1 (ne_in hy (by rfl)) ?_ | refine skipS hy (by rfl) ?_ | refine keep2 (fun e => by subst e; rfl) ?_
    · refine ((MatIn.set M' hr hR ha hk1).toMine b1 b2).congr ?_
      intro a b _ _
      simp
      (repeat' split) <;> lia
  rintro u mine h tk M hml F4 N4
  k_steps
  exact hQ h _ _ _ l rs F4 N4 (fun p hp => List.mem_append_right _ hp) ((M.mono (fun p hp _ => List.mem_append_left _ hp)).congr (by intro a b _ _; (try simp only []); (repeat' split) <;> lia)) b1 b2
-- part WEdit
def MidAt (g : Heap) (L : Addr) (s : Shared) (x : Str) (m : Str → Option Value) (news : List (Addr × Obj)) (P : Value → Prop) (fl : Flow) (s' : Shared) : Prop :=
  ∃ h' tk v, fl = .next ∧ s' = { s with heap := h', toks := tk } ∧ Fr g L h' (fun y => if y = x then some v else m y) ∧ News g L h' news ∧ P v
theorem mid_at {g : Heap} {L : Addr} {s : Shared} {x : Str} {m : Str → Option Value} {news : List (Addr × Obj)} {P : Value → Prop} {h' : Heap} {tk : Nat} {v : Value} (F : Fr g L h' (fun y => if y = x then some v else m y)) (N : News g L h' news) (hP : P v) :
    MidAt g L s x m news P .next { s with heap := h', toks := tk } := ⟨h', tk, v, rfl, rfl, F, N, hP⟩
theorem if_mid {M : Model} {A : Around} {E : Value → Shared → Prop} {s : Shared} {g : Heap} {L : Addr} {m : Str → Option Value} {news : List (Addr × Obj)} {st : Stmt} {rest : List Stmt} {env : Env} {Q : Flow → Shared → Prop} (x : Str) (P : Value → Prop) (Fa : Fr g L s.heap m) (Na : News g L s.heap news)
    (h1 : Fr g L s.heap m → News g L s.heap news → wpAny M A (exec st env) (MidAt g L s x m news P) E s)
    (h2 : ∀ h' tk v, P v → Fr g L h' (fun y => if y = x then some v else m y) → News g L h' news → wpAny M A (execs rest env) Q E { s with heap := h', toks := tk }) : wpAny M A (execs (st :: rest) env) Q E s := by
  refine wpAny_execs_cons (wpAny_mono (h1 Fa Na) (fun fl s' h => ?_) fun _ _ e => e)
  obtain ⟨h', tk, v, rfl, rfl, F', N', hP⟩ := h
  exact h2 h' tk v hP F' N'
section
local macro_rules | `(tactic| walk_at "subscriptTail") => `(tactic| (k_here; (with_reducible show wpAny _ _ (subscriptTail _ _ (Value.ref _) (Value.str _ _)) _ _ _); (with_unfolding_all refine dict_item (by assumption) (by k_mem) (by assumption) (by assumption) ?_)))
local macro_rules | `(tactic| walk_at "setItem ref str") => `(tactic| (k_here; (with_unfolding_all refine dict_set (by assumption) (by assumption) (by k_mem) (by assumption) (by omega) ?_); intro h' news' o' F' N' hm' hd' hk'))
local macro_rules | `(tactic| k_data) => `(tactic| with_reducible refine g_if ?_)

def at6 : List Stmt → Stmt
  | _ :: _ :: _ :: _ :: _ :: _ :: x :: _ => x
  | _ => .Pass ⟨0,0,0,0⟩
def edSt : Stmt := at6 PySem.Challenge.pw_je0021_01.main.body
def edB : List Stmt := fnBody edSt
def edScope : Scope := fnScope edSt

set_option maxRecDepth 100000 in
set_option maxHeartbeats 8000000 in
theorem ed_ok {prog : Program} {w : World} {dp un : Nat} {A₀ : Around} {base : Heap} {outer : List Env} {gd : Option (List Code)} {g : Heap} {L f : Addr} {cd : Value} {s : Shared} {news : List (Addr × Obj)} {K : Frag} {Q : Flow → Shared → Prop}
  {p : Program} {loose : List Str} {mean : ExcName → Option Value} {mg mb : Str → Option Value}
  {x1 x2 : Str} {t1 t2 t3 t4 : Tok} {sc : Int} {tr : Bool} {fC fI fL fS aD : Addr} {dS : Value} {oD : Obj} {tD : Tok} {nD : Nat}
  (X : K.In g) (T : Top p loose mean mg mb g) (B : Below A₀ base outer g) (N : News g L s.heap news)
  (F : Fr g L s.heap (fun y => List.lookup y (List.reverse [(Str.ofString "s1", Value.str x1 t1), (Str.ofString "s2", Value.str x2 t2), (Str.ofString "substitution_cost", Value.int sc t3), (Str.ofString "transpositions", Value.bool tr)])))
  (hlen : nsIn K mainGlobals (Str.ofString "len") = some none) (hrange : nsIn K mainGlobals (Str.ofString "range") = some none) (hmax : nsIn K mainGlobals (Str.ofString "max") = some none) (hM : nsIn K mainGlobals (Str.ofString "MAX_DISTANCE_INPUT_LEN") = some (some (.int 2000 t4)))
  (hmin : nsIn K mainGlobals (Str.ofString "min") = some none)
  (HC : FnAt K (Str.ofString "_check_distance_input_len") chkSt .none fC) (HI : FnAt K (Str.ofString "_edit_dist_init") initSt .none fI) (HL : FnAt K (Str.ofString "_last_left_t_init") lltSt .none fL)
  (HS : FnAt K (Str.ofString "_edit_dist_step") stepSt dS fS)
  (hdS : dS = .ref aD) (hdO : K.lookup aD = some oD) (hdQ : oD.data = .seq #[.int 1 tD, .bool false] nD) (hx1 : x1.length ≤ 10) (hx2 : x2.length ≤ 10) (hd : dp ≤ 500) (hu : un ≤ 100)
  (hQ : ∀ u h' tk m' news' t, Fr g L h' m' → News g L h' news' → (∀ p ∈ news, p ∈ news') → Bord u (x1.length + 1) (x2.length + 1) → (∀ a b, 1 ≤ a → a ≤ x1.length → 1 ≤ b → b ≤ x2.length → CellEq x1 x2 sc tr u a b) → Q (.ret (.int (u x1.length x2.length) t)) { s with heap := h', toks := tk }) :
  wpAny (model prog w) ((Ar dp un (some outer) gd).deeper (envOf (Str.ofString "edit_distance") edScope L f cd)) (execs edB (envOf (Str.ofString "edit_distance") edScope L f cd)) Q (fun _ _ => False) s := by
  have e : edScope = fnScope edSt := rfl
  dsimp only [edSt, fnScope, at6, PySem.Challenge.pw_je0021_01] at e
  rw [e]
  clear e
  dsimp only [edB, edSt, fnBody, at6, PySem.Challenge.pw_je0021_01]
  have hsz : (x1 ++ x2).cps.size ≤ 20 := by
    rw [Str.cps_append, Array.size_append]
    have q1 : x1.length = x1.cps.size := rfl
    have q2 : x2.length = x2.cps.size := rfl
    omega
  subst hdS
  refine fnAt_take HC rfl ?_
  clear HC
  intro hCn hCk ocC odC kVC docC pmC anC cdC ctC oslC hoC hcC
  refine fnAt_take HI rfl ?_
  clear HI
  intro hIn hIk ocI odI kVI docI pmI anI cdI ctI oslI hoI hcI
  refine fnAt_take HL rfl ?_
  clear HL
  intro hLn hLk ocL odL kVL docL pmL anL cdL ctL oslL hoL hcL
  refine fnAt_take HS rfl ?_
  clear HS
  intro hSn hSk ocS odS kVS docS pmS anS cdS ctS oslS hoS hcS
  k_steps
  refine call_fn (fun _ news' => ∀ p ∈ news, p ∈ news') B F X N T rfl rfl rfl hoC hcC ?_ (BindsTo.of_eq rfl) (locs rfl) rfl rfl rfl (by decide) (fun g L' h₁ tk FG F' N' B' X' T' => chk_ok X' T' N' F' hlen hmax hM hx1 hx2 (fun h' tk m' F2 N2 => fn_next F2 N2 (fun _ hp => hp))) ?_
  · show dp + 1 < _
    have : recursionLimit = 1000 := rfl
    omega
  rintro v news1 h1 tk1 hsub F1 N1'
  have N1 : News g L h1 news := fun p hp => N1' p (hsub p hp)
  clear N1' hsub F N
  k_steps
  rename Fr _ _ _ _ => F2
  rename News _ _ _ _ => N2
  have e1 : ((x1.length : Int) + 1) = ((x1.length + 1 : Nat) : Int) := by omega
  have e2 : ((x2.length : Int) + 1) = ((x2.length + 1 : Nat) : Int) := by omega
  rw [e1, e2]
  refine call_fn (fun v news' => ∃ l rs, v = .ref l ∧ (∀ p ∈ news, p ∈ news') ∧ MatIn news' l rs (x1.length + 1) (x2.length + 1) (fun a b => if a = 0 then (b : Int) else if b = 0 then (a : Int) else 0) ∧ Apart news l ∧ (∀ r ∈ rs, Apart news r))
    B F2 X N2 T rfl rfl rfl hoI hcI ?_ (BindsTo.of_eq rfl) (locs rfl) rfl rfl rfl (by decide) (fun g L' h₁ tk FG F' N' B' X' T' => init_ok X' T' N' F' hrange (by omega) (by omega) (by omega) (by omega) rfl (fun h' tk m' news' l rs F2 N2 k M a1 a2 => fn_ret F2 N2 (exi_2_5 l rs rfl k M a1 a2))) ?_
  · show dp + 1 < _
    have : recursionLimit = 1000 := rfl
    omega
  intro v news1 h3 tk3 hP F3 N3
  refine exe_2_5 hP ?_
  clear hP
  intro l rs e hsub M a1 a2
  subst e
  clear F2 N2
  k_steps
  rename Fr _ _ _ _ => F2
  rename News _ _ _ _ => N2
  refine call_fn (fun v news' => ∃ d o kvs, v = .ref d ∧ (∀ p ∈ news1, p ∈ news') ∧ (d, o) ∈ news' ∧ Apart news1 d ∧ o.IsDictOf (strKind prog w) kvs ∧ kvs.length ≤ 20 ∧ (∀ k ∈ (x1 ++ x2).cps.toList, ∃ t, valueAt kvs ⟨#[k]⟩ = some (.int 0 t)))
    B F2 X N2 T rfl rfl rfl hoL hcL ?_ (BindsTo.of_eq rfl) (locs rfl) rfl rfl rfl (by decide) (fun g L' h₁ tk FG F' N' B' X' T' => llt_ok X' T' N' F' ?_ (fun D o kvs h' tk m' F2 N2 ha hd hl hz => fn_ret F2 N2 (exi_3_7 D o kvs rfl (fun p hp => .tail _ hp) (.head _) ha hd ?_ hz))) ?_
  · show dp + 1 < _
    have : recursionLimit = 1000 := rfl
    omega
  · exact Nat.le_trans hsz (by decide)
  · exact Nat.le_trans hl hsz
  intro v news2 h4 tk4 hP F4 N4
  refine exe_3_7 hP ?_
  clear hP
  intro d od kvs e hsub2 hd0 ha hdd hkl hkz
  subst e
  clear F2 N2
  k_steps
  rename_i F5 N5 _
  rename IsRange _ _ _ _ _ _ _ _ => hr
  refine rngS (L := L) [Str.ofString "i", Str.ofString "last_right_buf", Str.ofString "j", Str.ofString "last_left", Str.ofString "last_right"] x1.length news (fun i m mine => ∃ u o kvs, MatIn mine l rs (x1.length + 1) (x2.length + 1) u ∧ (d, o) ∈ mine ∧ o.IsDictOf (strKind prog w) kvs ∧ kvs.length ≤ 20 + i ∧
    (∀ c ∈ (x1 ++ x2).cps.toList, ∃ (r : Nat) (t : Tok), valueAt kvs ⟨#[c]⟩ = some (.int r t) ∧ IsLast (fun k => lt1 x1 k = ⟨#[c]⟩) (i + 1) r) ∧ Bord u (x1.length + 1) (x2.length + 1) ∧ ∀ a b, 1 ≤ a → a ≤ i → 1 ≤ b → b ≤ x2.length → CellEq x1 x2 sc tr u a b)
    rfl rfl F5 N5 hr ?_ ?_ (fun p hp => hsub2 p (hsub p hp)) (by decide) ?_ ?_ ?_
  · exact small_one (by omega) (by omega) (by omega) (by omega)
  · rw [rangeSize_one]; split <;> omega
  · refine exi_3_7 _ od kvs ((M.mono (fun p hp _ => hsub2 p hp)).toMine a1 a2) (mem_mineOf hd0 (plainB_dict (IsDict.plain hdd)) (fun q hq => ha q (hsub q hq))) hdd (by omega) ?_ ?_ ?_
    · intro c hc
      obtain ⟨t, ht⟩ := hkz c hc
      exact ⟨0, t, ht, IsLast.start _ (by omega)⟩
    · refine ⟨fun b hb => by simp, fun a ha => ?_⟩
      show (if a = 0 then _ else _) = _
      split
      · rename_i e; subst e; rfl
      · rfl
    · intro a b h1 h2; omega
  · intro i t u mine h tk own hi hP hml hown F6 N6
    refine exe_3_7 hP ?_
    clear hP
    intro U o kv M1 hdm hdo hkl1 hkv hB hC
    rw [show (1 : Int) + (i : Int) = ((i + 1 : Nat) : Int) from by omega] at F6
    clear hr F5 N5
    try k_fold
    k_steps
    rename_i F5 N5 _
    rename IsRange _ _ _ _ _ _ _ _ => hr
    have hmm : ∀ p ∈ mine, p ∈ own ++ (mine ++ news) := fun p hp => List.mem_append_right _ (List.mem_append_left _ hp)
    have hdo' := IsDict.plain hdo
    refine exe_0_2 ((M1.mono (fun p hp _ => hmm p hp)).apart_dict N5 (hmm _ hdm) hdo') ?_
    intro q1 q2
    refine exe_0_2 (M1.above (keep := news) (fun p hp => (hml p hp).1)) ?_
    intro b1 b2
    have hown2 : ∀ (a : Addr) (oa : Obj), (a, oa) ∈ mine → a ≠ d → Apart news a → Apart (own ++ (d, o) :: news) a := by
      intro a oa hma hne hap q hq
      rcases List.mem_append.mp hq with hq | hq
      · exact hown q hq _ hma
      · rcases List.mem_cons.mp hq with rfl | hq
        · exact Ne.symm hne
        · exact hap q hq
    have c1 : Apart (own ++ (d, o) :: news) l := by
      obtain ⟨c, hc⟩ := M1.top
      exact hown2 _ _ hc (Ne.symm q1) b1
    have c2 : ∀ r ∈ rs, Apart (own ++ (d, o) :: news) r := by
      intro r hr
      obtain ⟨ix, hix⟩ := List.mem_iff_getElem?.mp hr
      obtain ⟨vs, c, hm, _⟩ := M1.row ix r hix
      exact hown2 _ _ hm (Ne.symm (q2 r hr)) (b2 r hr)
    refine rngS (L := L) [Str.ofString "j", Str.ofString "last_right_buf", Str.ofString "last_left", Str.ofString "last_right"] x2.length (own ++ (d, o) :: news) (fun j m mine => ∃ (u : Nat → Nat → Int) (lrb : Nat) (t : Tok), MatIn mine l rs (x1.length + 1) (x2.length + 1) u ∧ m (Str.ofString "last_right_buf") = some (.int lrb t) ∧
        IsLast (fun k => lt1 x2 k = lt1 x1 (i + 1)) (j + 1) lrb ∧ Bord u (x1.length + 1) (x2.length + 1) ∧ (∀ a b, 1 ≤ a → a ≤ i → 1 ≤ b → b ≤ x2.length → CellEq x1 x2 sc tr u a b) ∧ ∀ b, 1 ≤ b → b ≤ j → CellEq x1 x2 sc tr u (i + 1) b)
      rfl rfl F5 N5 hr ?_ ?_ ?_ (by decide) ?_ ?_ ?_
    · exact small_one (by omega) (by omega) (by omega) (by omega)
    · rw [rangeSize_one]; split <;> omega
    · intro p hp
      rcases List.mem_append.mp hp with hp | hp
      · exact List.mem_append_left _ hp
      · rcases List.mem_cons.mp hp with rfl | hp
        · exact hmm _ hdm
        · exact List.mem_append_right _ (List.mem_append_right _ hp)
    · exact exi_3_6 U 0 _ ((M1.mono (fun p hp _ => hmm p hp)).toMine c1 c2) rfl (IsLast.start _ (by omega)) hB hC (fun b h1 h2 => by omega)
    · intro j tj uj minej hj tkj ownj hjlt hP hmlj hownj F7 N7
      refine exe_3_6 hP ?_
      clear hP
      intro Uj lrb tb Mj hub hlast hBj hCj hDj
      rw [show (1 : Int) + (j : Int) = ((j + 1 : Nat) : Int) from by omega] at F7
      replace F7 := fr_known (Str.ofString "last_right_buf") F7 (w := some (.int lrb tb)) (by simp [hub])
      clear hr F5 N5
      try k_fold
      have hmj : ∀ p ∈ minej, p ∈ ownj ++ (minej ++ (own ++ (d, o) :: news)) := fun p hp => List.mem_append_right _ (List.mem_append_left _ hp)
      have Mj' := Mj.mono (fun p hp _ => hmj p hp)
      have hdj : (d, o) ∈ ownj ++ (minej ++ (own ++ (d, o) :: news)) := List.mem_append_right _ (List.mem_append_right _ (List.mem_append_right _ (.head _)))
      refine exe_1_2 (letter_r x1 x2 (j + 1) (by omega) (by omega)) ?_
      intro c hc ec
      refine exe_2_2 (hkv c hc) ?_
      intro ll tl hvl hll
      rw [← ec] at hvl
      rw [← ec] at hll
      have hvl' : valueAt kv (Txt.item x2 (((j + 1 : Nat) : Int) - 1)) = some (.int ll tl) := hvl
      have hlt1 := hll.lt (by omega)
      have hlt2 := hlast.lt (by omega)
      k_steps
      rename Fr _ _ _ _ => Fa
      rename News _ _ _ _ => Na
      refine if_mid (Str.ofString "last_right_buf") (fun v => ∃ (r : Nat) (t : Tok), v = .int r t ∧ IsLast (fun k => lt1 x2 k = lt1 x1 (i + 1)) (j + 1 + 1) r) Fa Na ?_ ?_
      · clear Fa Na
        intro Fa Na
        try k_fold
        k_steps
        · rename (_ == _) = _ => hcmp
          exact mid_at (by assumption) (by assumption) ⟨j + 1, tj, rfl, IsLast.hit (by omega) (eq_of_beq hcmp).symm⟩
        · rename (_ == _) = _ => hcmp
          exact mid_at (fr_known0 _ (by assumption) rfl) (by assumption) ⟨lrb, tb, rfl, IsLast.miss hlast (fun e => by rw [show Txt.item x1 (((i + 1 : Nat) : Int) - 1) = Txt.item x2 (((j + 1 : Nat) : Int) - 1) from e.symm, beq_self_eq_true] at hcmp; exact absurd hcmp (by decide))⟩
      · intro h5 tk5 vv hvv F8 N8
        clear Fa Na
        refine exe_2_2 hvv ?_
        clear hvv
        intro r' t' e hlast'
        subst e
        k_steps
        refine call_fn (fun _ news' => ∃ r, r ∈ rs ∧ MatIn news' l rs (x1.length + 1) (x2.length + 1) (fun a b => if a = i + 1 ∧ b = j + 1 then stepVal x1 x2 sc tr Uj ((i + 1 : Nat) : Int) ((j + 1 : Nat) : Int) ll lrb else Uj a b) ∧ (∀ p ∈ ownj ++ (minej ++ (own ++ (d, o) :: news)), p.1 ≠ r → p ∈ news'))
          B F8 X N8 T rfl rfl rfl hoS hcS ?_ (binds_K (X.keeps F8.keep) rfl hdO hdQ rfl rfl) (locs rfl) rfl rfl rfl (by decide)
          (fun g' L' h₁ tk FG F' N' B' X' T' => step_ok (i := ((i + 1 : Nat) : Int)) (j := ((j + 1 : Nat) : Int)) (ll := (ll : Int)) (lr := (lrb : Int)) (sc := sc) (tr := tr) X' T' N' Mj' F' hmin (by omega) (by omega) (by omega) (by omega) (by omega) (by omega) (by omega) (by omega) (by omega) (by omega) rfl rfl rfl
            (fun h' tk m' news' r F2 N2 M2 hr k1 _ => fn_next F2 N2 (exi_1_3 r hr M2 k1))) ?_
        · show dp + 1 < _
          have : recursionLimit = 1000 := rfl
          omega
        intro v news9 h9 tk9 hP F9 N9
        refine exe_1_3 hP ?_
        clear hP
        intro r hr M9 k9
        have d9 : ∀ p ∈ own ++ (d, o) :: news, p ∈ news9 := fun p hp => k9 p (List.mem_append_right _ (List.mem_append_right _ hp)) (c2 r hr p hp)
        have o9 : ∀ p ∈ ownj, p ∈ news9 := by
          intro p hp
          obtain ⟨ix, hix⟩ := List.mem_iff_getElem?.mp hr
          obtain ⟨vs, cc, hm, _⟩ := Mj.row ix r hix
          exact k9 p (List.mem_append_left _ hp) (hownj p hp _ hm)
        k_steps
        rename Fr _ _ _ _ => F10
        rename News _ _ _ _ => N10
        refine exe_0_3 (cells_next (i := i) (j := j) (by omega) hBj (fun a b h1 h2 h3 h4 => hCj a b h1 h2 h3 (by omega)) hDj hll hlast rfl) ?_
        intro z1 z2 z3
        refine post_next F10 N10 o9 d9 ?_ ?_
        · intro y hy
          repeat' first | exact rfl | refine skip1 (ne_in hy (by rfl)) ?_ | refine skipS hy (by rfl) ?_ | refine keep2 (fun e => by subst e; rfl) ?_
        · exact exi_3_6 _ r' t' (M9.toMine c1 c2) rfl hlast' z1 (fun a b h1 h2 h3 h4 => z2 a b h1 h2 h3 (by omega)) z3
    · intro uj minej hj tkj hP hmlj F7 N7
      refine exe_3_6 hP ?_
      clear hP
      intro Uj lrb tb Mj hub hlast hBj hCj hDj
      clear hr F5 N5
      try k_fold
      refine exe_1_2 (letter_l x1 x2 (i + 1) (by omega) (by omega)) ?_
      intro c hc ec
      have hdj : (d, o) ∈ minej ++ (own ++ (d, o) :: news) := List.mem_append_right _ (List.mem_append_right _ (.head _))
      k_steps
      rename_i h5 news5 o5 F5 N5 hm5 hd5 hk5
      have hne : ∀ (p : Addr × Obj), p ∈ minej → p.1 ≠ d := fun p hp => Ne.symm ((hmlj p hp).1 (d, o) (List.mem_append_right _ (.head _)))
      have M5 : MatIn news5 l rs (x1.length + 1) (x2.length + 1) Uj := Mj.mono (fun p hp _ => hk5 p (List.mem_append_left _ hp) (hne p hp))
      have had := (hml _ hdm).1
      refine post_next F5 N5 (fun p hp => hk5 p (List.mem_append_right _ (List.mem_append_left _ hp)) (hown p hp _ hdm)) (fun p hp => hk5 p (List.mem_append_right _ (List.mem_append_right _ (.tail _ hp))) (had p hp)) ?_ ?_
      · intro y hy
        repeat' first | exact rfl | refine skip1 (ne_in hy (by rfl)) ?_ | refine skipS hy (by rfl) ?_ | refine keep2 (fun e => by subst e; rfl) ?_
      · refine exi_3_7 Uj o5 _ (M5.toMine b1 b2) (mem_mineOf hm5 (plainB_dict (IsDict.plain hd5)) had) hd5 ?_ ?_ hBj ?_
        · have := stored_length_le kv (Txt.item x1 (((i + 1 : Nat) : Int) - 1)) (Value.int ((i + 1 : Nat) : Int) t)
          omega
        · intro c' hc'
          rw [valueAt_stored]
          by_cases e : (⟨#[c']⟩ : Str) = Txt.item x1 (((i + 1 : Nat) : Int) - 1)
          · exact ⟨i + 1, t, by rw [if_pos e], IsLast.hit (by omega) e.symm⟩
          · obtain ⟨r', t', h1, h2⟩ := hkv c' hc'
            exact ⟨r', t', by rw [if_neg e]; exact h1, IsLast.miss h2 fun e2 => e e2.symm⟩
        · intro a b h1 h2 h3 h4
          by_cases e : a = i + 1
          · subst e; exact hDj b h3 h4
          · exact hCj a b h1 (by omega) h3 h4
  · intro u mine h tk hP hml F6 N6
    refine exe_3_7 hP ?_
    clear hP
    intro U o kv M1 hdm hdo hkl1 hkv hB hC
    clear hr F5 N5
    try k_fold
    have M2 := M1.mono (news' := mine ++ news) (fun p hp _ => List.mem_append_left _ hp)
    k_steps
    exact hQ U h _ _ _ _ F6 N6 (fun p hp => List.mem_append_right _ hp) hB hC
-- part WTabB
abbrev TXs := List (List Int × Addr × Value)
def TabIn (prog : Program) (w : World) (news : List (Addr × Obj)) (d : Addr) (xs : TXs) : Prop :=
  ∃ o es ep, (d, o) ∈ news ∧ o.ExactDict ∧ o.data = .dict es ep ∧ es.toList = xs.map (entryOfKey (tupleKind (intKind prog w))) ∧ (xs.map (·.1)).Nodup ∧
    ∀ x ∈ xs, ∃ ok, (x.2.1, ok) ∈ news ∧ TupKeyObj (intKind prog w) x.1 ok
section
variable {prog : Program} {w : World} {A : Around} {E : Value → Shared → Prop} {s : Shared} {h₀ : Heap} {L : Addr} {m : Str → Option Value} {news : List (Addr × Obj)} {value slice : Expr} {d a : Addr} {xs : TXs}
theorem TabIn.dict {h : Heap} (T : TabIn prog w news d xs) (N : News h₀ L h news) : h.DictOfH (tupleKind (intKind prog w)) d xs := by
  obtain ⟨o, es, ep, hm, hc, hd, he, hn, hk⟩ := T
  exact ⟨o, es, ep, N.get hm, hc, hd, he, fun x hx => let ⟨_, hmk, t⟩ := hk x hx; t.key (N.get hmk), hn⟩
theorem TabIn.mono {news' : List (Addr × Obj)} (T : TabIn prog w news d xs) (h : ∀ p ∈ news, (p.1 = d ∨ p.2.cls = .type "tuple") → p ∈ news') : TabIn prog w news' d xs := by
  obtain ⟨o, es, ep, hm, hc, hd, he, hn, hk⟩ := T
  exact ⟨o, es, ep, h _ hm (.inl rfl), hc, hd, he, hn, fun x hx => let ⟨ok, hmk, t⟩ := hk x hx; ⟨ok, h _ hmk (.inr t.1), t⟩⟩
theorem TabIn.cons {p : Addr × Obj} (T : TabIn prog w news d xs) : TabIn prog w (p :: news) d xs := T.mono fun _ hp _ => .tail _ hp
theorem TabIn.addrs (T : TabIn prog w news d xs) {P : Addr → Prop} (h : ∀ p ∈ news, P p.1) : P d ∧ ∀ x ∈ xs, P x.2.1 := by
  obtain ⟨o, es, ep, hm, hc, hd, he, hn, hk⟩ := T
  exact ⟨h _ hm, fun x hx => let ⟨ok, hmk, t⟩ := hk x hx; h _ hmk⟩
theorem TabIn.toMine {keep : List (Addr × Obj)} (T : TabIn prog w news d xs) (h1 : Apart keep d) (h2 : ∀ x ∈ xs, Apart keep x.2.1) : TabIn prog w (mineOf keep news) d xs := by
  obtain ⟨o, es, ep, hm, hc, hd, he, hn, hk⟩ := T
  refine ⟨o, es, ep, mem_mineOf hm (plainB_dict hc.1) h1, hc, hd, he, hn, fun x hx => ?_⟩
  obtain ⟨ok, hmk, t⟩ := hk x hx
  exact ⟨ok, mem_mineOf hmk (by unfold plainB; rw [t.1]; rfl) (h2 x hx), t⟩
theorem tup2 (x y : Int) (t u : Tok) : TupKeyObj (intKind prog w) [x, y] { cls := .type "tuple", data := .seq [Value.int x t, Value.int y u].toArray } :=
  TupKeyObj.made (.cons (intKind_is prog w x t) (.cons (intKind_is prog w y u) .nil))
theorem tab_item {x y : Int} {t u : Tok} {c : Addr × Value} {Q : Value → Shared → Prop} (hu : A.units + 1 < cLine) (N : News h₀ L s.heap news) (T : TabIn prog w news d xs)
    (hka : (a, ({ cls := .type "tuple", data := .seq [Value.int x t, Value.int y u].toArray } : Obj)) ∈ news) (hp : atKey xs [x, y] = some c) (h : ∀ tk, Q c.2 { s with toks := tk })
    (hs : subscripted slice false (.ref d) (.ref a) = operate [.ref d, .ref a] (getItem (.ref d) (.ref a)) := by with_unfolding_all rfl) (hg : ∀ r, letTemporaryGo value (.ref d) r = pure () := by intro _; with_unfolding_all rfl) :
    wpAny (model prog w) A (subscriptTail value slice (.ref d) (.ref a)) Q E s := by
  have hD := T.dict N
  exact subscriptTail_builtin hD.typeIs slot_dict_getitem.lookup (wpAny_getItem_heap (knd := tupleKind (intKind prog w)) (tupleKind_room_in1 hu) ((tup2 x y t u).key (N.get hka)) hD hp (h _)) hs hg
theorem atKey_cons {K : Type} [DecidableEq K] (kx : K) (p : Addr × Value) (r : List (K × Addr × Value)) (k : K) : atKey ((kx, p) :: r) k = if kx = k then some p else atKey r k := by
  by_cases e : kx = k <;> simp [atKey, e]
theorem atKey_put_ne {K : Type} [DecidableEq K] {k k' : K} {v : Value} (h : ¬ k' = k) : ∀ xs : List (K × Addr × Value), atKey (xs.map (putAt k v)) k' = atKey xs k'
  | [] => rfl
  | (kx, ax, vx) :: r => by
    rw [List.map_cons, atKey_cons]
    by_cases e : kx = k
    · have e2 : ¬ kx = k' := fun q => h (q.symm.trans e)
      rw [show putAt k v (kx, ax, vx) = (kx, ax, v) from by simp [putAt, e], atKey_cons, if_neg e2, if_neg e2]
      exact atKey_put_ne h r
    · rw [show putAt k v (kx, ax, vx) = (kx, ax, vx) from by simp [putAt, e], atKey_cons, atKey_put_ne h r]
theorem atKey_put_eq {K : Type} [DecidableEq K] {k : K} {v : Value} {a0 : Addr} {v0 : Value} : ∀ xs : List (K × Addr × Value), atKey xs k = some (a0, v0) → atKey (xs.map (putAt k v)) k = some (a0, v)
  | [], h => by simp [atKey] at h
  | (kx, ax, vx) :: r, h => by
    rw [atKey_cons] at h
    rw [List.map_cons]
    by_cases e : kx = k
    · rw [if_pos e] at h
      rw [show putAt k v (kx, ax, vx) = (kx, ax, v) from by simp [putAt, e], atKey_cons, if_pos e]
      cases h; rfl
    · rw [if_neg e] at h
      rw [show putAt k v (kx, ax, vx) = (kx, ax, vx) from by simp [putAt, e], atKey_cons, if_neg e]
      exact atKey_put_eq r h
theorem atKey_storedH {K : Type} [DecidableEq K] (xs : List (K × Addr × Value)) (k k' : K) (a : Addr) (v : Value) : ∃ a', atKey (storedH xs k a v) k' = if k' = k then some (a', v) else atKey xs k' := by
  by_cases hk : (atKey xs k).isSome = true
  · obtain ⟨⟨a0, v0⟩, hp⟩ := Option.isSome_iff_exists.mp hk
    refine ⟨a0, ?_⟩
    rw [storedH_old hp]
    by_cases e : k' = k
    · subst e; rw [if_pos rfl]; exact atKey_put_eq xs hp
    · rw [if_neg e]; exact atKey_put_ne e xs
  · have hn : atKey xs k = none := by simpa using hk
    refine ⟨a, ?_⟩
    rw [storedH_new hn]
    by_cases e : k' = k
    · subst e
      have : xs.find? (fun x => decide (x.1 = k')) = none := by simpa [atKey] using hn
      simp [atKey, List.find?_append, this]
    · have e2 : ¬ k = k' := fun q => e q.symm
      simp [atKey, List.find?_append, e, e2]
theorem storedH_length {K : Type} [DecidableEq K] (xs : List (K × Addr × Value)) (k : K) (a : Addr) (v : Value) : (storedH xs k a v).length ≤ xs.length + 1 := by
  unfold storedH; split <;> simp
theorem tab_set {x y : Int} {t u : Tok} {v : Value} {Q : Unit → Shared → Prop} (hu : A.units + 1 < cLine) (F : Fr h₀ L s.heap m) (N : News h₀ L s.heap news) (T : TabIn prog w news d xs)
    (hka : (a, ({ cls := .type "tuple", data := .seq [Value.int x t, Value.int y u].toArray } : Obj)) ∈ news) (hl : xs.length ≤ 1000)
    (h : ∀ h' news' tk, Fr h₀ L h' m → News h₀ L h' news' → TabIn prog w news' d (storedH xs [x, y] a v) → (∀ p ∈ news, p.1 ≠ d → p ∈ news') → Q () { s with heap := h', toks := tk }) :
    wpAny (model prog w) A (setItem (.ref d) (.ref a) v) Q E s := by
  have hD := T.dict N
  obtain ⟨o, es, ep, hm, hc, hd, he, hn, hk⟩ := T
  have hne : ∀ {b : Addr} {ob : Obj}, (b, ob) ∈ news → ob.cls = .type "tuple" → b ≠ d := by
    intro b ob hb ht e
    subst e
    rw [News.same N hb hm, hc.1] at ht
    injection ht with h2
    exact absurd h2 (by decide)
  refine wpAny_setItem_heap (hsz := Nat.le_trans hl (by decide)) (knd := tupleKind (intKind prog w)) (tupleKind_room_in1 hu) ((tup2 x y t u).key (N.get hka)) hD fun h' hm' hs => ?_
  obtain ⟨o', es', ep', ho', hc', hd', he', _, hn'⟩ := hm'
  have keep : ∀ p ∈ news, p.1 ≠ d → p ∈ news.map fun p => if p.1 = d then (d, o') else p := fun p hp hpd => List.mem_map.mpr ⟨p, hp, by simp [hpd]⟩
  refine h h' (news.map fun p => if p.1 = d then (d, o') else p) _ (F.change hs (N _ hm).2.1 (N.fresh hm)) (N.replace hs ho')
    ⟨o', es', ep', List.mem_map.mpr ⟨(d, o), hm, by simp⟩, hc', hd', he', hn', fun x hx => ?_⟩ keep
  rcases mem_storedH hx with ⟨y, hy, e1, e2⟩ | ⟨e1, e2⟩
  · obtain ⟨oky, hmk, t⟩ := hk y hy
    exact ⟨oky, by rw [e2]; exact keep _ hmk (hne hmk t.1), by rw [e1]; exact t⟩
  · exact ⟨_, by rw [e2]; exact keep _ hka (hne hka rfl), by rw [e1]; exact tup2 ..⟩
theorem newDict_T {env : Env} {pos : Pos} {Q : Value → Shared → Prop} (F : Fr h₀ L s.heap m) (N : News h₀ L s.heap news) (hbig : h₀.NoLimit)
    (k : ∀ d h' o, Fr h₀ L h' m → News h₀ L h' ((d, o) :: news) → (∀ p ∈ news, p.1 < d) → TabIn prog w ((d, o) :: news) d [] → Q (.ref d) { s with heap := h' }) : wpAny (model prog w) A (eval (.Dict [] [] pos) env) Q E s := by
  refine newDict_K F N hbig fun d h' o F' N' l1 _ a1 _ _ _ => k d h' o F' N' l1 ?_
  obtain ⟨es, ep, he, hd, _, hp, _⟩ := a1
  refine ⟨o, es, ep, .head _, he, hd, ?_, List.nodup_nil, fun x hx => by cases hx⟩
  have := hp.length
  exact List.length_eq_zero_iff.mp this
end

section
variable {prog : Program} {w : World} {M : Model} {A : Around} {E : Value → Shared → Prop} {s : Shared} {h₀ : Heap} {L : Addr} {m : Str → Option Value} {news : List (Addr × Obj)}
theorem join_ite {c : Prop} [Decidable c] {X Y : Sem Value} {a b : Int} {Q : Value → Shared → Prop} (hX : ∀ Q' : Value → Shared → Prop, (∀ t tk, Q' (.int a t) { s with toks := tk }) → wpAny M A X Q' E s) (hY : ∀ Q' : Value → Shared → Prop, (∀ t tk, Q' (.int b t) { s with toks := tk }) → wpAny M A Y Q' E s)
    (h : ∀ t tk, Q (.int (if c then a else b) t) { s with toks := tk }) : if c then wpAny M A X Q E s else wpAny M A Y Q E s := by
  split
  · rename_i hc
    refine hX Q fun t tk => ?_
    have := h t tk
    rwa [if_pos hc] at this
  · rename_i hc
    refine hY Q fun t tk => ?_
    have := h t tk
    rwa [if_neg hc] at this
theorem min_L {W : Addr} {its : List Value} {c : Nat} {ns : List Int} {Q : Value → Shared → Prop} (hh : A.handled = none) (F : Fr h₀ L s.heap m) (N : News h₀ L s.heap news) (hm : (W, listOf its.toArray c) ∈ news) (hi : IntsAre its ns) (hne : 0 < ns.length)
    (h : ∀ h' M (t : Tok) tk, Fr h₀ L h' m → News h₀ L h' news → M ∈ ns → (∀ a, a ∈ ns → M ≤ a) → Q (.int M t) { s with heap := h', toks := tk }) : wpAny (model prog w) A (call (.builtin "min") [.ref W]) Q E s :=
  min_list_N hh F N (PySem.IsL.isList (n := c) (N _ hm).1) hi hne h
end
inductive Way (x1 x2 : Str) (sc : Int) (tr : Bool) (v : Nat → Nat → Int) (i j : Nat) : Int → Prop
  | zero : i = 0 → j = 0 → Way x1 x2 sc tr v i j 0
  | up : 0 < i → Way x1 x2 sc tr v i j (v (i - 1) j + 1)
  | left : 0 < j → Way x1 x2 sc tr v i j (v i (j - 1) + 1)
  | diag : 0 < i → 0 < j → Way x1 x2 sc tr v i j (v (i - 1) (j - 1) + (if (Txt.item x1 ((i : Int) - 1) == Txt.item x2 ((j : Int) - 1)) = true then 0 else sc))
  | swap (k m : Nat) : tr = true → 1 ≤ k → k < i → 1 ≤ m → m < j → lt1 x1 k = lt1 x2 j → lt1 x1 i = lt1 x2 m → Way x1 x2 sc tr v i j (v (k - 1) (m - 1) + ((i : Int) - k - 1) + 1 + ((j : Int) - m - 1))
def LawCell (x1 x2 : Str) (sc : Int) (tr : Bool) (v : Nat → Nat → Int) (i j : Nat) : Prop := Way x1 x2 sc tr v i j (v i j) ∧ ∀ x, Way x1 x2 sc tr v i j x → v i j ≤ x
def HasV (xs : TXs) (v : Nat → Nat → Int) (a b : Nat) : Prop := ∃ c t, atKey xs [(a : Int), (b : Int)] = some (c, .int (v a b) t)
theorem Way.congr {x1 x2 : Str} {sc : Int} {tr : Bool} {v v' : Nat → Nat → Int} {i j : Nat} (h : ∀ a b, a ≤ i → b ≤ j → ¬ (a = i ∧ b = j) → v' a b = v a b) {x : Int} (W : Way x1 x2 sc tr v i j x) : Way x1 x2 sc tr v' i j x := by
  cases W with
  | zero h1 h2 => exact .zero h1 h2
  | up h1 => rw [← h (i-1) j (by lia) (by lia) (by lia)]; exact .up h1
  | left h1 => rw [← h i (j-1) (by lia) (by lia) (by lia)]; exact .left h1
  | diag h1 h2 => rw [← h (i-1) (j-1) (by lia) (by lia) (by lia)]; exact .diag h1 h2
  | swap k m h1 h2 h3 h4 h5 h6 h7 => rw [← h (k-1) (m-1) (by lia) (by lia) (by lia)]; exact .swap k m h1 h2 h3 h4 h5 h6 h7
theorem LawCell.congr {x1 x2 : Str} {sc : Int} {tr : Bool} {v v' : Nat → Nat → Int} {i j : Nat} (c : LawCell x1 x2 sc tr v i j) (h : ∀ a b, a ≤ i → b ≤ j → v' a b = v a b) : LawCell x1 x2 sc tr v' i j := by
  refine ⟨?_, fun x W => ?_⟩
  · rw [h i j (Nat.le_refl _) (Nat.le_refl _)]
    exact c.1.congr fun a b ha hb _ => h a b ha hb
  · rw [h i j (Nat.le_refl _) (Nat.le_refl _)]
    exact c.2 x (W.congr fun a b ha hb _ => (h a b ha hb).symm)
/-- one cell more -/
theorem law_next {x1 x2 : Str} {sc : Int} {tr : Bool} {v : Nat → Nat → Int} {i j n2 : Nat} {xs : TXs} {M : Int} {ad : Addr} {t : Tok}
    (hV : ∀ a b, (a < i ∧ b ≤ n2) ∨ (a = i ∧ b < j) → HasV xs v a b) (hC : ∀ a b, (a < i ∧ b ≤ n2) ∨ (a = i ∧ b < j) → LawCell x1 x2 sc tr v a b)
    (h1 : Way x1 x2 sc tr v i j M) (h2 : ∀ x, Way x1 x2 sc tr v i j x → M ≤ x) :
    ∃ v', (∀ a b, (a < i ∧ b ≤ n2) ∨ (a = i ∧ b < j + 1) → HasV (storedH xs [(i : Int), (j : Int)] ad (.int M t)) v' a b) ∧ (∀ a b, (a < i ∧ b ≤ n2) ∨ (a = i ∧ b < j + 1) → LawCell x1 x2 sc tr v' a b) := by
  refine ⟨fun a b => if a = i ∧ b = j then M else v a b, fun a' b' h => ?_, fun a' b' h => ?_⟩
  · obtain ⟨a0, e⟩ := atKey_storedH xs [(i : Int), (j : Int)] [(a' : Int), (b' : Int)] ad (.int M t)
    by_cases hc : a' = i ∧ b' = j
    · refine ⟨a0, t, ?_⟩
      rw [e, if_pos (by rw [hc.1, hc.2])]
      simp [hc]
    · obtain ⟨c, t', h'⟩ := hV a' b' (by lia)
      refine ⟨c, t', ?_⟩
      rw [e, if_neg (fun q => hc (by simp only [List.cons.injEq, and_true] at q; lia)), h']
      simp [hc]
  · by_cases hc : a' = i ∧ b' = j
    · obtain ⟨rfl, rfl⟩ := hc
      have e : (if a' = a' ∧ b' = b' then M else v a' b') = M := if_pos ⟨rfl, rfl⟩
      refine ⟨?_, fun x W => ?_⟩
      · show Way _ _ _ _ _ _ _ (if a' = a' ∧ b' = b' then M else v a' b')
        rw [e]
        exact h1.congr fun a b _ _ hn => if_neg hn
      · show (if a' = a' ∧ b' = b' then M else v a' b') ≤ x
        rw [e]
        exact h2 x (W.congr fun a b _ _ hn => (if_neg hn).symm)
    · refine (hC a' b' (by lia)).congr fun a b ha hb => ?_
      show (if a = i ∧ b = j then M else v a b) = v a b
      exact if_neg (by lia)

theorem tab_close {prog : Program} {w : World} {x1 x2 : Str} {sc : Int} {tr : Bool} {v : Nat → Nat → Int} {i j n2 : Nat} {xs : TXs} {M : Int} {ad d : Addr} {t : Tok} {keep news6 : List (Addr × Obj)}
    (hV : ∀ a b, (a < i ∧ b ≤ n2) ∨ (a = i ∧ b < j) → HasV xs v a b) (hC : ∀ a b, (a < i ∧ b ≤ n2) ∨ (a = i ∧ b < j) → LawCell x1 x2 sc tr v a b)
    (TI : TabIn prog w news6 d (storedH xs [(i : Int), (j : Int)] ad (.int M t))) (h1 : Way x1 x2 sc tr v i j M) (h2 : ∀ x, Way x1 x2 sc tr v i j x → M ≤ x) (hl : xs.length ≤ 20 * i + j) (a1 : Apart keep d) (a2 : ∀ x ∈ xs, Apart keep x.2.1) (a3 : Apart keep ad) :
    ∃ v xs, TabIn prog w (mineOf keep news6) d xs ∧ xs.length ≤ 20 * i + (j + 1) ∧ (∀ a b, (a < i ∧ b ≤ n2) ∨ (a = i ∧ b < j + 1) → HasV xs v a b) ∧ (∀ a b, (a < i ∧ b ≤ n2) ∨ (a = i ∧ b < j + 1) → LawCell x1 x2 sc tr v a b) := by
  obtain ⟨v', z1, z2⟩ := law_next (ad := ad) (t := t) hV hC h1 h2
  refine ⟨v', _, TI.toMine a1 fun x hx => ?_, ?_, z1, z2⟩
  · rcases mem_storedH hx with ⟨y, hy, e1, e2⟩ | ⟨e1, e2⟩
    · rw [e2]; exact a2 y hy
    · rw [e2]; exact a3
  · have := storedH_length xs [(i : Int), (j : Int)] ad (.int M t)
    lia

def swapVal (v : Nat → Nat → Int) (i j k m : Nat) : Int := v (k - 1) (m - 1) + ((i : Int) - k - 1) + 1 + ((j : Int) - m - 1)
structure Cov (x1 x2 : Str) (sc : Int) (tr : Bool) (v : Nat → Nat → Int) (i j : Nat) (ns : List Int) (kk mm : Nat) : Prop where
  ok : ∀ x ∈ ns, Way x1 x2 sc tr v i j x
  up : (v (i - 1) j + 1) ∈ ns
  left : (v i (j - 1) + 1) ∈ ns
  diag : (v (i - 1) (j - 1) + (if (Txt.item x1 ((i : Int) - 1) == Txt.item x2 ((j : Int) - 1)) = true then 0 else sc)) ∈ ns
  sw : ∀ k m, 1 ≤ k → (k ≤ kk ∨ (k = kk + 1 ∧ m ≤ mm)) → 1 ≤ m → m < j → lt1 x1 k = lt1 x2 j → lt1 x1 i = lt1 x2 m → swapVal v i j k m ∈ ns
section
variable {x1 x2 : Str} {sc : Int} {tr : Bool} {v : Nat → Nat → Int} {i j : Nat} {ns : List Int} {kk mm : Nat}
theorem Cov.skip (c : Cov x1 x2 sc tr v i j ns kk mm) (h : ¬ (lt1 x1 (kk + 1) = lt1 x2 j ∧ lt1 x1 i = lt1 x2 (mm + 1))) : Cov x1 x2 sc tr v i j ns kk (mm + 1) :=
  ⟨c.ok, c.up, c.left, c.diag, fun k m h1 h2 h3 h4 h5 h6 => by
    by_cases e : k = kk + 1 ∧ m = mm + 1
    · obtain ⟨rfl, rfl⟩ := e; exact absurd ⟨h5, h6⟩ h
    · exact c.sw k m h1 (by lia) h3 h4 h5 h6⟩
theorem Cov.add (c : Cov x1 x2 sc tr v i j ns kk mm) (ht : tr = true) (hk : kk + 1 < i) (hm : mm + 1 < j) (h1 : lt1 x1 (kk + 1) = lt1 x2 j) (h2 : lt1 x1 i = lt1 x2 (mm + 1)) : Cov x1 x2 sc tr v i j (ns ++ [swapVal v i j (kk + 1) (mm + 1)]) kk (mm + 1) :=
  ⟨fun x hx => by
    rcases List.mem_append.mp hx with hx | hx
    · exact c.ok x hx
    · rw [List.mem_singleton.mp hx]; exact .swap (kk + 1) (mm + 1) ht (by lia) hk (by lia) hm h1 h2, List.mem_append_left _ c.up, List.mem_append_left _ c.left, List.mem_append_left _ c.diag, fun k m h1 h2 h3 h4 h5 h6 => by
    by_cases e : k = kk + 1 ∧ m = mm + 1
    · obtain ⟨rfl, rfl⟩ := e; exact List.mem_append_right _ (.head _)
    · exact List.mem_append_left _ (c.sw k m h1 (by lia) h3 h4 h5 h6)⟩
theorem Cov.turn (c : Cov x1 x2 sc tr v i j ns kk (j - 1)) : Cov x1 x2 sc tr v i j ns (kk + 1) 0 :=
  ⟨c.ok, c.up, c.left, c.diag, fun k m h1 h2 h3 h4 h5 h6 => c.sw k m h1 (by lia) h3 h4 h5 h6⟩
theorem Cov.least (hi : 0 < i) (hj : 0 < j) (c : Cov x1 x2 sc tr v i j ns (if tr = true then i - 1 else 0) 0) {M : Int} (h : ∀ a ∈ ns, M ≤ a) : ∀ x, Way x1 x2 sc tr v i j x → M ≤ x := by
  intro x W
  cases W with
  | zero h1 h2 => lia
  | up h1 => exact h _ c.up
  | left h1 => exact h _ c.left
  | diag h1 h2 => exact h _ c.diag
  | swap k m h1 h2 h3 h4 h5 h6 h7 => exact h _ (c.sw k m h2 (by rw [if_pos h1]; lia) h4 h5 h6 h7)
end
theorem IntsAre.snoc {vs : List Value} {ns : List Int} (h : IntsAre vs ns) (x : Int) (t : Tok) : IntsAre (vs ++ [.int x t]) (ns ++ [x]) := by
  induction h with
  | nil => exact .cons _ _ .nil
  | cons n t' _ ih => exact .cons n t' ih
-- part WKLoop

end
end
section
local macro_rules | `(tactic| k_units) => `(tactic| (have hcL9 := cLine_is; (try dsimp only [Ar, Around.deeper]); omega))
local macro_rules | `(tactic| k_tabat) => `(tactic| first | assumption | (refine' TabIn.cons ?_; k_tabat))
local macro_rules | `(tactic| walk_at "subscriptTail") => `(tactic| (k_here; (with_reducible show wpAny _ _ (subscriptTail _ _ (Value.ref _) (Value.ref _)) _ _ _); (refine' tab_item ?tz1 ?tz2 ?tz3 ?tz4 ?tz5 ?_; (case tz1 => k_units); (case tz2 => assumption); (case tz4 => k_mem); (case tz5 => assumption); (case tz3 => k_tabat)); intro _))
local macro_rules | `(tactic| k_upd) => `(tactic| first | (refine' Upd.head ?a; (case a => assumption)) | (refine' Upd.tail ?a ?b; (case a => k_ne); (case b => k_upd)))
local macro_rules | `(tactic| walk_at "call builtin:list.append") => `(tactic| (k_here; (with_reducible refine g_app ?_); k_dflt (refine' append_K ?k1 ?k2 ?k3 ?_ ?z; (case k1 => k_asm); (case k2 => k_asm); (case k3 => k_upd); (case z => size_fits); k_whole); intro h' F' N'; (try k_sweep)))
section
local macro_rules | `(tactic| k_all) => `(tactic| assumption)
local macro_rules | `(tactic| walk_at "ite") => `(tactic| (k_here; (with_reducible show ite _ (wpAny _ _ (eval (Expr.Constant _ _ _) _) _ _ _) (wpAny _ _ (eval (Expr.Name _ _) _) _ _ _)); k_dflt (refine' join_ite (a := 0) (fun q hq => wpAny_Constant_int (hq _ _)) (fun q hq => ld (by assumption) (by rfl) (hq _ _)) ?_); intro _ _))
def at12 : List Stmt → Stmt
  | _ :: _ :: _ :: _ :: _ :: _ :: _ :: _ :: _ :: _ :: _ :: _ :: x :: _ => x
  | _ => .Pass ⟨0,0,0,0⟩
def tabSt : Stmt := at12 PySem.Challenge.pw_je0021_01.main.body
def tabB : List Stmt := fnBody tabSt
def tabScope : Scope := fnScope tabSt


def forBody : Stmt → List Stmt
  | .For (body := b) .. => b
  | _ => []
def ifBody : Stmt → List Stmt
  | .If (body := b) .. => b
  | _ => []
def l0 : List Stmt → Stmt
  | x :: _ => x
  | _ => .Pass ⟨0,0,0,0⟩
def l1 : List Stmt → Stmt
  | _ :: x :: _ => x
  | _ => .Pass ⟨0,0,0,0⟩
def l4 : List Stmt → Stmt
  | _ :: _ :: _ :: _ :: x :: _ => x
  | _ => .Pass ⟨0,0,0,0⟩
def kFor : Stmt := l1 (ifBody (l4 (forBody (l0 (forBody (l1 tabB))))))

set_option maxRecDepth 100000 in
set_option maxHeartbeats 8000000 in
theorem kloop_ok {prog : Program} {w : World} {dp un : Nat} {fr : Option (List Env)} {gd : Option (List Code)} {g : Heap} {L f : Addr} {cd : Value} {s : Shared} {news base : List (Addr × Obj)} {K : Frag} {Q : Flow → Shared → Prop}
  {p : Program} {loose : List Str} {mean : ExcName → Option Value} {mg mb : Str → Option Value}
  {x1 x2 : Str} {t1 t2 t4 t5 : Tok} {sc : Int} {tr : Bool} {W d : Addr} {i j : Nat} {xs : TXs} {v : Nat → Nat → Int} {m0 : Str → Option Value} {its : List Value} {ns : List Int} {c : Nat}
  (X : K.In g) (T : Top p loose mean mg mb g) (N : News g L s.heap news)
  (F : Fr g L s.heap (fun y => if y = Str.ofString "ways" then some (.ref W) else if y = Str.ofString "i" then some (.int i t4) else if y = Str.ofString "j" then some (.int j t5) else if y = Str.ofString "first" then some (Value.str x1 t1) else if y = Str.ofString "second" then some (Value.str x2 t2)
    else if y = Str.ofString "table" then some (.ref d) else if y = Str.ofString "swaps" then some (Value.bool tr) else m0 y))
  (hrange : nsIn K mainGlobals (Str.ofString "range") = some none) (hint : nsIn K mainGlobals (Str.ofString "int") = some none)
  (hx1 : x1.length ≤ 10) (hx2 : x2.length ≤ 10) (hd : dp ≤ 500) (hu : un ≤ 100) (hi0 : 0 < i) (hj0 : 0 < j) (hi : i < x1.length + 1) (hj : j < x2.length + 1)
  (hbase : ∀ p ∈ base, p ∈ news) (hbW : Apart base W) (TJ : TabIn prog w base d xs) (hV : ∀ a b, (a < i ∧ b ≤ x2.length) ∨ (a = i ∧ b < j) → HasV xs v a b)
  (hW : (W, listOf its.toArray c) ∈ news) (hI : IntsAre its ns) (hL : ns.length ≤ 3) (hC : Cov x1 x2 sc tr v i j ns 0 0)
  (hQ : ∀ (u : Str → Option Value) its ns c h' tk news', Fr g L h' (fun y => if [Str.ofString "k", Str.ofString "m"].contains y then u y else if y = Str.ofString "ways" then some (.ref W) else if y = Str.ofString "i" then some (.int i t4) else if y = Str.ofString "j" then some (.int j t5) else if y = Str.ofString "first" then some (Value.str x1 t1) else if y = Str.ofString "second" then some (Value.str x2 t2)
    else if y = Str.ofString "table" then some (.ref d) else if y = Str.ofString "swaps" then some (Value.bool tr) else m0 y) → News g L h' (news' ++ base) → (W, listOf its.toArray c) ∈ news' → IntsAre its ns → Cov x1 x2 sc tr v i j ns (if tr = true then i - 1 else 0) 0 → Q .next { s with heap := h', toks := tk }) :
  wpAny (model prog w) (Ar dp un fr gd) (exec kFor (envOf (Str.ofString "_law_table") tabScope L f cd)) Q (fun _ _ => False) s := by
  obtain ⟨hp0, gs0, dr0, tk0, os0⟩ := s
  dsimp only at N F hQ ⊢
  have e : tabScope = fnScope tabSt := rfl
  dsimp only [tabSt, fnScope, at12, PySem.Challenge.pw_je0021_01] at e
  rw [e]
  clear e
  dsimp only [kFor, l0, l1, l4, forBody, ifBody, tabB, tabSt, fnBody, at12, PySem.Challenge.pw_je0021_01]
  k_steps
  rename Fr _ _ _ _ => F5
  rename News _ _ _ _ => N5
  rename IsRange _ _ _ _ _ _ _ _ => hr
  refine rngS (L := L) [Str.ofString "k", Str.ofString "m"] (if tr = true then i - 1 else 0) base (fun kk m mine => ∃ its ns c, (W, listOf its.toArray c) ∈ mine ∧ IntsAre its ns ∧ ns.length ≤ 3 + 20 * kk ∧ Cov x1 x2 sc tr v i j ns kk 0)
    rfl rfl F5 N5 hr ?_ ?_ hbase (by decide) ?_ ?_ ?_
  · split
    · exact small_one (by omega) (by omega) (by omega) (by omega)
    · exact small_one (by omega) (by omega) (by omega) (by omega)
  · rw [rangeSize_one]
    cases tr
    · simp
    · simp; split <;> omega
  · exact exi_3_4 its ns c (mem_mineOf hW rfl hbW) hI (by omega) hC
  · intro kk tk3 u3 mine3 h3 tkk3 own3 hkk hJ1 hml3 hown3 F8 N8
    refine exe_3_4 hJ1 ?_
    clear hJ1
    intro its ns c hW3 hI3 hL3 hC3
    rw [show (1 : Int) + (kk : Int) = ((kk + 1 : Nat) : Int) from by omega] at F8
    clear hr F5 N5
    try k_fold
    have htr : tr = true := by
      cases tr
      · simp at hkk
      · rfl
    have hkk' : kk + 1 < i := by rw [if_pos htr] at hkk; omega
    k_steps
    rename Fr _ _ _ _ => F5
    rename News _ _ _ _ => N5
    rename IsRange _ _ _ _ _ _ _ _ => hr
    have hbW3 : Apart (own3 ++ base) W := fun q hq => (List.mem_append.mp hq).elim (fun hq => hown3 q hq _ hW3) (fun hq => hbW q hq)
    refine rngS (L := L) [Str.ofString "m"] (j - 1) (own3 ++ base) (fun mm m mine => ∃ its ns c, (W, listOf its.toArray c) ∈ mine ∧ IntsAre its ns ∧ ns.length ≤ 3 + 20 * kk + mm ∧ Cov x1 x2 sc tr v i j ns kk mm)
      rfl rfl F5 N5 hr ?_ ?_ ?_ (by decide) ?_ ?_ ?_
    · exact small_one (by omega) (by omega) (by omega) (by omega)
    · rw [rangeSize_one]; split <;> omega
    · intro p hp
      rcases List.mem_append.mp hp with hp | hp
      · exact List.mem_append_left _ hp
      · exact List.mem_append_right _ (List.mem_append_right _ hp)
    · exact exi_3_4 its ns c (mem_mineOf (by k_mem) rfl hbW3) hI3 (by omega) hC3
    · intro mm tk4 u4 mine4 h4 tkk4 own4 hmm hJ2 hml4 hown4 F9 N9
      refine exe_3_4 hJ2 ?_
      clear hJ2
      intro its4 ns4 c4 hW4 hI4 hL4 hC4
      rw [show (1 : Int) + (mm : Int) = ((mm + 1 : Nat) : Int) from by omega] at F9
      clear hr F5 N5
      try k_fold
      refine exe_2_1 (hV kk mm (.inl ⟨by omega, by omega⟩)) ?_
      intro cS tS hS
      rw [show ((kk : Nat) : Int) = ((kk + 1 : Nat) : Int) - 1 from by omega, show ((mm : Nat) : Int) = ((mm + 1 : Nat) : Int) - 1 from by omega] at hS
      have TK : TabIn prog w (own4 ++ (mine4 ++ (own3 ++ base))) d xs := TJ.mono (fun p hp _ => List.mem_append_right _ (List.mem_append_right _ (List.mem_append_right _ hp)))
      have hsz4 : its4.length ≤ sizeLine := by
        have := hI4.length
        exact Nat.le_trans (m := 1000) (by omega) (by decide)
      clear hQ
      k_steps
      · rename (Txt.item x1 ((i : Int) - 1) == _) = _ => e2
        rename (Txt.item x1 (((kk + 1 : Nat) : Int) - 1) == _) = _ => e1
        rename_i news5 F5 N5 ha hk1 _
        refine post_next F5 N5 (fun p hp => hk1 p (.tail _ (List.mem_append_left _ hp)) (hown4 p hp _ hW4)) (fun p hp => hk1 p (.tail _ (List.mem_append_right _ (List.mem_append_right _ hp))) (hbW3 p hp)) ?_ ?_
        · intro y hy
          repeat' first | exact rfl | refine skip1 (ne_in hy (by rfl)) ?_ | refine skipS hy (by rfl) ?_ | refine keep2 (fun e => by subst e; rfl) ?_
        · refine exi_3_4 _ (ns4 ++ [swapVal v i j (kk + 1) (mm + 1)]) _ (mem_mineOf ha rfl hbW3) (IntsAre.snoc hI4 _ _) (by simp; omega) (hC4.add htr hkk' (by omega) (eq_of_beq e1) (eq_of_beq e2))
      · rename (Txt.item x1 ((i : Int) - 1) == _) = _ => e2
        refine post_next F9 N9 (fun p hp => List.mem_append_left _ hp) (fun p hp => List.mem_append_right _ (List.mem_append_right _ hp)) ?_ ?_
        · intro y hy
          repeat' first | exact rfl | refine skip1 (ne_in hy (by rfl)) ?_ | refine skipS hy (by rfl) ?_ | refine keep2 (fun e => by subst e; rfl) ?_
        · exact exi_3_4 its4 ns4 c4 (mem_mineOf (by k_mem) rfl hbW3) hI4 (by omega) (hC4.skip (fun h => by
            have h2 : Txt.item x1 ((i : Int) - 1) = Txt.item x2 (((mm + 1 : Nat) : Int) - 1) := h.2
            rw [h2, beq_self_eq_true] at e2; exact absurd e2 (by decide)))
      · rename (Txt.item x1 (((kk + 1 : Nat) : Int) - 1) == _) = _ => e1
        refine post_next F9 N9 (fun p hp => List.mem_append_left _ hp) (fun p hp => List.mem_append_right _ (List.mem_append_right _ hp)) ?_ ?_
        · intro y hy
          repeat' first | exact rfl | refine skip1 (ne_in hy (by rfl)) ?_ | refine skipS hy (by rfl) ?_ | refine keep2 (fun e => by subst e; rfl) ?_
        · exact exi_3_4 its4 ns4 c4 (mem_mineOf (by k_mem) rfl hbW3) hI4 (by omega) (hC4.skip (fun h => by
            have h2 : Txt.item x1 (((kk + 1 : Nat) : Int) - 1) = Txt.item x2 ((j : Int) - 1) := h.1
            rw [h2, beq_self_eq_true] at e1; exact absurd e1 (by decide)))
    · intro u4 mine4 h4 tkk4 hJ3 hml4 F9 N9
      refine exe_3_4 hJ3 ?_
      clear hJ3
      intro its4 ns4 c4 hW4 hI4 hL4 hC4
      clear hQ hr F5 N5
      k_steps
      refine post_next F9 N9 (fun p hp => List.mem_append_right _ (List.mem_append_left _ hp)) (fun p hp => List.mem_append_right _ (List.mem_append_right _ hp)) ?_ ?_
      · intro y hy
        repeat' first | exact rfl | refine skip1 (ne_in hy (by rfl)) ?_ | refine skipS hy (by rfl) ?_ | refine keep2 (fun e => by subst e; rfl) ?_
      · exact exi_3_4 its4 ns4 c4 (mem_mineOf (by k_mem) rfl hbW) hI4 (by omega) hC4.turn
  · intro u3 mine3 h3 tkk3 hJ4 hml3 F8 N8
    refine exe_3_4 hJ4 ?_
    clear hJ4
    intro its3 ns3 c3 hW3 hI3 hL3 hC3
    exact hQ u3 its3 ns3 c3 h3 tkk3 mine3 F8 N8 hW3 hI3 hC3
-- part WCell

def MidL (g : Heap) (L W : Addr) (s : Shared) (base : List (Addr × Obj)) (M : Str → Option Value) (P : List Int → Prop) (fl : Flow) (s' : Shared) : Prop :=
  ∃ h' tk its ns c own, fl = .next ∧ s' = { s with heap := h', toks := tk } ∧ Fr g L h' M ∧ News g L h' (own ++ base) ∧ (W, listOf (List.toArray its) c) ∈ own ∧ IntsAre its ns ∧ P ns
theorem midl_at {g : Heap} {L W : Addr} {s : Shared} {base news' : List (Addr × Obj)} {M : Str → Option Value} {P : List Int → Prop} {h' : Heap} {tk c : Nat} {its : List Value} {ns : List Int} (F : Fr g L h' M) (N : News g L h' news') (hb : ∀ p ∈ base, p ∈ news') (hW : (W, listOf its.toArray c) ∈ news') (hI : IntsAre its ns) (hP : P ns) :
    MidL g L W s base M P .next { s with heap := h', toks := tk } :=
  ⟨h', tk, its, ns, c, news', rfl, rfl, F, fun p hp => (List.mem_append.mp hp).elim (N p) (fun h => N p (hb p h)), hW, hI, hP⟩
theorem if_list {A : Model} {B : Around} {E : Value → Shared → Prop} {s : Shared} {g : Heap} {L W : Addr} {base own : List (Addr × Obj)} {M : Str → Option Value} {st : Stmt} {rest : List Stmt} {env : Env} {Q : Flow → Shared → Prop} (hbW : ∀ p ∈ base, p.1 ≠ W) (P : List Int → Prop) (Fa : Fr g L s.heap M) (Na : News g L s.heap (own ++ base)) {its0 : List Value} {c0 : Nat} (hWo : (W, listOf its0.toArray c0) ∈ own)
    (h1 : Fr g L s.heap M → News g L s.heap (own ++ base) → (W, listOf its0.toArray c0) ∈ own ++ base → wpAny A B (exec st env) (MidL g L W s base M P) E s)
    (h2 : ∀ h' tk its ns c own, Fr g L h' M → News g L h' (own ++ base) → (W, listOf (List.toArray its) c) ∈ own → IntsAre its ns → P ns → wpAny A B (execs rest env) Q E { s with heap := h', toks := tk }) : wpAny A B (execs (st :: rest) env) Q E s := by
  refine wpAny_execs_cons (wpAny_mono (h1 Fa Na (List.mem_append_left _ hWo)) (fun fl s' h => ?_) fun _ _ e => e)
  obtain ⟨h', tk, its, ns, c, own', rfl, rfl, F', N', hW, hI, hP⟩ := h
  exact h2 h' tk its ns c own' F' N' hW hI hP
theorem fr_same {g h : Heap} {L : Addr} {M : Str → Option Value} (S : List Str) (F : Fr g L h M) : Fr g L h (fun y => if S.contains y then M y else M y) := by
  have e : (fun y => if S.contains y then M y else M y) = M := by
    funext y
    split <;> rfl
  rw [e]
  exact F
theorem fr_normC {g : Heap} {L : Addr} {h : Heap} {m m0 : Str → Option Value} (S : List Str) (F : Fr g L h m) (hm : ∀ y, S.contains y = false → m y = m0 y) : Fr g L h (fun y => if S.contains y then m y else m0 y) := by
  have e : m = fun y => if S.contains y then m y else m0 y := by
    funext y
    cases e : S.contains y with
    | true => simp
    | false => simp only [Bool.false_eq_true, if_false]; exact hm y e
  rw [e] at F
  exact F
def MidU (g : Heap) (L W : Addr) (s : Shared) (base : List (Addr × Obj)) (S : List Str) (M : Str → Option Value) (P : List Int → Prop) (fl : Flow) (s' : Shared) : Prop :=
  ∃ (u : Str → Option Value) (h' : Heap) (tk : Nat) (its : List Value) (ns : List Int) (c : Nat) (own : List (Addr × Obj)), fl = .next ∧ s' = { s with heap := h', toks := tk } ∧ Fr g L h' (fun y => if S.contains y then u y else M y) ∧ News g L h' (own ++ base) ∧ (W, listOf (List.toArray its) c) ∈ own ∧ IntsAre its ns ∧ P ns
theorem midu_at {g : Heap} {L W : Addr} {s : Shared} {base own : List (Addr × Obj)} {S : List Str} {M u : Str → Option Value} {P : List Int → Prop} {h' : Heap} {tk c : Nat} {its : List Value} {ns : List Int} (F : Fr g L h' (fun y => if S.contains y then u y else M y)) (N : News g L h' (own ++ base)) (hW : (W, listOf its.toArray c) ∈ own) (hI : IntsAre its ns) (hP : P ns) :
    MidU g L W s base S M P .next { s with heap := h', toks := tk } := ⟨u, h', tk, its, ns, c, own, rfl, rfl, F, N, hW, hI, hP⟩
theorem if_listU {A : Model} {B : Around} {E : Value → Shared → Prop} {s : Shared} {g : Heap} {L W : Addr} {base own : List (Addr × Obj)} {M : Str → Option Value} {st : Stmt} {rest : List Stmt} {env : Env} {Q : Flow → Shared → Prop} (S : List Str) (P : List Int → Prop) (Fa : Fr g L s.heap M) (Na : News g L s.heap (own ++ base)) {its0 : List Value} {c0 : Nat} (hWo : (W, listOf its0.toArray c0) ∈ own)
    (h1 : Fr g L s.heap M → News g L s.heap (own ++ base) → (W, listOf its0.toArray c0) ∈ own ++ base → wpAny A B (exec st env) (MidU g L W s base S M P) E s)
    (h2 : ∀ (u : Str → Option Value) h' tk its ns c own, Fr g L h' (fun y => if S.contains y then u y else M y) → News g L h' (own ++ base) → (W, listOf (List.toArray its) c) ∈ own ++ base → IntsAre its ns → P ns → wpAny A B (execs rest env) Q E { s with heap := h', toks := tk }) : wpAny A B (execs (st :: rest) env) Q E s := by
  refine wpAny_execs_cons (wpAny_mono (h1 Fa Na (List.mem_append_left _ hWo)) (fun fl s' h => ?_) fun _ _ e => e)
  obtain ⟨u, h', tk, its, ns, c, own', rfl, rfl, F', N', hW, hI, hP⟩ := h
  exact h2 u h' tk its ns c own' F' N' (List.mem_append_left _ hW) hI hP
section
local macro_rules | `(tactic| walk_at "call builtin:min") => `(tactic| (k_here; (with_reducible show wpAny _ _ (call (Value.builtin _) [Value.ref _]) _ _ _); (refine' min_L ?mz0 ?mz1 ?mz2 ?mz3 ?mz4 ?mz5 ?_; (case mz0 => rfl); (case mz1 => assumption); (case mz2 => assumption); (case mz3 => assumption); (case mz4 => assumption); (case mz5 => assumption)); intro h' M' t' tk' F' N' hM1' hM2'))
local macro_rules | `(tactic| k_data) => `(tactic| with_reducible first | refine g_if ?_ | refine g_fork ?_)
def tabJB : List Stmt := forBody (l0 (forBody (l1 tabB)))
set_option maxRecDepth 100000 in
set_option maxHeartbeats 8000000 in
theorem cell_ok {prog : Program} {w : World} {dp un : Nat} {fr : Option (List Env)} {gd : Option (List Code)} {g : Heap} {L f : Addr} {cd : Value} {s : Shared} {base : List (Addr × Obj)} {K : Frag} {Q : Flow → Shared → Prop}
  {p : Program} {loose : List Str} {mean : ExcName → Option Value} {mg mb : Str → Option Value} {m0 : Str → Option Value}
  {x1 x2 : Str} {t1 t2 t3 t4 t5 : Tok} {sc : Int} {tr : Bool} {d : Addr} {i j : Nat} {xs : TXs} {v : Nat → Nat → Int}
  (X : K.In g) (T : Top p loose mean mg mb g) (N : News g L s.heap base)
  (F : Fr g L s.heap (fun y => if y = Str.ofString "i" then some (.int i t4) else if y = Str.ofString "j" then some (.int j t5) else if y = Str.ofString "first" then some (Value.str x1 t1) else if y = Str.ofString "second" then some (Value.str x2 t2) else if y = Str.ofString "cost" then some (.int sc t3)
    else if y = Str.ofString "table" then some (.ref d) else if y = Str.ofString "swaps" then some (Value.bool tr) else m0 y))
  (hrange : nsIn K mainGlobals (Str.ofString "range") = some none) (hint : nsIn K mainGlobals (Str.ofString "int") = some none) (hmin : nsIn K mainGlobals (Str.ofString "min") = some none)
  (hx1 : x1.length ≤ 10) (hx2 : x2.length ≤ 10) (hd : dp ≤ 500) (hu : un ≤ 100) (hi : i < x1.length + 1) (hj : j < x2.length + 1)
  (TJ : TabIn prog w base d xs) (hxl : xs.length ≤ 900) (hV : ∀ a b, (a < i ∧ b ≤ x2.length) ∨ (a = i ∧ b < j) → HasV xs v a b)
  (hQ : ∀ (u : Str → Option Value) h' tk news' ad M t, Fr g L h' (fun y => if [Str.ofString "ways", Str.ofString "k", Str.ofString "m"].contains y then u y else if y = Str.ofString "i" then some (.int i t4) else if y = Str.ofString "j" then some (.int j t5) else if y = Str.ofString "first" then some (Value.str x1 t1) else if y = Str.ofString "second" then some (Value.str x2 t2) else if y = Str.ofString "cost" then some (.int sc t3)
    else if y = Str.ofString "table" then some (.ref d) else if y = Str.ofString "swaps" then some (Value.bool tr) else m0 y) → News g L h' news' → TabIn prog w news' d (storedH xs [(i : Int), (j : Int)] ad (.int M t)) → (∀ p ∈ base, p.1 ≠ d → p ∈ news') → (∀ p ∈ base, p.1 < ad) → Way x1 x2 sc tr v i j M → (∀ x, Way x1 x2 sc tr v i j x → M ≤ x) → Q .next { s with heap := h', toks := tk }) :
  wpAny (model prog w) (Ar dp un fr gd) (execs tabJB (envOf (Str.ofString "_law_table") tabScope L f cd)) Q (fun _ _ => False) s := by
  have e : tabScope = fnScope tabSt := rfl
  dsimp only [tabSt, fnScope, at12, PySem.Challenge.pw_je0021_01] at e
  rw [e]
  clear e
  dsimp only [tabJB, l0, l1, forBody, tabB, tabSt, fnBody, at12, PySem.Challenge.pw_je0021_01]
  k_steps
  rename Fr _ _ _ _ => Fa
  rename News _ _ _ _ => Na
  rename ∀ p : Addr × Obj, p ∈ base → p.1 ≠ _ => hbW
  have kb : ∀ {own : List (Addr × Obj)}, ∀ p ∈ base, p ∈ own ++ base := fun p hp => List.mem_append_right _ hp
  refine if_list (base := base) (own := [(_, listOf (List.toArray []) 0)]) hbW (fun ns => ns.length ≤ 1 ∧ (∀ x ∈ ns, Way x1 x2 sc tr v i j x) ∧ (i = 0 → j = 0 → (0 : Int) ∈ ns) ∧ (ns.length ≤ 0 ∨ (i = 0 ∧ j = 0))) Fa Na (its0 := []) (.head _) ?_ ?_
  · clear Fa Na
    intro Fa Na hWm
    by_cases hz : i = 0 ∧ j = 0
    · obtain ⟨rfl, rfl⟩ := hz
      k_steps
      rename Fr _ _ _ _ => Fb
      rename News _ _ _ _ => Nb
      exact midl_at (its := [_]) (ns := [0]) Fb Nb (fun p hp => .tail _ hp) (.head _) (.cons _ _ .nil) ⟨by simp, fun x hx => by rw [List.mem_singleton.mp hx]; exact .zero rfl rfl, fun _ _ => .head _, .inr (by simp)⟩
    · k_steps
      all_goals try (exfalso; omega)
      all_goals (
        rename Fr _ _ _ _ => Fb
        rename News _ _ _ _ => Nb
        exact midl_at (its := []) (ns := []) Fb Nb (fun p hp => .tail _ hp) (.head _) .nil ⟨by simp, fun x hx => by simp at hx, fun h1 h2 => absurd ⟨h1, h2⟩ hz, .inl (by simp)⟩)
  · clear Fa Na
    intro h1 tk1 its1 ns1 c1 own1 F1 N1 hW1 hI1 hP1
    obtain ⟨hl1, hw1, hz1, hc1⟩ := hP1
    refine if_list (base := base) hbW (fun ns => ns.length ≤ 1 ∧ (∀ x ∈ ns, Way x1 x2 sc tr v i j x) ∧ (i = 0 → j = 0 → (0 : Int) ∈ ns) ∧ (0 < i → (v (i - 1) j + 1) ∈ ns)) F1 N1 hW1 ?_ ?_
    · clear F1 N1
      intro Fa Na hWm
      have hsz : its1.length ≤ sizeLine := Nat.le_trans (m := 1000) (by rw [hI1.length]; omega) (by decide)
      have TI : TabIn prog w (own1 ++ base) d xs := TJ.mono (fun p hp _ => kb p hp)
      rcases Nat.eq_zero_or_pos i with hi0 | hi0
      · k_steps
        all_goals exact midl_at Fa Na kb hWm hI1 ⟨hl1, hw1, hz1, fun h => by omega⟩
      · obtain ⟨cU, tU, hU⟩ := hV (i - 1) j (.inl ⟨by omega, by omega⟩)
        rw [show ((i - 1 : Nat) : Int) = (i : Int) - 1 from by omega] at hU
        k_steps
        rename (∀ p : Addr × Obj, p ∈ _ :: _ → p.1 ≠ _ → p ∈ _) => hk
        exact midl_at (by assumption) (by assumption) (fun p hp => hk p (.tail _ (kb p hp)) (hbW p hp)) (by assumption) (IntsAre.snoc hI1 _ _) ⟨by (simp only [List.length_append, List.length_singleton]; omega), fun x hx => by
          rcases List.mem_append.mp hx with hx | hx
          · exact hw1 x hx
          · rw [List.mem_singleton.mp hx]; exact .up hi0, fun h1 h2 => List.mem_append_left _ (hz1 h1 h2), fun _ => by simp⟩
    · clear F1 N1
      intro h2 tk2 its2 ns2 c2 own2 F2 N2 hW2 hI2 hP2
      obtain ⟨hl2, hw2, hz2, hu2⟩ := hP2
      refine if_list (base := base) hbW (fun ns => ns.length ≤ 2 ∧ (∀ x ∈ ns, Way x1 x2 sc tr v i j x) ∧ (i = 0 → j = 0 → (0 : Int) ∈ ns) ∧ (0 < i → (v (i - 1) j + 1) ∈ ns) ∧ (0 < j → (v i (j - 1) + 1) ∈ ns)) F2 N2 hW2 ?_ ?_
      · clear F2 N2
        intro Fa Na hWm
        have hsz : its2.length ≤ sizeLine := Nat.le_trans (m := 1000) (by rw [hI2.length]; omega) (by decide)
        have TI : TabIn prog w (own2 ++ base) d xs := TJ.mono (fun p hp _ => kb p hp)
        rcases Nat.eq_zero_or_pos j with hj0 | hj0
        · k_steps
          all_goals exact midl_at Fa Na kb hWm hI2 ⟨by omega, hw2, hz2, hu2, fun h => by omega⟩
        · obtain ⟨cL, tL, hL⟩ := hV i (j - 1) (.inr ⟨rfl, by omega⟩)
          rw [show ((j - 1 : Nat) : Int) = (j : Int) - 1 from by omega] at hL
          k_steps
          rename (∀ p : Addr × Obj, p ∈ _ :: _ → p.1 ≠ _ → p ∈ _) => hk
          exact midl_at (by assumption) (by assumption) (fun p hp => hk p (.tail _ (kb p hp)) (hbW p hp)) (by assumption) (IntsAre.snoc hI2 _ _) ⟨by (simp only [List.length_append, List.length_singleton]; omega), fun x hx => by
            rcases List.mem_append.mp hx with hx | hx
            · exact hw2 x hx
            · rw [List.mem_singleton.mp hx]; exact .left hj0, fun h1 h2 => List.mem_append_left _ (hz2 h1 h2), fun h => List.mem_append_left _ (hu2 h), fun _ => by simp⟩
      · clear F2 N2
        intro h3 tk3 its3 ns3 c3 own3 F3 N3 hW3 hI3 hP3
        obtain ⟨hl3, hw3, hz3, hu3, hf3⟩ := hP3
        refine if_listU (base := base) [Str.ofString "k", Str.ofString "m"] (fun ns => 0 < ns.length ∧ (∀ x ∈ ns, Way x1 x2 sc tr v i j x) ∧ (∀ M, (∀ a ∈ ns, M ≤ a) → ∀ x, Way x1 x2 sc tr v i j x → M ≤ x)) F3 N3 hW3 ?_ ?_
        · clear F3 N3
          intro Fa Na hWm
          have hsz : its3.length ≤ sizeLine := Nat.le_trans (m := 1000) (by rw [hI3.length]; omega) (by decide)
          have TI : TabIn prog w (own3 ++ base) d xs := TJ.mono (fun p hp _ => kb p hp)
          by_cases hz : 0 < i ∧ 0 < j
          · obtain ⟨hi0, hj0⟩ := hz
            obtain ⟨cD, tD, hD⟩ := hV (i - 1) (j - 1) (.inl ⟨by omega, by omega⟩)
            rw [show ((i - 1 : Nat) : Int) = (i : Int) - 1 from by omega, show ((j - 1 : Nat) : Int) = (j : Int) - 1 from by omega] at hD
            k_steps
            rename Fr _ _ _ _ => F5
            rename News _ _ _ _ => N5
            rename (∀ p : Addr × Obj, p ∈ _ :: _ → p.1 ≠ _ → p ∈ _) => hk
            refine kloop_ok (base := base) (v := v) (sc := sc) (i := i) (j := j) (x1 := x1) (x2 := x2) (tr := tr) (d := d) X T N5
              (fr_known0 (Str.ofString "ways") (fr_known0 (Str.ofString "i") (fr_known0 (Str.ofString "j") (fr_known0 (Str.ofString "first") (fr_known0 (Str.ofString "second") (fr_known0 (Str.ofString "table") (fr_known0 (Str.ofString "swaps") F5 rfl) rfl) rfl) rfl) rfl) rfl) rfl)
              hrange hint hx1 hx2 hd hu hi0 hj0 hi hj (fun p hp => hk p (.tail _ (kb p hp)) (hbW p hp)) hbW TJ hV (by assumption) (IntsAre.snoc hI3 _ _) (by (simp only [List.length_append, List.length_singleton]; omega)) ?_ ?_
            · refine ⟨fun x hx => ?_, List.mem_append_left _ (hu3 hi0), List.mem_append_left _ (hf3 hj0), List.mem_append_right _ (.head _), fun k m h1 h2 h3 => by omega⟩
              rcases List.mem_append.mp hx with hx | hx
              · exact hw3 x hx
              · rw [List.mem_singleton.mp hx]; exact .diag hi0 hj0
            · intro u5 its5 ns5 c5 h5 tk5 news5 F9 N9 hW5 hI5 hC5
              clear F5 N5
              k_steps
              exact midu_at (fr_normC _ F9 (fun y hy => by repeat' first | exact rfl | refine skip1 (ne_in hy (by rfl)) ?_ | refine skipS hy (by rfl) ?_ | refine keep2 (fun e => by subst e; rfl) ?_)) N9 hW5 hI5 ⟨List.length_pos_of_mem hC5.up, hC5.ok, fun M hM => hC5.least hi0 hj0 hM⟩
          · k_steps
            all_goals (
              refine midu_at (fr_same _ Fa) Na hW3 hI3 ⟨?_, hw3, ?_⟩
              · rcases Nat.eq_zero_or_pos i with hi0 | hi0
                · rcases Nat.eq_zero_or_pos j with hj0 | hj0
                  · exact List.length_pos_of_mem (hz3 hi0 hj0)
                  · exact List.length_pos_of_mem (hf3 hj0)
                · exact List.length_pos_of_mem (hu3 hi0)
              · intro M hM x W
                cases W with
                | zero h1 h2 => exact hM _ (hz3 h1 h2)
                | up h1 => exact hM _ (hu3 h1)
                | left h1 => exact hM _ (hf3 h1)
                | diag h1 h2 => exact absurd ⟨h1, h2⟩ hz
                | swap k m h1 h2 h3 h4 h5 h6 h7 => exact absurd ⟨by omega, by omega⟩ hz)
        · clear F3 N3
          intro u4 h4 tk4 its4 ns4 c4 own4 F4 N4 hW4 hI4 hP4
          obtain ⟨hne4, hw4, hc4⟩ := hP4
          have TI : TabIn prog w (own4 ++ base) d xs := TJ.mono (fun p hp _ => kb p hp)
          k_steps
          rename ∀ p : Addr × Obj, p ∈ _ → p.1 < _ => l4
          rename _ ∈ ns4 => hM1
          rename ∀ a, a ∈ ns4 → _ ≤ a => hM2
          refine tab_set (d := d) (xs := xs) (by k_units) (by assumption) (by assumption) (by k_tabat) (by k_mem) (by omega) ?_
          intro h6 news6 tk6 F6' N6' TI6 hk6
          k_steps
          exact hQ _ _ _ _ _ _ _ (fr_normC _ F6' (fun y hy => by repeat' first | exact rfl | refine skip1 (ne_in hy (by rfl)) ?_ | refine skipS hy (by rfl) ?_ | refine keep2 (fun e => by subst e; rfl) ?_)) N6' TI6 (fun p hp hne => hk6 p (.tail _ (kb p hp)) hne) (fun p hp => l4 p (kb p hp)) (hw4 _ hM1) (hc4 _ hM2)
-- part WTable

end
end
end
section
local macro_rules | `(tactic| walk_at "eval Dict nil nil") => `(tactic| (k_here; k_dflt (refine' newDict_T ?k1 ?k2 (TopRead.nolimit (by k_asm)) ?_; (case k1 => k_asm); (case k2 => k_asm); k_whole); intro d' h' o' F' N' l1 tI'))
set_option maxRecDepth 100000 in
set_option maxHeartbeats 8000000 in
theorem tab_ok {prog : Program} {w : World} {dp un : Nat} {fr : Option (List Env)} {gd : Option (List Code)} {g : Heap} {L f : Addr} {cd : Value} {s : Shared} {news : List (Addr × Obj)} {K : Frag} {Q : Flow → Shared → Prop}
  {p : Program} {loose : List Str} {mean : ExcName → Option Value} {mg mb : Str → Option Value}
  {x1 x2 : Str} {t1 t2 t3 : Tok} {sc : Int} {tr : Bool}
  (X : K.In g) (T : Top p loose mean mg mb g) (N : News g L s.heap news)
  (F : Fr g L s.heap (fun y => List.lookup y (List.reverse [(Str.ofString "first", Value.str x1 t1), (Str.ofString "second", Value.str x2 t2), (Str.ofString "cost", Value.int sc t3), (Str.ofString "swaps", Value.bool tr)])))
  (hlen : nsIn K mainGlobals (Str.ofString "len") = some none) (hrange : nsIn K mainGlobals (Str.ofString "range") = some none) (hint : nsIn K mainGlobals (Str.ofString "int") = some none)
  (hmin : nsIn K mainGlobals (Str.ofString "min") = some none)
  (hx1 : x1.length ≤ 10) (hx2 : x2.length ≤ 10) (hd : dp ≤ 500) (hu : un ≤ 100)
  (hQ : ∀ v xs d h' tk m' news', Fr g L h' m' → News g L h' news' → (∀ p ∈ news, p ∈ news') → TabIn prog w news' d xs → Apart news d → (∀ x ∈ xs, Apart news x.2.1) → (∀ a b, a ≤ x1.length → b ≤ x2.length → HasV xs v a b) → (∀ a b, a ≤ x1.length → b ≤ x2.length → LawCell x1 x2 sc tr v a b) → Q (.ret (.ref d)) { s with heap := h', toks := tk }) :
  wpAny (model prog w) (Ar dp un fr gd) (execs tabB (envOf (Str.ofString "_law_table") tabScope L f cd)) Q (fun _ _ => False) s := by
  have e : tabScope = fnScope tabSt := rfl
  dsimp only [tabSt, fnScope, at12, PySem.Challenge.pw_je0021_01] at e
  rw [e]
  clear e
  dsimp only [tabB, tabSt, fnBody, at12, PySem.Challenge.pw_je0021_01]
  k_steps
  rename_i F5 N5 _
  rename IsRange _ _ _ _ _ _ _ _ => hr
  rename TabIn _ _ _ _ _ => TI
  rename_i d h9 od l1 _ _ _ _ _ _ _ _ _ _
  refine rngS (L := L) [Str.ofString "i", Str.ofString "j", Str.ofString "ways", Str.ofString "k", Str.ofString "m"] (x1.length + 1) news (fun i m mine => ∃ v xs, TabIn prog w mine d xs ∧ xs.length ≤ 20 * i ∧ (∀ a b, a < i → b ≤ x2.length → HasV xs v a b) ∧ (∀ a b, a < i → b ≤ x2.length → LawCell x1 x2 sc tr v a b))
    rfl rfl F5 N5 hr ?_ ?_ (fun p hp => .tail _ hp) (by decide) ?_ ?_ ?_
  · exact small_one (by omega) (by omega) (by omega) (by omega)
  · rw [rangeSize_one]; split <;> omega
  · exact exi_2_4 (fun _ _ => 0) [] (TI.toMine (fun q hq => Nat.ne_of_lt (l1 q hq)) (fun x hx => by cases hx)) (by simp) (fun a b h => by omega) (fun a b h => by omega)
  · intro i t u mine h tk own hi hJ1 hml hown F6 N6
    refine exe_2_4 hJ1 ?_
    clear hJ1
    intro v xs TI hxl hV hC
    rw [show (0 : Int) + (i : Int) = (i : Int) from by omega] at F6
    clear hr F5 N5
    k_fold
    k_steps
    rename_i F5 N5 _
    rename IsRange _ _ _ _ _ _ _ _ => hr
    refine exe_0_2 (TI.addrs (P := fun a => Apart (own ++ news) a) (fun p hp q hq => (List.mem_append.mp hq).elim (fun hq => hown q hq p hp) (fun hq => (hml p hp).1 q hq))) ?_
    intro a1 a2
    refine rngS (L := L) [Str.ofString "j", Str.ofString "ways", Str.ofString "k", Str.ofString "m"] (x2.length + 1) (own ++ news) (fun j m mine => ∃ v xs, TabIn prog w mine d xs ∧ xs.length ≤ 20 * i + j ∧ (∀ a b, (a < i ∧ b ≤ x2.length) ∨ (a = i ∧ b < j) → HasV xs v a b) ∧ (∀ a b, (a < i ∧ b ≤ x2.length) ∨ (a = i ∧ b < j) → LawCell x1 x2 sc tr v a b))
      rfl rfl F5 N5 hr ?_ ?_ ?_ (by decide) ?_ ?_ ?_
    · exact small_one (by omega) (by omega) (by omega) (by omega)
    · rw [rangeSize_one]; split <;> omega
    · intro p hp
      rcases List.mem_append.mp hp with hp | hp
      · exact List.mem_append_left _ hp
      · exact List.mem_append_right _ (List.mem_append_right _ hp)
    · exact exi_2_4 v xs ((TI.mono (fun p hp _ => List.mem_append_right _ (List.mem_append_left _ hp))).toMine a1 a2) (by omega) (fun a b h => hV a b (by omega) (by omega)) (fun a b h => hC a b (by omega) (by omega))
    · intro j tj uj minej hj tkj ownj hjlt hJ2 hmlj hownj F7 N7
      refine exe_2_4 hJ2 ?_
      clear hJ2
      intro v xs TI hxl hV hC
      rw [show (0 : Int) + (j : Int) = (j : Int) from by omega] at F7
      clear hr F5 N5
      k_fold
      have TJ : TabIn prog w (ownj ++ (minej ++ (own ++ news))) d xs := TI.mono (fun p hp _ => List.mem_append_right _ (List.mem_append_left _ hp))
      refine exe_0_2 (TI.addrs (P := fun a => Apart (own ++ news) a) (fun p hp => (hmlj p hp).1)) ?_
      intro p1 p2
      obtain ⟨p3, _⟩ := TI.addrs (P := fun a => Apart ownj a) (fun p hp q hq => hownj q hq p hp)
      show wpAny _ _ (execs tabJB (envOf (Str.ofString "_law_table") tabScope L f cd)) _ _ _
      refine cell_ok (v := v) (i := i) (j := j) (x1 := x1) (x2 := x2) (sc := sc) (tr := tr) X T N7
        (fr_known0 (Str.ofString "i") (fr_known0 (Str.ofString "j") (fr_known0 (Str.ofString "first") (fr_known0 (Str.ofString "second") (fr_known0 (Str.ofString "cost") (fr_known0 (Str.ofString "table") (fr_known0 (Str.ofString "swaps") F7 rfl) rfl) rfl) rfl) rfl) rfl) rfl)
        hrange hint hmin hx1 hx2 hd hu hi hjlt TJ (by omega) hV ?_
      intro u6 h6 tk6 news6 ad M t6 F6' N6' TI6 hk6 l4 hW1 hW2
      refine post_next F6' N6' ?_ ?_ ?_ ?_
      · exact fun p hp => hk6 p (by k_mem) (p3 p hp)
      · exact fun p hp => hk6 p (by k_mem) (p1 p hp)
      · intro y hy
        repeat' first | exact rfl | refine skip1 (ne_in hy (by rfl)) ?_ | refine skipS hy (by rfl) ?_ | refine keep2 (fun e => by subst e; rfl) ?_
      · exact tab_close hV hC TI6 hW1 hW2 hxl p1 p2 (fun q hq => Nat.ne_of_lt (l4 q (by k_mem)))
    · intro uj minej hj tkj hJ3 hmlj F7 N7
      refine exe_2_4 hJ3 ?_
      clear hJ3
      intro v xs TI hxl hV hC
      clear hr F5 N5
      k_steps
      refine exe_0_2 (TI.addrs (P := fun a => Apart (own ++ news) a) (fun p hp => (hmlj p hp).1)) ?_
      intro p1 p2
      refine post_next F7 N7 (fun p hp => List.mem_append_right _ (List.mem_append_left _ hp)) (fun p hp => List.mem_append_right _ (List.mem_append_right _ hp)) ?_ ?_
      · intro y hy
        repeat' first | exact rfl | refine skip1 (ne_in hy (by rfl)) ?_ | refine skipS hy (by rfl) ?_ | refine keep2 (fun e => by subst e; rfl) ?_
      · refine exi_2_4 v xs ((TI.mono (fun p hp _ => List.mem_append_left _ hp)).toMine (fun q hq => p1 q (List.mem_append_right _ hq)) (fun x hx q hq => p2 x hx q (List.mem_append_right _ hq))) (by omega) (fun a b h1 h2 => hV a b (by omega)) (fun a b h1 h2 => hC a b (by omega))
  · intro u mine h tk hJ4 hml F6 N6
    refine exe_2_4 hJ4 ?_
    clear hJ4
    intro v xs TI hxl hV hC
    clear hr F5 N5
    k_steps
    exact hQ v xs d h _ _ _ F6 N6 (fun p hp => List.mem_append_right _ hp) (TI.mono (fun p hp _ => List.mem_append_left _ hp)) (TI.addrs (P := fun a => Apart news a) (fun p hp => (hml p hp).1)).1 (TI.addrs (P := fun a => Apart news a) (fun p hp => (hml p hp).1)).2 (fun a b h1 h2 => hV a b (by omega) h2) (fun a b h1 h2 => hC a b (by omega) h2)
-- part ForT
section
variable {prog : Program} {w : World} {A : Around} {E : Value → Shared → Prop} {s : Shared} {env : Env} {h₀ : Heap} {target : Expr} {body : List Stmt} {Q : Flow → Shared → Prop}
/-- a loop over a list, its target any: the list lies in 'keep' -/
theorem listT {L ax : Addr} {c : Nat} {vs : List Value} {m₀ : Str → Option Value} {news : List (Addr × Obj)} (S : List Str) (keep : List (Addr × Obj)) (J : Nat → (Str → Option Value) → List (Addr × Obj) → Prop)
    (hL : env.locals = L) (hh : A.handled = none) (F : Fr h₀ L s.heap m₀) (N : News h₀ L s.heap news) (hkeep : ∀ p ∈ keep, p ∈ news) (hm : (ax, listOf vs.toArray c) ∈ keep) (hj : J 0 m₀ (mineOf keep news))
    (turn : ∀ i v u mine h tk own, vs[i]? = some v → J i u mine → (∀ p ∈ mine, Apart keep p.1 ∧ plainB p.2 = true) → (∀ p ∈ own, ∀ q ∈ mine, p.1 ≠ q.1) → Fr h₀ L h (fun y => if S.contains y then u y else m₀ y) → News h₀ L h (own ++ (mine ++ keep)) →
      wpAny (model prog w) A (assign target env v) (fun _ s₃ => wpAny (model prog w) A (execs body env) (MyPost h₀ L (fun m mine => (∀ y, S.contains y = false → m y = m₀ y) ∧ J (i + 1) m mine) own keep { s with heap := h, toks := tk } Q) E s₃) E { s with heap := h, toks := tk })
    (done : ∀ u mine h tk, J vs.length u mine → (∀ p ∈ mine, Apart keep p.1 ∧ plainB p.2 = true) → Fr h₀ L h (fun y => if S.contains y then u y else m₀ y) → News h₀ L h (mine ++ keep) → Q .next { s with heap := h, toks := tk }) :
    wpAny (model prog w) A (pyIter (.ref ax)) (fun it s₂ => TurnsAt prog w A h₀ env target body Q E it s₂) E s := by
  subst hL
  have norm : ∀ {m₁ : Str → Option Value}, (∀ y, S.contains y = false → m₁ y = m₀ y) → m₁ = fun y => if S.contains y then m₁ y else m₀ y := by
    intro m₁ h
    funext y
    cases e : S.contains y with
    | true => simp
    | false => simp only [Bool.false_eq_true, if_false]; exact h y e
  have hax := N _ (hkeep _ hm)
  have hl : s.heap.IsList ax vs.toArray := ⟨_, hax.1, rfl, c, rfl⟩
  have hlt : ax < s.heap.objs.size := Heap.lt_size hax.1
  have hne : ax ≠ s.heap.objs.size := Nat.ne_of_lt hlt
  have hIk : ∀ p ∈ keep, p.1 ≠ s.heap.objs.size := fun p hp e => absurd (Heap.lt_size (N p (hkeep p hp)).1) (e ▸ Nat.lt_irrefl _)
  refine wpAny_pyIter_list hl ?_
  have W := KTurns.ofWalks (target := target) (Walks.list (prog := prog) (w := w) (A := A) hh s.heap.objs.size ax hne vs.toArray) fun i v s Q E st q => letGo_listiter st.1 q
  have notI : ∀ {h : Heap} {l : List (Addr × Obj)} {i : Nat}, News h₀ env.locals h l → h.IsListIter s.heap.objs.size ax i → ∀ p ∈ l, plainB p.2 = true → p.1 ≠ s.heap.objs.size := by
    rintro h l i N' ⟨o, ho, hc, hdI⟩ p hp hpl e
    have := (N' p hp).1
    rw [e, ho] at this
    have hb : plainB o = false := by unfold plainB; rw [hc, hdI]; rfl
    rw [Option.some.inj this, hpl] at hb
    cases hb
  have hmine : ∀ {l : List (Addr × Obj)}, ∀ p ∈ mineOf keep l, Apart keep p.1 ∧ plainB p.2 = true := fun p hp => ⟨(of_mineOf hp).2.2, (of_mineOf hp).2.1⟩
  let J' : Nat → (Str → Option Value) → List (Addr × Obj) → Prop := fun i m₁ news₁ => ∃ mine, news₁ = mine ++ keep ∧ (∀ p ∈ mine, Apart keep p.1 ∧ plainB p.2 = true) ∧ (∀ y, S.contains y = false → m₁ y = m₀ y) ∧ J i m₁ mine
  refine ⟨s.heap.objs.size, [s.heap.objs.size, ax], [s.heap.objs.size], vs.toArray.size, _, _, _, m₀, mineOf keep news ++ keep, J', rfl, W, ?_, ?_, ?_, ⟨⟨_, Heap.get?_push_size _ rfl, rfl, rfl⟩, hl.at fun o e => Heap.get?_push_of_some _ e⟩, F.push _, ?_, ⟨_, rfl, hmine, fun _ _ => rfl, hj⟩, ?_, ?_⟩
  · intro hI
    rcases List.mem_cons.mp hI with e | hI
    · exact absurd F.ns.lt (e ▸ Nat.lt_irrefl _)
    · exact hax.2.1 (List.mem_singleton.mp hI).symm
  · intro b hb
    rw [List.mem_singleton.mp hb]; exact next_is_new F
  · intro p hp hw
    have e := List.mem_singleton.mp hw
    rcases List.mem_append.mp hp with hp | hp
    · exact absurd (Heap.lt_size (N p (of_mineOf hp).1).1) (e ▸ Nat.lt_irrefl _)
    · exact hIk p hp e
  · intro p hp
    rcases List.mem_append.mp hp with hp | hp
    · exact ⟨Heap.get?_push_of_some _ (N p (of_mineOf hp).1).1, (N p (of_mineOf hp).1).2⟩
    · exact ⟨Heap.get?_push_of_some _ (N p (hkeep p hp)).1, (N p (hkeep p hp)).2⟩
  · rintro i v m₁ news₁ hh' tk' own hin hP ⟨mine, rfl, hml, hmS, hJ⟩ hoff hown hownAt hall hst₁ F₁ N₁
    have hP' : vs[i]? = some v := by simpa using hP
    have F₂ : Fr h₀ env.locals hh' (fun y => if S.contains y then m₁ y else m₀ y) := by
      have e := norm hmS
      rw [e] at F₁
      exact F₁
    refine wpAny_mono (turn i v m₁ mine hh' tk' own hP' hJ hml ?_ F₂ N₁) (fun _ s₃ q => wpAny_mono q (fun f s₂ p => ?_) fun _ _ e => e) fun _ _ e => e
    · intro p hp q hq e
      rcases List.mem_cons.mp (hown p hp) with h1 | h1
      · exact notI N₁ hst₁.1 q (List.mem_append_right _ (List.mem_append_left _ hq)) (hml q hq).2 (by rw [← e, h1])
      · exact (hml q hq).1 _ hm (by rw [← e, List.mem_singleton.mp h1])
    · have fin : MyEnd h₀ env.locals (fun m mine => (∀ y, S.contains y = false → m y = m₀ y) ∧ J (i + 1) m mine) own keep { s with heap := hh', toks := tk' } s₂ → LoopStepU h₀ env.locals [s.heap.objs.size] own (J' (i + 1)) { s with heap := hh', toks := tk' } .next s₂ := by
        rintro ⟨h', tk, m', news', e, F', N', ho, hk, hmm, hJm⟩
        obtain ⟨oI, hoI, hcI, hdI⟩ := hst₁.1
        have hIo : (s.heap.objs.size, oI) ∈ own := hall _ (by simp) (next_is_new F) oI hoI
        have hI' : h'.IsListIter s.heap.objs.size ax (i + 1) := ⟨oI, (N' _ (ho _ hIo)).1, hcI, hdI⟩
        refine ⟨rfl, h', tk, m', mineOf keep news' ++ keep, e, F', fun p hp => ?_, fun p hp hw => ?_, _, rfl, hmine, hmm, hJm⟩
        · rcases List.mem_append.mp hp with hp | hp
          · exact N' p (ho p hp)
          · rcases List.mem_append.mp hp with hp | hp
            · exact N' p (of_mineOf hp).1
            · exact N' p (hk p hp)
        · have e := List.mem_singleton.mp hw
          rcases List.mem_append.mp hp with hp | hp
          · exact notI N' hI' p (of_mineOf hp).1 (of_mineOf hp).2.1 e
          · exact hIk p hp e
      cases f with
      | ret v => exact .ret p
      | brk => exact .brk p
      | next => exact .next (fin p)
      | cont => exact .cont (fin p)
  · rintro h' tk m' news' F' N' _ ⟨mine, rfl, hml, hmS, hJ⟩
    have F₂ : Fr h₀ env.locals h' (fun y => if S.contains y then m' y else m₀ y) := by
      have e := norm hmS
      rw [e] at F'
      exact F'
    exact done m' mine h' tk (by simpa using hJ) hml F₂ N'
theorem listT2 {L ax DC : Addr} {oDC : Obj} {c : Nat} {vs : List Value} {m₀ : Str → Option Value} {keep : List (Addr × Obj)} (S : List Str) (J : Addr → Nat → (Str → Option Value) → List (Addr × Obj) → Prop)
    (hL : env.locals = L) (hh : A.handled = none) (F : Fr h₀ L s.heap m₀) (N : News h₀ L s.heap ((DC, oDC) :: keep)) (hm : (ax, listOf vs.toArray c) ∈ keep) (hj : J DC 0 m₀ (mineOf keep ((DC, oDC) :: keep)))
    (turn : ∀ i v u mine h tk own, vs[i]? = some v → J DC i u mine → (∀ p ∈ mine, Apart keep p.1 ∧ plainB p.2 = true) → (∀ p ∈ own, ∀ q ∈ mine, p.1 ≠ q.1) → Fr h₀ L h (fun y => if S.contains y then u y else m₀ y) → News h₀ L h (own ++ (mine ++ keep)) →
      wpAny (model prog w) A (assign target env v) (fun _ s₃ => wpAny (model prog w) A (execs body env) (MyPost h₀ L (fun m mine => (∀ y, S.contains y = false → m y = m₀ y) ∧ J DC (i + 1) m mine) own keep { s with heap := h, toks := tk } Q) E s₃) E { s with heap := h, toks := tk })
    (done : ∀ u mine h tk, J DC vs.length u mine → (∀ p ∈ mine, Apart keep p.1 ∧ plainB p.2 = true) → Fr h₀ L h (fun y => if S.contains y then u y else m₀ y) → News h₀ L h (mine ++ keep) → Q .next { s with heap := h, toks := tk }) :
    wpAny (model prog w) A (pyIter (.ref ax)) (fun it s₂ => TurnsAt prog w A h₀ env target body Q E it s₂) E s :=
  listT S keep (J DC) hL hh F N (fun _ hp => .tail _ hp) hm hj turn done
end
-- part ListRev
set_option maxRecDepth 100000
theorem nolen_lr : typeLookup (.type "list_reverseiterator") "__len__" = pure none := by rw [typeLookup_type, builtinLookup_eq_fast]; kernel_rfl
theorem hint_lr : typeLookup (.type "list_reverseiterator") "__length_hint__" = pure (some (.builtin "list_reverseiterator.__length_hint__")) := by rw [typeLookup_type, builtinLookup_eq_fast]; kernel_rfl
section
variable {prog : Program} {w : World} {A : Around} {E : Value → Shared → Prop} {s : Shared} {R : Result → Shared → Prop}
variable {I : Addr} {fp wr : List Addr} {G : Array GenState → Array GenState → Prop} {n : Nat} {P : Nat → Value → Prop} {St : Nat → Shared → Prop}
theorem extend_rev (W : WalksS prog w A.in1 I fp wr G n P St) (hT : ∀ i s, St i s → s.TypeIs (.ref I) "list_reverseiterator") (S : Addr) (res : Value) (c₀ : Nat) (hst : St 0 s) (hSf : S ∉ fp) (hI : I ∈ fp)
    (hS : s.heap.get? S = some { cls := .type "list", data := .seq #[] c₀ })
    (hR : ∀ s' acc' c', Moved (S :: wr) G s s' → s'.heap.get? S = some { cls := .type "list", dict := none, data := .seq acc' c', slots := #[] } → ItemsOf P acc' n → R (.ok (.ret res)) s') (hn : n ≤ sizeLine) :
    wpAny (model prog w) A.in1 (Builtin.List.listExtendWith (.ref S) (.ref I) res)
      (fun fin s' => match fin with | .done f => R (.ok f) s' | .again c' => c'.quiet = true ∧ codeAny (model prog w) A c' R s') (fun e s' => R (.error e) s') s := by
  have hSI : S ≠ I := fun e => hSf (e ▸ hI)
  unfold Builtin.List.listExtendWith
  refine wpAny_bind (wpAny_typeOf (hT 0 _ hst) ?_)
  have h1 : Builtin.List.listSameRef (.ref S) (.ref I) = false := by simp [Builtin.List.listSameRef, hSI]
  rw [if_neg (by rw [h1]; decide)]
  refine wpAny_bind (W.self 0 _ _ _ hst ?_)
  refine wpAny_bind (wpAny_holding ?_)
  unfold Builtin.List.listLengthHint
  refine wpAny_bind (wpAny_specialOf (hT 0 _ hst) nolen_lr ?_)
  show wpAny _ A.in1 (specialOf (Value.ref I) (Str.ofString "__length_hint__") >>= _) _ _ _
  refine wpAny_bind (wpAny_specialOf (hT 0 _ hst) hint_lr ?_)
  (generalize hid : ("list_reverseiterator.__length_hint__" : String) = id0; (fail_if_success (clear hid id0)); wp_delta; rw [show splitId id0 = some ("list_reverseiterator", "__length_hint__") from by subst hid; decide +kernel]; subst hid)
  refine wpAny_bind (wpAny_isInstance (b := true) (hT 0 _ hst) (by rw [isSubtype_type]; kernel_rfl) ?_)
  refine wpAny_pure ?_
  rw [if_neg (by decide)]
  exact wpAny_pure ⟨plainId_quiet F.plain_extend_loop _, codeAny_extend_loopS W hn _ hSf _ n 0 _ _ _ rfl (Nat.zero_le _) hst hS (ItemsOf.nil P) fun s' acc' c' hm hS' hacc => hR s' acc' c' hm hS' hacc⟩
theorem list_init_rev (W : WalksS prog w A.in1 I fp wr G n P St) (hT : ∀ i s, St i s → s.TypeIs (.ref I) "list_reverseiterator") (S : Addr) (hst : St 0 s) (hSf : S ∉ fp) (hI : I ∈ fp)
    (hS : s.heap.get? S = some { cls := .type "list", data := .seq #[] })
    (hR : ∀ s' acc' c', Moved (S :: wr) G s s' → s'.heap.get? S = some { cls := .type "list", dict := none, data := .seq acc' c', slots := #[] } → ItemsOf P acc' n → R (.ok (.ret .none)) s') (hn : n ≤ sizeLine) :
    wpAny (model prog w) A.in1 (Builtin.«list.__init__» ⟨[.ref S, .ref I], []⟩)
      (fun fin s' => match fin with | .done f => R (.ok f) s' | .again c' => c'.quiet = true ∧ codeAny (model prog w) A c' R s') (fun e s' => R (.error e) s') s := by
  show wpAny _ A.in1 (do let old ← Builtin.List.listItems (.ref S); Builtin.List.listUpdate (.ref S) (fun _ => #[]); letGo old.toList.reverse; Builtin.List.listExtendWith (.ref S) (.ref I) .none) _ _ s
  refine wpAny_bind ?_
  unfold Builtin.List.listItems
  refine wpAny_bind (wpAny_seqItems hS rfl (wpAny_pure ?_))
  show wpAny _ _ (updateSeq S (fun _ => #[]) >>= fun _ => letGo (#[] : Array Value).toList.reverse >>= fun _ => Builtin.List.listExtendWith (.ref S) (.ref I) .none) _ _ s
  refine wpAny_bind (wpAny_updateSeq hS rfl ?_)
  have hS₂ := Heap.get?_update_self (Obj.mapSeq (fun _ => (#[] : Array Value))) hS rfl
  have oth : ∀ b o, b ≠ S → s.heap.get? b = some o → (s.heap.update S (Obj.mapSeq (fun _ => (#[] : Array Value)))).get? b = some o :=
    fun b o hb e => (Heap.get?_update_other _ _ (Ne.symm hb)).trans e
  refine wpAny_bind (wpAny_letGo ?_)
  refine extend_rev W hT S .none _ (W.frame 0 s _ s.toks hst (Nat.le_refl _) fun b hb o e => oth b o (fun h => hSf (h ▸ hb)) e) hSf hI hS₂ (fun s' acc' c' hm hS' hacc => ?_) hn
  exact hR s' acc' c' (Moved.trans W.gtrans ((Moved.refl W.grefl).then_heap (Nat.le_refl _) fun b o hb e => oth b o (fun h => hb (h ▸ List.mem_cons_self)) e) hm) hS' hacc
end
section
variable {prog : Program} {w : World} {A : Around} {E : Value → Shared → Prop} {s : Shared}
theorem call_list_rev {Q : Value → Shared → Prop} {I l : Addr} {vs : List Value} (hh : A.handled = none) (hne : l ≠ I) (hit : s.heap.IsRevIter I l ((vs.length : Int) - 1)) (hl : s.heap.IsList l vs.toArray) (hn : vs.length ≤ sizeLine)
    (hQ : ∀ h' tk c', (∀ b o, b ≠ I → s.heap.get? b = some o → h'.get? b = some o) → h'.get? s.heap.objs.size = some (listOf vs.reverse.toArray c') → Q (.ref s.heap.objs.size) { s with heap := h', toks := tk }) :
    wpAny (model prog w) A (call (.type "list") [.ref I]) Q E s := by
  have hlt : I < s.heap.objs.size := by obtain ⟨o, ho, _⟩ := hit; exact Heap.lt_size ho
  have hlt2 : l < s.heap.objs.size := by obtain ⟨o, ho, _⟩ := hl; exact Heap.lt_size ho
  refine callType_codes (Q₁ := fun obj s₁ => obj = .ref s.heap.objs.size ∧ s₁ = { s with heap := s.heap.push { cls := .type "list", data := .seq #[] } }) F.called_list (F.typeCall_list_1 _) F.entry_list_init
    (code_list_new _ ⟨rfl, rfl⟩) fun obj s₁ h₁ => ?_
  obtain ⟨rfl, rfl⟩ := h₁
  have hS : (s.heap.push { cls := .type "list", data := .seq #[] }).get? s.heap.objs.size = some { cls := .type "list", data := .seq #[] } := Heap.get?_push_size _ rfl
  have W := (Walks.listRev (prog := prog) (w := w) (A := A.in1.in1) hh I l hne vs.toArray).toS
  refine ⟨⟨_, hS, rfl⟩, F.args_list_init_2 _ _, list_init_rev (A := A.in1) W (fun i s st => st.2.1.typeIs) _ ?_ ?_ ?_ hS (fun s' acc' c' hm hS' hacc => ?_) (by simpa using hn)⟩
  · refine ⟨Nat.zero_le _, ?_, hl.at fun o e => Heap.get?_push_of_some _ e⟩
    have e : ((vs.toArray.size : Nat) : Int) - 1 - ((0 : Nat) : Int) = (vs.length : Int) - 1 := by simp
    rw [e]
    exact hit.at fun o e => Heap.get?_push_of_some _ e
  · simp only [List.mem_cons, List.not_mem_nil, or_false, not_or]
    exact ⟨Nat.ne_of_gt hlt, Nat.ne_of_gt hlt2⟩
  · simp
  · refine ⟨rfl, ?_⟩
    rw [Moved.eq_with hm]
    have e : acc' = vs.reverse.toArray := by
      obtain ⟨h1, h2⟩ := hacc
      refine Array.ext (by simpa using h1) fun i hi hj => ?_
      have h3 := h2 i acc'[i] (Array.getElem?_eq_getElem hi)
      have h4 : i < vs.length := by simpa using hj
      have h5 : vs.toArray.size - 1 - i < vs.toArray.size := by simp; omega
      dsimp only at h3
      rw [Array.getElem?_eq_getElem h5] at h3
      have h6 := Option.some.inj h3
      rw [← h6]
      simp
    refine hQ s'.heap s'.toks c' (fun b o hb eo => hm.heap b o (fun hmem => ?_) (Heap.get?_push_of_some _ eo)) (by rw [e] at hS'; exact hS')
    rcases List.mem_cons.mp hmem with e' | hmem
    · exact absurd (Heap.lt_size eo) (by rw [e']; exact Nat.lt_irrefl _)
    · exact hb (List.mem_singleton.mp hmem)
theorem rev_list {h₀ : Heap} {L : Addr} {m : Str → Option Value} {I l : Addr} {vs : List Value} {c : Nat} {news : List (Addr × Obj)} {Q : Value → Shared → Prop} (hh : A.handled = none) (F : Fr h₀ L s.heap m) (N : News h₀ L s.heap ((I, revObj l ((vs.length : Int) - 1)) :: news))
    (hlt : ∀ p ∈ news, p.1 < I) (hl : (l, listOf vs.toArray c) ∈ news) (hn : vs.length ≤ sizeLine)
    (h : ∀ D c h' tk, Fr h₀ L h' m → News h₀ L h' ((D, listOf vs.reverse.toArray c) :: news) → (∀ p ∈ news, p.1 < D) → Q (.ref D) { s with heap := h', toks := tk }) :
    wpAny (model prog w) A (call (.type "list") [.ref I]) Q E s := by
  have hne : ∀ p ∈ news, p.1 ≠ I := fun p hp => Nat.ne_of_lt (hlt p hp)
  have zI := N _ (.head _)
  have zl := N _ (.tail _ hl)
  refine call_list_rev hh (hne _ hl) ⟨_, zI.1, rfl, rfl⟩ ⟨_, zl.1, rfl, c, rfl⟩ hn fun h' tk c' hk hD => ?_
  refine h _ c' h' tk ?_ ?_ fun p hp => Heap.lt_size (N p (.tail _ hp)).1
  · exact kmk_fr F (fun b o hb eo => hk b o (fun e => hb (by simp [e])) eo) zI.2.1 (N.fresh (.head _))
  · intro p hp
    rcases List.mem_cons.mp hp with rfl | hp
    · exact ⟨hD, Nat.ne_of_gt F.ns.lt, next_is_new F⟩
    · exact ⟨hk _ _ (hne p hp) (N p (.tail _ hp)).1, (N p (.tail _ hp)).2⟩
end
-- part WBackT
theorem mat_item2 {prog : Program} {w : World} {A : Around} {E : Value → Shared → Prop} {s : Shared} {h₀ : Heap} {L : Addr} {news base : List (Addr × Obj)} {value slice : Expr} {l : Addr} {rs : List Addr} {n1 n2 : Nat} {f : Nat → Nat → Int} {k : Int} {u : Tok} {Q : Value → Shared → Prop}
    (N : News h₀ L s.heap news) (M : MatIn base l rs n1 n2 f) (hsub : ∀ p ∈ base, p ∈ news) (h0 : 0 ≤ k) (h1 : k < n1) (hf : (n1 : Int) < 2 ^ 62)
    (h : ∀ r vs c, rs[k.toNat]? = some r → (r, listOf vs.toArray c) ∈ base → RowIs vs n2 (f k.toNat) → Q (.ref r) s)
    (hs : subscripted slice false (.ref l) (.int k u) = operate [.ref l, .int k u] (getItem (.ref l) (.int k u)) := by with_unfolding_all rfl) (hg : ∀ r, letTemporaryGo value (.ref l) r = pure () := by intro _; with_unfolding_all rfl) :
    wpAny (model prog w) A (subscriptTail value slice (.ref l) (.int k u)) Q E s := by
  obtain ⟨c, hm⟩ := M.top
  have hk : k.toNat < rs.length := by rw [M.len]; omega
  obtain ⟨vs, c', hm', hr⟩ := M.row k.toNat rs[k.toNat] (List.getElem?_eq_getElem hk)
  exact kim_list N (hsub _ hm) rfl rfl h0 (by omega) (by rw [List.getElem?_map, List.getElem?_eq_getElem hk]; rfl) (h _ _ _ (List.getElem?_eq_getElem hk) hm' hr) hs hg



def at7 : List Stmt → Stmt
  | _ :: _ :: _ :: _ :: _ :: _ :: _ :: x :: _ => x
  | _ => .Pass ⟨0,0,0,0⟩
def at8 : List Stmt → Stmt
  | _ :: _ :: _ :: _ :: _ :: _ :: _ :: _ :: x :: _ => x
  | _ => .Pass ⟨0,0,0,0⟩
def btSt : Stmt := at7 PySem.Challenge.pw_je0021_01.main.body
def btB : List Stmt := fnBody btSt
def btScope : Scope := fnScope btSt
theorem row_size {vs : List Value} {n : Nat} {g : Nat → Int} (h : RowIs vs n g) : vs.toArray.size = n := by rw [List.size_toArray]; exact h.1
end
section
local macro_rules | `(tactic| walk_at "exec For Tuple Name cons nil") => `(tactic| (k_here; (rename Fr _ _ _ _ => lF'); (with_unfolding_all refine' For_turns lF' ?_; k_whole)))
local macro_rules | `(tactic| walk_at "subscriptTail") => `(tactic| (k_here; (with_reducible refine g_sub ?_); (with_unfolding_all refine mat_item2 (by assumption) (by assumption) (fun p hp => by k_mem) (by omega) (by omega) (by omega) ?_); intro r' vs' c' hr' hm' hR'))
local macro_rules | `(tactic| walk_at "subscriptTail") => `(tactic| (k_here; (with_reducible refine g_sub ?_); (with_unfolding_all refine row_item (by assumption) (by k_mem) (by assumption) (by omega) (by omega) (by omega) ?_); intro _))
local macro_rules | `(tactic| walk_at "call builtin:len") => `(tactic| (k_here; (with_reducible refine g_len ?_); (refine KM.len_K (by assumption) (by k_mem) (by assumption) (by omega) ?_)))
local macro_rules | `(tactic| walk_at "call builtin:len") => `(tactic| (k_here; (with_reducible refine g_len ?_); (refine KM.len_K (by assumption) (by k_mem) (row_size (by assumption)) (by omega) ?_)))
section
local macro_rules | `(tactic| walk_at "ite") => `(tactic| (k_here; (with_reducible show ite _ (wpAny _ _ (eval (Expr.Constant _ _ _) _) _ _ _) (wpAny _ _ (eval (Expr.Name _ _) _) _ _ _)); (try dsimp only); k_dflt (refine' join_ite (a := 0) (fun q hq => wpAny_Constant_int (hq _ _)) (fun q hq => ld (by assumption) (by rfl) (hq _ _)) ?_); intro _ _; (try dsimp only)))

def WEnd (h₀ : Heap) (L : Addr) (s : Shared) (S : List Str) (m₀ : Str → Option Value) (J : Nat → (Str → Option Value) → List (Addr × Obj) → Prop) (Q : Flow → Shared → Prop) (n : Nat) (f : Flow) (s₃ : Shared) : Prop :=
  match f with
  | .next | .cont => ∃ h' tk m₂ news₂ n', s₃ = { s with heap := h', toks := tk } ∧ Fr h₀ L h' m₂ ∧ News h₀ L h' news₂ ∧ n' < n ∧ (∀ y, S.contains y = false → m₂ y = m₀ y) ∧ J n' m₂ news₂
  | .brk => Q .next s₃
  | .ret v => Q (.ret v) s₃
theorem while_next {h₀ : Heap} {L : Addr} {s : Shared} {S : List Str} {m₀ m₂ : Str → Option Value} {J : Nat → (Str → Option Value) → List (Addr × Obj) → Prop} {Q : Flow → Shared → Prop} {n n' tk : Nat} {h' : Heap} {news₂ : List (Addr × Obj)}
    (F : Fr h₀ L h' m₂) (N : News h₀ L h' news₂) (hn : n' < n) (hm : ∀ y, S.contains y = false → m₂ y = m₀ y) (hJ : J n' m₂ news₂) : WEnd h₀ L s S m₀ J Q n .next { s with heap := h', toks := tk } := ⟨h', tk, m₂, news₂, n', rfl, F, N, hn, hm, hJ⟩
section
variable {prog : Program} {w : World} {A : Around} {E : Value → Shared → Prop} {Q : Flow → Shared → Prop} {s : Shared} {env : Env} {h₀ : Heap} {L : Addr}
theorem whileS {test : Expr} {body : List Stmt} {pos : Pos} {m₀ : Str → Option Value} {news : List (Addr × Obj)} (S : List Str) (n₀ : Nat) (J : Nat → (Str → Option Value) → List (Addr × Obj) → Prop)
    (F : Fr h₀ L s.heap m₀) (N : News h₀ L s.heap news) (hJ : J n₀ m₀ news)
    (turn : ∀ n u news₁ h₁ tk₁, J n u news₁ → Fr h₀ L h₁ (fun y => if S.contains y then u y else m₀ y) → News h₀ L h₁ news₁ →
      wpAny (model prog w) A (isTrue test env (eval test env)) (fun b s₂ =>
        if b = true then wpAny (model prog w) A (execs body env) (WEnd h₀ L s S m₀ J Q n) E s₂ else Q .next s₂) E { s with heap := h₁, toks := tk₁ })
    (hE : PassesOwn (model prog w) A env E := by passes_own) :
    wpAny (model prog w) A (exec (.While test body [] pos) env) Q E s := by
  refine While_inv2 (fun n m nx => (∀ y, S.contains y = false → m y = m₀ y) ∧ J n m nx) F N ⟨fun _ _ => rfl, hJ⟩ ?_ hE
  rintro n m₁ nx h tk F₁ N₁ ⟨hm, hJ1⟩
  have norm : m₁ = fun y => if S.contains y then m₁ y else m₀ y := by
    funext y
    cases e : S.contains y with
    | true => simp
    | false => simp only [Bool.false_eq_true, if_false]; exact hm y e
  rw [norm] at F₁
  refine wpAny_mono (turn n m₁ nx h tk hJ1 F₁ N₁) (fun b s₂ p => ?_) fun _ _ x => x
  cases b with
  | false => simpa using p
  | true =>
    simp only [if_true] at p ⊢
    refine wpAny_mono p (fun f s₃ q => ?_) fun _ _ x => x
    cases f with
    | ret v => exact q
    | brk => exact q
    | next =>
      obtain ⟨h', tk', m', news', n', e, F', N', hn, h1, h2⟩ := q
      exact ⟨h', tk', m', news', n', e, F', N', hn, h1, h2⟩
    | cont =>
      obtain ⟨h', tk', m', news', n', e, F', N', hn, h1, h2⟩ := q
      exact ⟨h', tk', m', news', n', e, F', N', hn, h1, h2⟩
end
/-- what a step back costs -/
def stepD (x1 x2 : Str) (sc : Int) (v : Nat → Nat → Int) (a b : Nat) : Int := v (a - 1) (b - 1) + (if (Txt.item x1 ((a : Int) - 1) == Txt.item x2 ((b : Int) - 1)) = true then 0 else sc)
def prevOf (x1 x2 : Str) (sc : Int) (v : Nat → Nat → Int) (a b : Nat) : Nat × Nat :=
  if a = 0 then (0, b - 1) else if b = 0 then (a - 1, 0)
  else if stepD x1 x2 sc v a b ≤ v (a - 1) b + 1 ∧ stepD x1 x2 sc v a b ≤ v a (b - 1) + 1 then (a - 1, b - 1)
  else if v (a - 1) b + 1 ≤ v a (b - 1) + 1 then (a - 1, b) else (a, b - 1)
/-- the way back so far: from (n1, n2), each the one before -/
def BackPath (x1 x2 : Str) (sc : Int) (v : Nat → Nat → Int) (n1 n2 : Nat) (pts : List (Nat × Nat)) : Prop :=
  pts[0]? = some (n1, n2) ∧ ∀ k p q, pts[k]? = some p → pts[k + 1]? = some q → (p.1 ≠ 0 ∨ p.2 ≠ 0) ∧ q = prevOf x1 x2 sc v p.1 p.2
def TupsAre (news : List (Addr × Obj)) (its : List Value) (pts : List (Nat × Nat)) : Prop :=
  its.length = pts.length ∧ ∀ (k : Nat) (p : Nat × Nat), pts[k]? = some p → ∃ (a : Addr) (t t' : Tok), its[k]? = some (Value.ref a) ∧ (a, ({ cls := .type "tuple", data := .seq [Value.int (p.1 : Int) t, Value.int (p.2 : Int) t'].toArray } : Obj)) ∈ news

/-- what one way back costs, from the cell (a, b) to (px, py) -/
def costOf (x1 x2 : Str) (sc : Int) (v : Nat → Nat → Int) (a b : Nat) (px py : Int) : Int :=
  if px < 0 ∨ py < 0 then 1000000000 else if px = (a : Int) - 1 ∧ py = (b : Int) - 1 then v px.toNat py.toNat + (if (Txt.item x1 px == Txt.item x2 py) = true then 0 else sc) else v px.toNat py.toNat + 1
def dirX (a q : Nat) : Int := if q = 2 then (a : Int) else (a : Int) - 1
def dirY (b q : Nat) : Int := if q = 1 then (b : Int) else (b : Int) - 1
def CS (cost dx dy : Nat → Int) (mine : List (Addr × Obj)) (cs : List Value) : Prop :=
  ∀ q, q < cs.length → ∃ (T P : Addr) (t u u' : Tok), cs[q]? = some (Value.ref T) ∧ (T, ({ cls := .type "tuple", data := .seq [Value.int (cost q) t, Value.ref P].toArray } : Obj)) ∈ mine ∧ (P, ({ cls := .type "tuple", data := .seq [Value.int (dx q) u, Value.int (dy q) u'].toArray } : Obj)) ∈ mine
theorem CS.push {cost dx dy : Nat → Int} {mine mine' : List (Addr × Obj)} {cs : List Value} {T P : Addr} {t u u' : Tok} {c0 px py : Int} {q : Nat} (h : CS cost dx dy mine cs) (hq : cs.length = q) (hk : ∀ p ∈ mine, p.2.cls = .type "tuple" → p ∈ mine') (hc : c0 = cost q) (hx : px = dx q) (hy : py = dy q)
    (hT : (T, ({ cls := .type "tuple", data := .seq [Value.int c0 t, Value.ref P].toArray } : Obj)) ∈ mine') (hP : (P, ({ cls := .type "tuple", data := .seq [Value.int px u, Value.int py u'].toArray } : Obj)) ∈ mine') : CS cost dx dy mine' (cs ++ [.ref T]) := by
  subst hq hc hx hy
  intro k hk1
  rcases Nat.lt_or_ge k cs.length with hl | hl
  · obtain ⟨T', P', a, b, c, e, m1, m2⟩ := h k hl
    exact ⟨T', P', a, b, c, by rw [List.getElem?_append_left hl]; exact e, hk _ m1 rfl, hk _ m2 rfl⟩
  · have e : k = cs.length := by simp at hk1; omega
    subst e
    exact ⟨T, P, t, u, u', by simp, hT, hP⟩

def forBody2 : Stmt → List Stmt
  | .For (body := b) .. => b
  | _ => []
def whileBody : Stmt → List Stmt
  | .While (body := b) .. => b
  | _ => []
def m2 : List Stmt → Stmt
  | _ :: _ :: x :: _ => x
  | _ => .Pass ⟨0,0,0,0⟩
theorem fr_norm {g : Heap} {L : Addr} {h : Heap} {m m0 : Str → Option Value} {S : List Str} (F : Fr g L h m) (hm : ∀ y, S.contains y = false → m y = m0 y) : Fr g L h (fun y => if S.contains y then m y else m0 y) := by
  have e : m = fun y => if S.contains y then m y else m0 y := by
    funext y
    cases e : S.contains y with
    | true => simp
    | false => simp only [Bool.false_eq_true, if_false]; exact hm y e
  rw [e] at F
  exact F
def btForB : List Stmt := forBody2 (m2 (whileBody (m2 btB)))
set_option maxRecDepth 100000 in
set_option maxHeartbeats 8000000 in
theorem btT_ok {prog : Program} {w : World} {dp un : Nat} {fr : Option (List Env)} {gd : Option (List Code)} {g : Heap} {L f : Addr} {cd : Value} {s : Shared} {news : List (Addr × Obj)} {K : Frag} {Q : Flow → Shared → Prop}
  {p : Program} {loose : List Str} {mean : ExcName → Option Value} {mg mb : Str → Option Value}
  {x1 x2 : Str} {t1 t2 t3 t4 t5 tx ty : Tok} {sc : Int} {l DC : Addr} {rs : List Addr} {v : Nat → Nat → Int} {a b c : Nat} {px py : Int} {cs : List Value} {m0 : Str → Option Value}
  (X : K.In g) (T : Top p loose mean mg mb g) (N : News g L s.heap news)
  (F : Fr g L s.heap (fun y => if y = Str.ofString "pi" then some (.int px tx) else if y = Str.ofString "pj" then some (.int py ty) else if y = Str.ofString "i" then some (.int a t4) else if y = Str.ofString "j" then some (.int b t5) else if y = Str.ofString "direction_costs" then some (.ref DC) else
    if y = Str.ofString "lev" then some (.ref l) else if y = Str.ofString "s1" then some (.str x1 t1) else if y = Str.ofString "s2" then some (.str x2 t2) else if y = Str.ofString "substitution_cost" then some (.int sc t3) else m0 y))
  (hx1 : x1.length ≤ 10) (hx2 : x2.length ≤ 10) (hd : dp ≤ 500) (hu : un ≤ 100) (M : MatIn news l rs (x1.length + 1) (x2.length + 1) v) (hla : a ≤ x1.length) (hlb : b ≤ x2.length) (hbx : px ≤ a) (hby : py ≤ b)
  (hDC : (DC, listOf cs.toArray c) ∈ news) (hsz : cs.length ≤ sizeLine)
  (hQ : ∀ (T P : Addr) (t u u' : Tok) (m' : Str → Option Value) h' tk news' c0, c0 = costOf x1 x2 sc v a b px py → Fr g L h' (fun y => if [Str.ofString "cost", Str.ofString "sub_cost"].contains y then m' y else if y = Str.ofString "pi" then some (.int px tx) else if y = Str.ofString "pj" then some (.int py ty) else if y = Str.ofString "i" then some (.int a t4) else if y = Str.ofString "j" then some (.int b t5) else if y = Str.ofString "direction_costs" then some (.ref DC) else
    if y = Str.ofString "lev" then some (.ref l) else if y = Str.ofString "s1" then some (.str x1 t1) else if y = Str.ofString "s2" then some (.str x2 t2) else if y = Str.ofString "substitution_cost" then some (.int sc t3) else m0 y) → News g L h' news' →
    (DC, listOf (cs ++ [Value.ref T]).toArray (c + 1)) ∈ news' → (∀ p ∈ news, p.1 ≠ DC → p ∈ news') → (T, ({ cls := .type "tuple", data := .seq [Value.int c0 t, Value.ref P].toArray } : Obj)) ∈ news' → (P, ({ cls := .type "tuple", data := .seq [Value.int px u, Value.int py u'].toArray } : Obj)) ∈ news' →
    (∀ p ∈ news, p.1 < T) → (∀ p ∈ news, p.1 < P) → Q .next { s with heap := h', toks := tk }) :
  wpAny (model prog w) (Ar dp un fr gd) (execs btForB (envOf (Str.ofString "_edit_dist_backtrace") btScope L f cd)) Q (fun _ _ => False) s := by
  have e : btScope = fnScope btSt := rfl
  dsimp only [btSt, fnScope, at7, PySem.Challenge.pw_je0021_01] at e
  rw [e]
  clear e
  dsimp only [btForB, m2, whileBody, forBody2, btB, btSt, fnBody, at7, PySem.Challenge.pw_je0021_01]
  k_steps
  all_goals (
    rename_i h9 n9 F9 N9 ha9 hk9 hr9
    rename (∀ p : Addr × Obj, p ∈ news → p.1 < _) => lP
    rename (∀ p : Addr × Obj, p ∈ _ :: news → p.1 < _) => lT
    refine hQ _ _ _ _ _ _ _ _ _ _ ?hc (fr_norm F9 ?hm) N9 ha9 (fun p hp hne => hk9 p (.tail _ (.tail _ hp)) hne) (hk9 _ (.head _) (Nat.ne_of_gt (lT _ (.tail _ hDC)))) (hk9 _ (.tail _ (.head _)) (Nat.ne_of_gt (lP _ hDC))) (fun p hp => lT _ (.tail _ hp)) lP
    case hm =>
      intro y hy
      simp only [List.contains_cons, List.contains_nil, Bool.or_false, Bool.or_eq_false_iff, beq_eq_false_iff_ne, ne_eq] at hy
      simp [hy]
    case hc =>
      unfold costOf
      first
        | rw [if_pos (by omega)]
        | (rw [if_neg (show ¬ (px < 0 ∨ py < 0) by omega), if_pos (show px = (a : Int) - 1 ∧ py = (b : Int) - 1 by omega)])
        | (rw [if_neg (show ¬ (px < 0 ∨ py < 0) by omega), if_neg (show ¬ (px = (a : Int) - 1 ∧ py = (b : Int) - 1) by omega)]))
-- part WLam
set_option maxRecDepth 100000
/-- the table of nested codes: empty, or it has the lambda's code -/
def LamTab (news : List (Addr × Obj)) (P : Addr) (pos : Pos) (qual : Str) : Prop :=
  (P, tabObj #[]) ∈ news ∨ ∃ c' oc vs t, (P, tabObj #[rawInt pos.line, rawInt pos.col, .ref c']) ∈ news ∧ (c', oc) ∈ news ∧ oc.data = .fields vs ∧ vs[1]? = some (.str qual t)
theorem codeAmong_one (pos : Pos) (v : Value) : codeAmong pos (#[rawInt pos.line, rawInt pos.col, v] : Array Value).toList = some v := by simp [codeAmong, rawInt]
section
variable {prog : Program} {w : World} {A : Around} {E : Value → Shared → Prop} {s : Shared} {h₀ : Heap} {L : Addr} {m mg mb : Str → Option Value} {news : List (Addr × Obj)} {p : Program} {loose : List Str} {mean : ExcName → Option Value}
theorem lam_ev {params : Arguments} {body : Expr} {scope : Scope} {pos : Pos} {cn : Str} {cs : Scope} {a c P : Addr} {Q : Value → Shared → Prop} (F : Fr h₀ L s.heap m) (N : News h₀ L s.heap news) (T : Top p loose mean mg mb h₀) (C : CodeHd h₀ c P)
    (LT : LamTab news P pos ((envX cn cs L a (.ref c) []).qual ++ Str.ofString "<lambda>")) (hdef : defaultsOf params (envX cn cs L a (.ref c) []) = ([], [])) (hcl : closureFor scope (envX cn cs L a (.ref c) []) = pure [])
    (h : ∀ f c' oc vs t ctv h' tk news₂, Fr h₀ L h' m → News h₀ L h' ((f, kla_obj (Str.ofString "<lambda>") ((envX cn cs L a (.ref c) []).qual ++ Str.ofString "<lambda>") params body scope [] ((mg "__name__").getD .none) c' ctv) :: (c', oc) :: news₂) →
      oc.data = .fields vs → vs[1]? = some (.str ((envX cn cs L a (.ref c) []).qual ++ Str.ofString "<lambda>") t) → (P, tabObj #[rawInt pos.line, rawInt pos.col, .ref c']) ∈ news₂ → (∀ q ∈ news, q.1 ≠ P → q ∈ news₂) → (∀ q ∈ news, q.1 < f) → Q (.ref f) { s with heap := h', toks := tk }) :
    wpAny (model prog w) A (eval (.Lambda params body scope pos) (envX cn cs L a (.ref c) [])) Q E s := by
  refine kla_eval hdef ?_
  rcases LT with hP | ⟨c', oc, vs, t, hP, hc, hd, hv⟩
  · have N2 : News h₀ L s.heap ((P, tabObj #[]) :: news.filter fun q => q.1 != P) := by
      intro q hq
      rcases List.mem_cons.mp hq with rfl | hq
      · exact N _ hP
      · exact N _ (List.mem_filter.mp hq).1
    refine kla_nest F N2 T C rfl (UpdF.head (fun q hq => by simpa using (List.mem_filter.mp hq).2)) True.intro rfl hcl fun f c' oc vs t ctv h' tk F' N' hd hv l1 l2 => ?_
    refine h f c' oc vs t ctv h' tk _ F' N' hd hv (.head _) (fun q hq hne => .tail _ (List.mem_filter.mpr ⟨hq, by simpa using hne⟩)) (fun q hq => ?_)
    by_cases e : q.1 = P
    · rw [e]; exact Nat.lt_trans (l1 _ (.head _)) l2
    · exact Nat.lt_trans (l1 q (.tail _ (List.mem_filter.mpr ⟨hq, by simpa using e⟩))) l2
  · refine kla_hit F N T C rfl hP True.intro (codeAmong_one pos (.ref c')) hcl fun f ctv h' tk F' N' l1 => ?_
    refine h f c' oc vs t ctv h' tk news F' ?_ hd hv hP (fun q hq _ => hq) l1
    intro q hq
    rcases List.mem_cons.mp hq with rfl | hq
    · exact N' _ (.head _)
    · rcases List.mem_cons.mp hq with rfl | hq
      · exact N' _ (.tail _ hc)
      · exact N' _ (.tail _ hq)
end
-- part WWay
/-- the chosen way is prevOf -/
def WayOk (x1 x2 : Str) (sc : Int) (v : Nat → Nat → Int) (a b q : Nat) : Prop :=
  0 ≤ dirX a q ∧ 0 ≤ dirY b q ∧ prevOf x1 x2 sc v a b = ((dirX a q).toNat, (dirY b q).toNat)
theorem way_ok {x1 x2 : Str} {sc : Int} {v : Nat → Nat → Int} {a b n1 n2 : Nat} (ha : a ≤ n1) (hb : b ≤ n2) (h0 : a ≠ 0 ∨ b ≠ 0) (hv : ∀ a b, a ≤ n1 → b ≤ n2 → v a b ≤ 100000) :
    (costOf x1 x2 sc v a b (dirX a 0) (dirY b 0) ≤ costOf x1 x2 sc v a b (dirX a 1) (dirY b 1) → costOf x1 x2 sc v a b (dirX a 0) (dirY b 0) ≤ costOf x1 x2 sc v a b (dirX a 2) (dirY b 2) → WayOk x1 x2 sc v a b 0) ∧
    (costOf x1 x2 sc v a b (dirX a 1) (dirY b 1) < costOf x1 x2 sc v a b (dirX a 0) (dirY b 0) → costOf x1 x2 sc v a b (dirX a 1) (dirY b 1) ≤ costOf x1 x2 sc v a b (dirX a 2) (dirY b 2) → WayOk x1 x2 sc v a b 1) ∧
    (costOf x1 x2 sc v a b (dirX a 2) (dirY b 2) < costOf x1 x2 sc v a b (dirX a 0) (dirY b 0) → costOf x1 x2 sc v a b (dirX a 2) (dirY b 2) < costOf x1 x2 sc v a b (dirX a 1) (dirY b 1) → WayOk x1 x2 sc v a b 2) := by
  have x0 : dirX a 0 = (a : Int) - 1 := by simp [dirX]
  have x1' : dirX a 1 = (a : Int) - 1 := by simp [dirX]
  have x2' : dirX a 2 = (a : Int) := by simp [dirX]
  have y0 : dirY b 0 = (b : Int) - 1 := by simp [dirY]
  have y1 : dirY b 1 = (b : Int) := by simp [dirY]
  have y2 : dirY b 2 = (b : Int) - 1 := by simp [dirY]
  unfold WayOk
  rw [x0, x1', x2', y0, y1, y2]
  have e1 : ((a : Int) - 1).toNat = a - 1 := by lia
  have e2 : ((b : Int) - 1).toNat = b - 1 := by lia
  have e3 : ((a : Int)).toNat = a := by lia
  have e4 : ((b : Int)).toNat = b := by lia
  have v1 := hv (a - 1) (b - 1) (by lia) (by lia)
  have v2 := hv (a - 1) b (by lia) (by lia)
  have v3 := hv a (b - 1) (by lia) (by lia)
  rcases Nat.eq_zero_or_pos a with ra | ra
  · subst ra
    have c0 : costOf x1 x2 sc v 0 b (((0 : Nat) : Int) - 1) ((b : Int) - 1) = 1000000000 := by unfold costOf; rw [if_pos (by lia)]
    have c1 : costOf x1 x2 sc v 0 b (((0 : Nat) : Int) - 1) (b : Int) = 1000000000 := by unfold costOf; rw [if_pos (by lia)]
    have c2 : costOf x1 x2 sc v 0 b ((0 : Nat) : Int) ((b : Int) - 1) = v 0 (b - 1) + 1 := by
      unfold costOf
      rw [if_neg (by lia), if_neg (by lia), e2]; rfl
    rw [c0, c1, c2]
    refine ⟨fun h1 h2 => by lia, fun h1 h2 => by lia, fun h1 h2 => ⟨by lia, by lia, ?_⟩⟩
    rw [e2]
    unfold prevOf
    rw [if_pos rfl]; rfl
  · rcases Nat.eq_zero_or_pos b with rb | rb
    · subst rb
      have c0 : costOf x1 x2 sc v a 0 ((a : Int) - 1) (((0 : Nat) : Int) - 1) = 1000000000 := by unfold costOf; rw [if_pos (by lia)]
      have c1 : costOf x1 x2 sc v a 0 ((a : Int) - 1) ((0 : Nat) : Int) = v (a - 1) 0 + 1 := by
        unfold costOf
        rw [if_neg (by lia), if_neg (by lia), e1]; rfl
      have c2 : costOf x1 x2 sc v a 0 (a : Int) (((0 : Nat) : Int) - 1) = 1000000000 := by unfold costOf; rw [if_pos (by lia)]
      rw [c0, c1, c2]
      refine ⟨fun h1 h2 => by lia, fun h1 h2 => ⟨by lia, by lia, ?_⟩, fun h1 h2 => by lia⟩
      rw [e1]
      unfold prevOf
      rw [if_neg (by lia), if_pos rfl]; rfl
    · have c0 : costOf x1 x2 sc v a b ((a : Int) - 1) ((b : Int) - 1) = stepD x1 x2 sc v a b := by
        unfold costOf stepD
        rw [if_neg (by lia), if_pos (by lia), e1, e2]
      have c1 : costOf x1 x2 sc v a b ((a : Int) - 1) (b : Int) = v (a - 1) b + 1 := by
        unfold costOf
        rw [if_neg (by lia), if_neg (by lia), e1]; rfl
      have c2 : costOf x1 x2 sc v a b (a : Int) ((b : Int) - 1) = v a (b - 1) + 1 := by
        unfold costOf
        rw [if_neg (by lia), if_neg (by lia), e2]; rfl
      rw [c0, c1, c2]
      have ep : prevOf x1 x2 sc v a b = if stepD x1 x2 sc v a b ≤ v (a - 1) b + 1 ∧ stepD x1 x2 sc v a b ≤ v a (b - 1) + 1 then (a - 1, b - 1)
          else if v (a - 1) b + 1 ≤ v a (b - 1) + 1 then (a - 1, b) else (a, b - 1) := by
        unfold prevOf
        rw [if_neg (by lia), if_neg (by lia)]
      rw [ep, e1, e2, e3, e4]
      refine ⟨fun h1 h2 => ⟨by lia, by lia, ?_⟩, fun h1 h2 => ⟨by lia, by lia, ?_⟩, fun h1 h2 => ⟨by lia, by lia, ?_⟩⟩
      · rw [if_pos ⟨h1, h2⟩]
      · rw [if_neg (by lia), if_pos h2]
      · rw [if_neg (by lia), if_neg (by lia)]
-- part WBack
end
section
local macro_rules | `(tactic| k_data) => `(tactic| with_reducible first | refine g_lam ?_ | refine g_min ?_ | refine g_if ?_)
def Hid (p : Prop) : Prop := p
theorem tab_ne {g h : Heap} {L P : Addr} {l : List (Addr × Obj)} {ps : Array Value} (N : News g L h l) (hP : (P, tabObj ps) ∈ l) {p : Addr × Obj} (hp : p ∈ l) (hb : plainB p.2 = true) : p.1 ≠ P := by
  obtain ⟨a, o⟩ := p
  intro e
  have e' : a = P := e
  subst e'
  have e2 : o = tabObj ps := News.same N hp hP
  rw [e2] at hb
  have e3 : plainB (tabObj ps) = false := rfl
  rw [show plainB ((a, tabObj ps) : Addr × Obj).2 = plainB (tabObj ps) from rfl, e3] at hb
  cases hb
theorem LamTab.tab {l : List (Addr × Obj)} {P : Addr} {pos : Pos} {q : Str} (h : LamTab l P pos q) : ∃ ps, (P, tabObj ps) ∈ l := by
  rcases h with h | ⟨c, _, _, _, h, _⟩
  · exact ⟨_, h⟩
  · exact ⟨_, h⟩
theorem TupsAre.push {news news' : List (Addr × Obj)} {its : List Value} {pts : List (Nat × Nat)} {a b : Nat} {NT : Addr} {t t' : Tok} {px py : Int} (h : TupsAre news its pts) (hk : ∀ p ∈ news, p.2.cls = .type "tuple" → p ∈ news') (ex : px = (a : Int)) (ey : py = (b : Int))
    (hm : (NT, ({ cls := .type "tuple", data := .seq [Value.int px t, Value.int py t'].toArray } : Obj)) ∈ news') : TupsAre news' (its ++ [.ref NT]) (pts ++ [(a, b)]) := by
  subst ex ey
  refine ⟨by simp [h.1], fun k p hp => ?_⟩
  rcases Nat.lt_or_ge k pts.length with hl | hl
  · rw [List.getElem?_append_left hl] at hp
    obtain ⟨x, u, u', e1, e2⟩ := h.2 k p hp
    exact ⟨x, u, u', by rw [List.getElem?_append_left (by rw [h.1]; exact hl)]; exact e1, hk _ e2 rfl⟩
  · have hk1 := (List.getElem?_eq_some_iff.mp hp).1
    have e : k = pts.length := by simp at hk1; omega
    subst e
    simp at hp
    subst hp
    exact ⟨NT, t, t', by rw [← h.1]; simp, hm⟩
theorem BackPath.push {x1 x2 : Str} {sc : Int} {v : Nat → Nat → Int} {n1 n2 a b : Nat} {q : Nat × Nat} {pts : List (Nat × Nat)} (h : BackPath x1 x2 sc v n1 n2 pts) (hl : pts[pts.length - 1]? = some (a, b)) (h0 : a ≠ 0 ∨ b ≠ 0) (hq : q = prevOf x1 x2 sc v a b) : BackPath x1 x2 sc v n1 n2 (pts ++ [q]) := by
  have hlen : 0 < pts.length := by
    have := (List.getElem?_eq_some_iff.mp hl).1
    omega
  refine ⟨by rw [List.getElem?_append_left hlen]; exact h.1, fun k p r hp hr => ?_⟩
  have hk1 := (List.getElem?_eq_some_iff.mp hr).1
  simp only [List.length_append, List.length_cons, List.length_nil] at hk1
  rw [List.getElem?_append_left (by omega)] at hp
  rcases Nat.lt_or_ge (k + 1) pts.length with h1 | h1
  · rw [List.getElem?_append_left h1] at hr
    exact h.2 k p r hp hr
  · have e : k + 1 = pts.length := by omega
    have e2 : k = pts.length - 1 := by omega
    rw [e] at hr
    simp at hr
    rw [e2, hl] at hp
    cases hp
    subst hr
    exact ⟨h0, hq⟩
theorem fields_ne {g h : Heap} {L a b : Addr} {l : List (Addr × Obj)} {o : Obj} {xs : Array Value} {c : Nat} {vs : Array Value} (N : News g L h l) (h1 : (a, o) ∈ l) (h2 : (b, listOf xs c) ∈ l) (hd : o.data = .fields vs) : a ≠ b := by
  intro e
  subst e
  have e2 : o = listOf xs c := News.same N h1 h2
  rw [e2] at hd
  cases hd
theorem tup_ne {g h : Heap} {L b : Addr} {l : List (Addr × Obj)} {xs : Array Value} {c : Nat} (N : News g L h l) {p : Addr × Obj} (h1 : p ∈ l) (h2 : (b, listOf xs c) ∈ l) (hd : p.2.cls = .type "tuple") : p.1 ≠ b := by
  obtain ⟨a, o⟩ := p
  intro e
  have e' : a = b := e
  subst e'
  have e2 : o = listOf xs c := News.same N h1 h2
  rw [e2] at hd
  injection hd with h3
  exact absurd h3 (by decide)
theorem way_lt {a b q : Nat} (hq : q < 3) (hx : 0 ≤ dirX a q) (hy : 0 ≤ dirY b q) : ∃ a' b' : Nat, dirX a q = a' ∧ dirY b q = b' ∧ a' ≤ a ∧ b' ≤ b ∧ a' + b' < a + b := by
  refine ⟨(dirX a q).toNat, (dirY b q).toNat, by omega, by omega, ?_, ?_, ?_⟩
  all_goals
    revert hx hy
    unfold dirX dirY
    split <;> split <;> omega
set_option maxRecDepth 100000 in
set_option maxHeartbeats 8000000 in
theorem bt_ok {prog : Program} {w : World} {dp un : Nat} {gd : Option (List Code)} {g : Heap} {L f c9 P9 : Addr} {s : Shared} {news : List (Addr × Obj)} {K : Frag} {Q : Flow → Shared → Prop}
  {p : Program} {loose : List Str} {mean : ExcName → Option Value} {mg mb : Str → Option Value} {A₀ : Around} {base : Heap} {outer : List Env}
  {x1 x2 : Str} {t1 t2 t3 : Tok} {sc : Int} {l : Addr} {rs : List Addr} {v : Nat → Nat → Int}
  (X : K.In g) (T_ : Top p loose mean mg mb g) (B : Below A₀ base outer g) (N : News g L s.heap news)
  (F : Fr g L s.heap (fun y => List.lookup y (List.reverse [(Str.ofString "lev", Value.ref l), (Str.ofString "s1", Value.str x1 t1), (Str.ofString "s2", Value.str x2 t2), (Str.ofString "substitution_cost", Value.int sc t3)])))
  (hlen : nsIn K mainGlobals (Str.ofString "len") = some none) (hmin : nsIn K mainGlobals (Str.ofString "min") = some none) (hlist : nsIn K mainGlobals (Str.ofString "list") = some none) (hrev : nsIn K mainGlobals (Str.ofString "reversed") = some none)
  (hx1 : x1.length ≤ 10) (hx2 : x2.length ≤ 10) (hd : dp ≤ 490) (hu : un ≤ 90) (M : MatIn news l rs (x1.length + 1) (x2.length + 1) v) (C : Hid (CodeHd g c9 P9)) (hP9 : (P9, tabObj #[]) ∈ news) (hvb : ∀ a b, a ≤ x1.length → b ≤ x2.length → v a b ≤ 100000)
  (hQ : ∀ R its pts c h' tk m' news', Fr g L h' m' → News g L h' news' → (∀ p ∈ news, p.1 ≠ P9 → p ∈ news') → (R, listOf its.reverse.toArray c) ∈ news' → TupsAre news' its pts → BackPath x1 x2 sc v x1.length x2.length pts → pts[pts.length - 1]? = some (0, 0) → its.length ≤ 30 → (∃ ps, (P9, tabObj ps) ∈ news') → Q (.ret (.ref R)) { s with heap := h', toks := tk }) :
  wpAny (model prog w) ((Ar dp un (some outer) gd).deeper (envOf (Str.ofString "_edit_dist_backtrace") btScope L f (.ref c9))) (execs btB (envOf (Str.ofString "_edit_dist_backtrace") btScope L f (.ref c9))) Q (fun _ _ => False) s := by
  have e : btScope = fnScope btSt := rfl
  dsimp only [btSt, fnScope, at7, PySem.Challenge.pw_je0021_01] at e
  rw [e]
  clear e
  dsimp only [btB, btSt, fnBody, at7, PySem.Challenge.pw_je0021_01]
  obtain ⟨c0, hc0⟩ := M.top
  have hlP : l ≠ P9 := tab_ne N hP9 hc0 rfl
  have hrP : ∀ r ∈ rs, r ≠ P9 := by
    intro r hr
    obtain ⟨ix, hix⟩ := List.mem_iff_getElem?.mp hr
    obtain ⟨vs, c, hm, _⟩ := M.row ix r hix
    exact tab_ne N hP9 hm rfl
  have hrl : (rs.map Value.ref).toArray.size = x1.length + 1 := by simp [M.len]
  k_steps
  rename Fr _ _ _ _ => F5
  rename News _ _ _ _ => N5
  rename ∀ p : Addr × Obj, p ∈ _ → p.1 ≠ _ => l3
  rename_i D _ _ _ _ _
  have hDn : ∀ p ∈ news, p.1 ≠ D := fun p hp => l3 p (by k_mem)
  rw [show (((x1.length + 1 : Nat) : Int) - 1) = (x1.length : Int) from by omega, show (((x2.length + 1 : Nat) : Int) - 1) = (x2.length : Int) from by omega] at F5 N5
  refine whileS (L := L) [Str.ofString "i", Str.ofString "j", Str.ofString "directions", Str.ofString "direction_costs", Str.ofString "pi", Str.ofString "pj", Str.ofString "cost", Str.ofString "sub_cost"] (x1.length + x2.length)
    (fun n u news₁ => ∃ (a b : Nat) (ta tb : Tok) (its : List Value) (pts : List (Nat × Nat)) (c : Nat), n = a + b ∧ u (Str.ofString "i") = some (.int a ta) ∧ u (Str.ofString "j") = some (.int b tb) ∧ a ≤ x1.length ∧ b ≤ x2.length ∧ (D, listOf its.toArray c) ∈ news₁ ∧ TupsAre news₁ its pts ∧
      BackPath x1 x2 sc v x1.length x2.length pts ∧ pts[pts.length - 1]? = some (a, b) ∧ pts.length + (a + b) ≤ x1.length + x2.length + 1 ∧ (∀ p ∈ news, p.1 ≠ P9 → p ∈ news₁) ∧ LamTab news₁ P9 ⟨60, 40, 60, 58⟩ ((envX (Str.ofString "_edit_dist_backtrace") btScope L f (.ref c9) []).qual ++ Str.ofString "<lambda>")) F5 N5 ?_ ?_
  · refine exi_7_12 x1.length x2.length _ _ [_] [(x1.length, x2.length)] 0 rfl rfl rfl (Nat.le_refl _) (Nat.le_refl _) (.head _) ⟨rfl, ?_⟩ ⟨rfl, ?_⟩ rfl (by simp; omega) (fun p hp _ => by k_mem) (.inl (by k_mem))
    · intro k p hp
      rcases k with _ | k
      · cases hp
        exact ⟨_, _, _, rfl, by k_mem⟩
      · simp at hp
    · intro k p q hp hq
      simp at hq
  · intro n u news₁ h₁ tk₁ hJz F6 N6
    try k_fold
    refine exe_7_12 hJz ?_
    clear hJz
    intro a b ta tb its pts c hn hua hub hla hlb hDm hT hBP hlast hsz hsub hLT
    clear F5 N5
    try k_fold
    replace F6 := fr_known0 (Str.ofString "i") (fr_known0 (Str.ofString "j") F6 (w := some (.int b tb)) (by simp [hub])) (w := some (.int a ta)) (by simp [hua, show ¬ (Str.ofString "i" = Str.ofString "j") from by decide])
    have M1 : MatIn news₁ l rs (x1.length + 1) (x2.length + 1) v := M.mono (fun p hp e => hsub p hp (e.elim (fun e => e ▸ hlP) (fun e => hrP _ e)))
    have hszi : its.length ≤ sizeLine := by
      have := hT.1
      exact Nat.le_trans (m := 1000) (by omega) (by decide)
    have hszj : its.length ≤ 30 := by
      have := hT.1
      omega
    k_steps
    · rename (_ == _ && _ == _) = true => hz
      rename Fr _ _ _ _ => F7
      rename News _ _ _ _ => N7
      refine krv_reversed F7 N7 (News.isList N7 (by k_mem)) ?_
      intro I hI FI NI lI
      k_steps
      refine rev_list rfl FI NI lI (by k_mem) hszi ?_
      intro R cR hR tkR FR NR lR
      k_steps
      have ha : a = 0 ∧ b = 0 := by
        simp only [Bool.and_eq_true, beq_iff_eq] at hz
        omega
      obtain ⟨rfl, rfl⟩ := ha
      exact hQ R its pts cR _ _ _ _ FR NR (fun p hp hne => .tail _ (.tail _ (.tail _ (hsub p hp hne)))) (.head _) ⟨hT.1, fun k p hp => let ⟨a, t, t', h1, h2⟩ := hT.2 k p hp; ⟨a, t, t', h1, .tail _ (.tail _ (.tail _ h2))⟩⟩ hBP hlast hszj (let ⟨ps, h⟩ := hLT.tab; ⟨ps, .tail _ (.tail _ (.tail _ h))⟩)
    · rename (_ == _ && _ == _) = false => hz
      rename Fr _ _ _ _ => F7
      rename News _ _ _ _ => N7
      rename ∀ p : Addr × Obj, p ∈ _ → p.1 ≠ _ => l5
      refine listT2 (L := L) [Str.ofString "pi", Str.ofString "pj", Str.ofString "cost", Str.ofString "sub_cost"]
        (fun DC k u mine => ∃ (cs : List Value) (c : Nat), (DC, listOf cs.toArray c) ∈ mine ∧ cs.length = k ∧ CS (fun q => costOf x1 x2 sc v a b (dirX a q) (dirY b q)) (dirX a) (dirY b) mine cs)
        rfl rfl F7 N7 (.head _) ?_ ?_ ?_
      · exact exi_2_3 [] 0 (mem_mineOf (.head _) rfl l5) rfl (fun q hq => by simp at hq)
      · intro q vq uq mine hh tkq own hv hJz hml hown F8 N8
        try k_fold
        refine exe_2_3 hJz ?_
        clear hJz
        intro cs cc hDC hcl hCS
        clear F7 N7
        try k_fold
        have hcs3 : q < 3 := by
          have := (List.getElem?_eq_some_iff.mp hv).1
          simpa using this
        have hT5 : ∃ T px py tx ty, vq = Value.ref T ∧ IsTup hh T #[Value.int px tx, Value.int py ty] ∧ px = dirX a q ∧ py = dirY b q := by
          rcases q with _ | _ | _ | q
          · cases hv
            exact ⟨_, (a : Int) - 1, (b : Int) - 1, _, _, rfl, News.isTup N8 (by k_mem), by simp [dirX], by simp [dirY]⟩
          · cases hv
            exact ⟨_, (a : Int) - 1, (b : Int), _, _, rfl, News.isTup N8 (by k_mem), by simp [dirX], by simp [dirY]⟩
          · cases hv
            exact ⟨_, (a : Int), (b : Int) - 1, _, _, rfl, News.isTup N8 (by k_mem), by simp [dirX], by simp [dirY]⟩
          · omega
        refine exe_5_4 hT5 ?_
        clear hT5
        intro T px py tx ty eT hTi hpx hpy
        subst eT
        have hbx : px ≤ a := by rw [hpx]; unfold dirX; split <;> omega
        have hby : py ≤ b := by rw [hpy]; unfold dirY; split <;> omega
        have hszc : cs.length ≤ sizeLine := Nat.le_trans (m := 1000) (by omega) (by decide)
        clear hv
        k_steps
        rename Fr _ _ _ _ => F9
        rename News _ _ _ _ => N9
        refine btT_ok X T_ N9 (fr_known0 (Str.ofString "pi") (fr_known0 (Str.ofString "pj") (fr_known0 (Str.ofString "i") (fr_known0 (Str.ofString "j") (fr_known0 (Str.ofString "direction_costs") (fr_known0 (Str.ofString "lev") (fr_known0 (Str.ofString "s1") (fr_known0 (Str.ofString "s2") (fr_known0 (Str.ofString "substitution_cost") F9 rfl) rfl) rfl) rfl) rfl) rfl) rfl) rfl) rfl)
          hx1 hx2 (show dp + 1 ≤ 500 by omega) (show un + 3 ≤ 100 by omega) (M1.mono (fun p hp _ => by k_mem)) hla hlb hbx hby (List.mem_append_right _ (List.mem_append_left _ hDC)) hszc ?_
        intro T' P' t' u' u'' m' h' tk' news' c0 hc F10 N10 ha hk hT' hP' lT lP
        refine post_next F10 N10 (fun p hp => hk p (List.mem_append_left _ hp) (hown p hp _ hDC)) (fun p hp => hk p (List.mem_append_right _ (List.mem_append_right _ hp)) ((hml _ hDC).1 p hp)) ?_ ?_
        · intro y hy
          repeat' first | exact rfl | refine skip1 (ne_in hy (by rfl)) ?_ | refine skipS hy (by rfl) ?_ | refine keep2 (fun e => by subst e; rfl) ?_
        · have kp := fun p (hp : p ∈ _) => lT p (List.mem_append_right _ (List.mem_append_right _ hp))
          have kp2 := fun p (hp : p ∈ _) => lP p (List.mem_append_right _ (List.mem_append_right _ hp))
          refine exi_2_3 _ _ (mem_mineOf ha rfl (hml _ hDC).1) (by simp [hcl]) (hCS.push hcl (fun p hp ht => ?_) (hc.trans (by rw [hpx, hpy])) hpx hpy (mem_mineOf hT' rfl (fun q hq => Nat.ne_of_lt (kp q hq))) (mem_mineOf hP' rfl (fun q hq => Nat.ne_of_lt (kp2 q hq))))
          refine mem_mineOf (hk p (List.mem_append_right _ (List.mem_append_left _ hp)) ?_) (hml p hp).2 (hml p hp).1
          intro e
          obtain ⟨pa, po⟩ := p
          subst e
          have := News.same N9 (List.mem_append_right _ (List.mem_append_left _ hp)) (List.mem_append_right _ (List.mem_append_left _ hDC))
          rw [show po = _ from this] at ht
          injection ht with h2
          exact absurd h2 (by decide)
      · intro uq mine hh tkq hJz hml F8 N8
        try k_fold
        refine exe_2_3 hJz ?_
        clear hJz
        intro cs cc hDC hcl hCS
        clear F7 N7
        try k_fold
        have hcl3 : cs.length = 3 := hcl
        refine exe_5_3 (hCS 0 (by omega)) ?_
        intro T0 P0 q0 q0' q0'' e0 m0 n0
        refine exe_5_3 (hCS 1 (by omega)) ?_
        intro T1 P1 q1 q1' q1'' e1 m1 n1
        refine exe_5_3 (hCS 2 (by omega)) ?_
        intro T2 P2 q2 q2' q2'' e2 m2 n2
        have hcs : cs = [.ref T0, .ref T1, .ref T2] := by
          rcases cs with _ | ⟨c0, _ | ⟨c1, _ | ⟨c2, _ | ⟨c3, cs⟩⟩⟩⟩ <;> simp at hcl3 e0 e1 e2
          rw [e0, e1, e2]
        subst hcs
        k_steps
        rename Fr _ _ _ _ => F9
        rename News _ _ _ _ => N9
        refine Exists.elim hLT.tab ?_
        intro ps9 hps9
        refine lam_ev F9 N9 T_ C ?_ rfl rfl ?_
        · rcases hLT with h | ⟨c', oc, vs, t, h, h2, h3, h4⟩
          · exact .inl (by k_mem)
          · exact .inr ⟨c', oc, vs, t, by k_mem, by k_mem, h3, h4⟩
        intro fL cL oL vsL tL ctL hL tkL newsL FL NL hvs hv1 hPL hkL lL
        have kin : ∀ p ∈ mine, p ∈ newsL := fun p hp => hkL p (List.mem_append_left _ hp) (tab_ne N9 (by k_mem) (List.mem_append_left _ hp) (hml p hp).2)
        have m0' := kin _ m0
        have m1' := kin _ m1
        have m2' := kin _ m2
        have n0' := kin _ n0
        have n1' := kin _ n1
        have n2' := kin _ n2
        have hDC' := kin _ hDC
        k_steps
        rename Fr _ _ _ _ => FM
        rename News _ _ _ _ => NM
        dsimp only at m0' m1' m2' m0 m1 m2
        have way := way_ok (x1 := x1) (x2 := x2) (sc := sc) (v := v) (a := a) (b := b) hla hlb (by
          simp only [Bool.and_eq_false_iff, beq_eq_false_iff_ne, ne_eq] at hz
          omega) hvb
        with_unfolding_all refine kmk_min_three (costOf x1 x2 sc v a b (dirX a 0) (dirY b 0)) (costOf x1 x2 sc v a b (dirX a 1) (dirY b 1)) (costOf x1 x2 sc v a b (dirX a 2) (dirY b 2)) (by rfl) FM NM (fun h F' N' => News.isList N' (by k_mem)) ?t1 ?t2 ?t3 ?d1 ?d2 ?d3
        case t1 =>
          intro h tk own F' N'
          refine wpAny_call (kla_code B F' X N' T_ rfl rfl rfl (List.mem_append_left _ (.head _)) ⟨cL, oL, vsL, tL, rfl, (N' _ (List.mem_append_left _ (.tail _ (.head _)))).1, hvs, hv1⟩ ?_ rfl (locs rfl) ?_ rfl rfl rfl (by decide))
          · show dp + 1 < _
            have : recursionLimit = 1000 := rfl
            omega
          intro g' L' h' FG' F2 N2 B2 X2 T2
          clear F' N' FM NM
          k_steps
        case t2 =>
          intro h tk own F' N'
          refine wpAny_call (kla_code B F' X N' T_ rfl rfl rfl (List.mem_append_left _ (.head _)) ⟨cL, oL, vsL, tL, rfl, (N' _ (List.mem_append_left _ (.tail _ (.head _)))).1, hvs, hv1⟩ ?_ rfl (locs rfl) ?_ rfl rfl rfl (by decide))
          · show dp + 1 < _
            have : recursionLimit = 1000 := rfl
            omega
          intro g' L' h' FG' F2 N2 B2 X2 T2
          clear F' N' FM NM
          k_steps
        case t3 =>
          intro h tk own F' N'
          refine wpAny_call (kla_code B F' X N' T_ rfl rfl rfl (List.mem_append_left _ (.head _)) ⟨cL, oL, vsL, tL, rfl, (N' _ (List.mem_append_left _ (.tail _ (.head _)))).1, hvs, hv1⟩ ?_ rfl (locs rfl) ?_ rfl rfl rfl (by decide))
          · show dp + 1 < _
            have : recursionLimit = 1000 := rfl
            omega
          intro g' L' h' FG' F2 N2 B2 X2 T2
          clear F' N' FM NM
          k_steps
        all_goals (
          intro r1 r2 hD tkD FD ND
          clear FM NM
          have hDm' : (D, listOf its.toArray c) ∈ newsL := hkL _ (List.mem_append_right _ (.tail _ (.tail _ (.tail _ (.tail _ (.tail _ (.tail _ hDm))))))) (tab_ne N9 (by k_mem) (List.mem_append_right _ (.tail _ (.tail _ (.tail _ (.tail _ (.tail _ (.tail _ hDm))))))) rfl)
          have old9 : ∀ p ∈ news₁, p.2.cls = .type "tuple" → p.1 ≠ P9 ∧ p.1 ≠ D := fun p hp ht =>
            ⟨tab_ne N9 (by k_mem) (List.mem_append_right _ (.tail _ (.tail _ (.tail _ (.tail _ (.tail _ (.tail _ hp))))))) (by unfold plainB; rw [ht]; rfl),
            tup_ne N9 (List.mem_append_right _ (.tail _ (.tail _ (.tail _ (.tail _ (.tail _ (.tail _ hp))))))) (List.mem_append_right _ (.tail _ (.tail _ (.tail _ (.tail _ (.tail _ (.tail _ hDm))))))) ht⟩
          have hcD : cL ≠ D := fields_ne ND (List.Mem.tail _ (List.Mem.head _)) (List.Mem.tail _ (List.Mem.tail _ hDm')) hvs
          k_steps
          rename ∀ p : Addr × Obj, p ∈ _ → p.1 < _ => lNT
          rename_i hF nF FF NF haF hkF hrF
          have hDlt := lNT _ (.tail _ (.tail _ hDm'))
          have old : ∀ p ∈ news₁, p.1 ≠ P9 → p.1 ≠ D → p ∈ nF := fun p hp h1 h2 => hkF p (.tail _ (.tail _ (.tail _ (hkL p (List.mem_append_right _ (.tail _ (.tail _ (.tail _ (.tail _ (.tail _ (.tail _ hp))))))) h1)))) h2
          have oldT : ∀ p ∈ news₁, p.2.cls = .type "tuple" → p ∈ nF := fun p hp ht => old p hp (old9 p hp ht).1 (old9 p hp ht).2
          have fin : ∀ q, q < 3 → WayOk x1 x2 sc v a b q → ∃ a' b' : Nat, dirX a q = a' ∧ dirY b q = b' ∧ a' ≤ a ∧ b' ≤ b ∧ a' + b' < a + b ∧ (a', b') = prevOf x1 x2 sc v a b := by
            intro q hq ⟨wx, wy, wp⟩
            obtain ⟨a', b', ex, ey, la, lb, lab⟩ := way_lt hq wx wy
            exact ⟨a', b', ex, ey, la, lb, lab, by rw [wp, ex, ey]; simp⟩
          refine exe_2_6 (by first | exact fin 0 (by omega) (way.1 r1 r2) | exact fin 1 (by omega) (way.2.1 r1 r2) | exact fin 2 (by omega) (way.2.2 r1 r2) : ∃ a' b' : Nat, _) ?_
          intro a' b' ex ey la lb lab hpv
          have h0 : a ≠ 0 ∨ b ≠ 0 := by omega
          rw [ex, ey] at FF
          refine while_next (n' := a' + b') FF NF (by omega) ?_ (exi_7_12 a' b' _ _ (its ++ [_]) (pts ++ [(a', b')]) (c + 1) rfl rfl rfl (by omega) (by omega) haF (TupsAre.push hT oldT ex ey (hkF _ (.head _) (Nat.ne_of_gt hDlt))) (hBP.push hlast h0 hpv) (by simp) (by simp; omega)
            (fun p hp hne => old p (hsub p hp hne) hne (hDn p hp)) (.inr ⟨cL, oL, vsL, tL, hkF _ (.tail _ (.tail _ (.tail _ hPL))) (show P9 ≠ D from hDn _ hP9), hkF _ (.tail _ (.tail _ (.head _))) hcD, hvs, hv1⟩))
          · intro y hy
            repeat' first | exact rfl | refine skip1 (ne_in hy (by rfl)) ?_ | refine skipS hy (by rfl) ?_ | refine keep2 (fun e => by subst e; rfl) ?_)
-- part WAlign
end
end

def alSt : Stmt := at8 PySem.Challenge.pw_je0021_01.main.body
def alB : List Stmt := fnBody alSt
def alScope : Scope := fnScope alSt
structure FnAtC (K : Frag) (nm : Str) (st : Stmt) (dV : Value) (f c : Addr) : Prop where
  name : nsIn K mainGlobals nm = some (some (.ref f))
  keep : keepIn K (.ref f) = true
  obj : ∃ ps oc od kV doc pm an ct osl, fnParams st = some ps ∧ K.lookup f = some ⟨oc, od, .func (fnOf nm nm ps (fnBody st) (fnScope st) dV kV doc pm an (.ref c) ct), osl⟩ ∧ codeIn K (.ref c) nm = true
theorem fnAtC_take {K : Frag} {nm : Str} {st : Stmt} {dV : Value} {f c : Addr} (H : FnAtC K nm st dV f c) {ps : Arguments} (e : fnParams st = some ps) {P : Prop}
    (k : nsIn K mainGlobals nm = some (some (.ref f)) → keepIn K (.ref f) = true → ∀ oc od kV doc pm an ct osl, K.lookup f = some ⟨oc, od, .func (fnOf nm nm ps (fnBody st) (fnScope st) dV kV doc pm an (.ref c) ct), osl⟩ → codeIn K (.ref c) nm = true → P) : P := by
  obtain ⟨h1, h2, ps', oc, od, kV, doc, pm, an, ct, osl, hp, ho, hc⟩ := H
  rw [e] at hp
  cases hp
  exact k h1 h2 oc od kV doc pm an ct osl ho hc
theorem IsLast.ex (P : Nat → Prop) : ∀ n, ∃ r, IsLast P n r
  | 0 => ⟨0, .start P (by omega)⟩
  | 1 => ⟨0, .start P (by omega)⟩
  | n + 2 => by
    by_cases h : P (n + 1)
    · exact ⟨n + 1, .hit (by omega) h⟩
    · obtain ⟨r, hr⟩ := IsLast.ex P (n + 1)
      exact ⟨r, .miss hr h⟩
theorem stepVal_false {x1 x2 : Str} {sc : Int} {u : Nat → Nat → Int} {i j a b c d : Int} : stepVal x1 x2 sc false u i j a b = stepVal x1 x2 sc false u i j c d := by
  unfold stepVal
  simp

set_option maxRecDepth 100000 in
set_option maxHeartbeats 8000000 in
theorem al_ok {prog : Program} {w : World} {dp un : Nat} {A₀ : Around} {base : Heap} {outer : List Env} {gd : Option (List Code)} {g : Heap} {L f c9 P9 : Addr} {cd : Value} {s : Shared} {news : List (Addr × Obj)} {K : Frag} {Q : Flow → Shared → Prop}
  {p : Program} {loose : List Str} {mean : ExcName → Option Value} {mg mb : Str → Option Value}
  {x1 x2 : Str} {t1 t2 t3 t4 : Tok} {sc : Int} {fC fI fS fB aD aB : Addr} {dS dB : Value} {oD oB : Obj} {tD tB : Tok} {nD nB : Nat}
  (X : K.In g) (T : Top p loose mean mg mb g) (B : Below A₀ base outer g) (N : News g L s.heap news)
  (F : Fr g L s.heap (fun y => List.lookup y (List.reverse [(Str.ofString "s1", Value.str x1 t1), (Str.ofString "s2", Value.str x2 t2), (Str.ofString "substitution_cost", Value.int sc t3)])))
  (hlen : nsIn K mainGlobals (Str.ofString "len") = some none) (hrange : nsIn K mainGlobals (Str.ofString "range") = some none) (hmax : nsIn K mainGlobals (Str.ofString "max") = some none) (hM : nsIn K mainGlobals (Str.ofString "MAX_DISTANCE_INPUT_LEN") = some (some (.int 2000 t4)))
  (hmin : nsIn K mainGlobals (Str.ofString "min") = some none) (hlist : nsIn K mainGlobals (Str.ofString "list") = some none) (hrev : nsIn K mainGlobals (Str.ofString "reversed") = some none)
  (HC : FnAt K (Str.ofString "_check_distance_input_len") chkSt .none fC) (HI : FnAt K (Str.ofString "_edit_dist_init") initSt .none fI)
  (HS : FnAt K (Str.ofString "_edit_dist_step") stepSt dS fS) (HB : FnAtC K (Str.ofString "_edit_dist_backtrace") btSt dB fB c9)
  (hdS : dS = .ref aD) (hdO : K.lookup aD = some oD) (hdQ : oD.data = .seq #[.int 1 tD, .bool false] nD) (hdB : dB = .ref aB) (hbO : K.lookup aB = some oB) (hbQ : oB.data = .seq #[.int 1 tB] nB)
  (C : Hid (CodeHd g c9 P9)) (hP9 : (P9, tabObj #[]) ∈ news) (hb : ∀ u : Nat → Nat → Int, Bord u (x1.length + 1) (x2.length + 1) → (∀ a b, 1 ≤ a → a ≤ x1.length → 1 ≤ b → b ≤ x2.length → CellEq x1 x2 sc false u a b) → ∀ a b, a ≤ x1.length → b ≤ x2.length → u a b ≤ 100000)
  (hx1 : x1.length ≤ 10) (hx2 : x2.length ≤ 10) (hd : dp ≤ 480) (hu : un ≤ 80)
  (hQ : ∀ R its pts c u h' tk m' news', Fr g L h' m' → News g L h' news' → (∀ p ∈ news, p.1 ≠ P9 → p ∈ news') → (R, listOf its.reverse.toArray c) ∈ news' → TupsAre news' its pts → Bord u (x1.length + 1) (x2.length + 1) → (∀ a b, 1 ≤ a → a ≤ x1.length → 1 ≤ b → b ≤ x2.length → CellEq x1 x2 sc false u a b) →
    BackPath x1 x2 sc u x1.length x2.length pts → pts[pts.length - 1]? = some (0, 0) → its.length ≤ 30 → (∃ ps, (P9, tabObj ps) ∈ news') → Q (.ret (.ref R)) { s with heap := h', toks := tk }) :
  wpAny (model prog w) ((Ar dp un (some outer) gd).deeper (envOf (Str.ofString "edit_distance_align") alScope L f cd)) (execs alB (envOf (Str.ofString "edit_distance_align") alScope L f cd)) Q (fun _ _ => False) s := by
  have e : alScope = fnScope alSt := rfl
  dsimp only [alSt, fnScope, at8, PySem.Challenge.pw_je0021_01] at e
  rw [e]
  clear e
  dsimp only [alB, alSt, fnBody, at8, PySem.Challenge.pw_je0021_01]
  subst hdS hdB
  refine fnAt_take HC rfl ?_
  clear HC
  intro hCn hCk ocC odC kVC docC pmC anC cdC ctC oslC hoC hcC
  refine fnAt_take HI rfl ?_
  clear HI
  intro hIn hIk ocI odI kVI docI pmI anI cdI ctI oslI hoI hcI
  refine fnAtC_take HB rfl ?_
  clear HB
  intro hBn hBk ocB odB kVB docB pmB anB ctB oslB hoB hcB
  refine fnAt_take HS rfl ?_
  clear HS
  intro hSn hSk ocS odS kVS docS pmS anS cdS ctS oslS hoS hcS
  k_steps
  refine call_fn (fun _ news' => ∀ p ∈ news, p ∈ news') B F X N T rfl rfl rfl hoC hcC ?_ (BindsTo.of_eq rfl) (locs rfl) rfl rfl rfl (by decide) (fun g L' h₁ tk FG F' N' B' X' T' => chk_ok X' T' N' F' hlen hmax hM hx1 hx2 (fun h' tk m' F2 N2 => fn_next F2 N2 (fun _ hp => hp))) ?_
  · show dp + 1 < _
    have : recursionLimit = 1000 := rfl
    omega
  rintro v news1 h1 tk1 hsub F1 N1'
  have N1 : News g L h1 news := fun p hp => N1' p (hsub p hp)
  clear N1' hsub F N
  k_steps
  rename Fr _ _ _ _ => F2
  rename News _ _ _ _ => N2
  have e1 : ((x1.length : Int) + 1) = ((x1.length + 1 : Nat) : Int) := by omega
  have e2 : ((x2.length : Int) + 1) = ((x2.length + 1 : Nat) : Int) := by omega
  rw [e1, e2]
  refine call_fn (fun v news' => ∃ l rs, v = .ref l ∧ (∀ p ∈ news, p ∈ news') ∧ MatIn news' l rs (x1.length + 1) (x2.length + 1) (fun a b => if a = 0 then (b : Int) else if b = 0 then (a : Int) else 0) ∧ Apart news l ∧ (∀ r ∈ rs, Apart news r))
    B F2 X N2 T rfl rfl rfl hoI hcI ?_ (BindsTo.of_eq rfl) (locs rfl) rfl rfl rfl (by decide) (fun g L' h₁ tk FG F' N' B' X' T' => init_ok X' T' N' F' hrange (by omega) (by omega) (by omega) (by omega) rfl (fun h' tk m' news' l rs F2 N2 k M a1 a2 => fn_ret F2 N2 (exi_2_5 l rs rfl k M a1 a2))) ?_
  · show dp + 1 < _
    have : recursionLimit = 1000 := rfl
    omega
  intro v news1 h3 tk3 hJz F3 N3
  try k_fold
  refine exe_2_5 hJz ?_
  clear hJz
  intro l rs eq1 hsub M a1 a2
  subst eq1
  clear F2 N2
  k_steps
  rename_i F5 N5 _
  rename IsRange _ _ _ _ _ _ _ _ => hr
  refine rngS (L := L) [Str.ofString "i", Str.ofString "j"] x1.length news (fun i m mine => ∃ u, MatIn mine l rs (x1.length + 1) (x2.length + 1) u ∧ Bord u (x1.length + 1) (x2.length + 1) ∧ ∀ a b, 1 ≤ a → a ≤ i → 1 ≤ b → b ≤ x2.length → CellEq x1 x2 sc false u a b)
    rfl rfl F5 N5 hr ?_ ?_ (fun p hp => hsub p hp) (by decide) ?_ ?_ ?_
  · exact small_one (by omega) (by omega) (by omega) (by omega)
  · rw [rangeSize_one]; split <;> omega
  · refine exi_1_3 _ (M.toMine a1 a2) ?_ ?_
    · refine ⟨fun b hb => by simp, fun a ha => ?_⟩
      show (if a = 0 then _ else _) = _
      split
      · rename_i e; subst e; rfl
      · rfl
    · intro a b h1 h2; omega
  · intro i t u mine h tk own hi hJz hml hown F6 N6
    try k_fold
    refine exe_1_3 hJz ?_
    clear hJz
    intro U M1 hB hC
    rw [show (0 : Int) + (i : Int) = ((i : Nat) : Int) from by omega] at F6
    clear hr F5 N5
    try k_fold
    k_steps
    rename_i F5 N5 _
    rename IsRange _ _ _ _ _ _ _ _ => hr
    have hmm : ∀ p ∈ mine, p ∈ own ++ (mine ++ news) := fun p hp => List.mem_append_right _ (List.mem_append_left _ hp)
    refine exe_0_2 (M1.above (keep := own ++ news) (fun p hp q hq => (List.mem_append.mp hq).elim (fun hq => hown q hq p hp) (fun hq => (hml p hp).1 q hq))) ?_
    intro b1 b2
    refine rngS (L := L) [Str.ofString "j"] x2.length (own ++ news) (fun j m mine => ∃ (u : Nat → Nat → Int), MatIn mine l rs (x1.length + 1) (x2.length + 1) u ∧ Bord u (x1.length + 1) (x2.length + 1) ∧ (∀ a b, 1 ≤ a → a ≤ i → 1 ≤ b → b ≤ x2.length → CellEq x1 x2 sc false u a b) ∧ ∀ b, 1 ≤ b → b ≤ j → CellEq x1 x2 sc false u (i + 1) b)
      rfl rfl F5 N5 hr ?_ ?_ ?_ (by decide) ?_ ?_ ?_
    · exact small_one (by omega) (by omega) (by omega) (by omega)
    · rw [rangeSize_one]; split <;> omega
    · intro p hp
      rcases List.mem_append.mp hp with hp | hp
      · exact List.mem_append_left _ hp
      · exact List.mem_append_right _ (List.mem_append_right _ hp)
    · exact exi_1_4 U ((M1.mono (fun p hp _ => hmm p hp)).toMine b1 b2) hB hC (fun b h1 h2 => by omega)
    · intro j tj uj minej hj tkj ownj hjlt hJz hmlj hownj F7 N7
      try k_fold
      refine exe_1_4 hJz ?_
      clear hJz
      intro Uj Mj hBj hCj hDj
      rw [show (0 : Int) + (j : Int) = ((j : Nat) : Int) from by omega] at F7
      clear hr F5 N5
      try k_fold
      have hmj : ∀ p ∈ minej, p ∈ ownj ++ (minej ++ (own ++ news)) := fun p hp => List.mem_append_right _ (List.mem_append_left _ hp)
      have Mj' := Mj.mono (fun p hp _ => hmj p hp)
      k_steps
      rename Fr _ _ _ _ => F8
      rename News _ _ _ _ => N8
      rw [show ((i : Int) + 1) = ((i + 1 : Nat) : Int) from by omega, show ((j : Int) + 1) = ((j + 1 : Nat) : Int) from by omega]
      refine call_fn (fun _ news' => ∃ r, r ∈ rs ∧ MatIn news' l rs (x1.length + 1) (x2.length + 1) (fun a b => if a = i + 1 ∧ b = j + 1 then stepVal x1 x2 sc false Uj ((i + 1 : Nat) : Int) ((j + 1 : Nat) : Int) 0 0 else Uj a b) ∧ (∀ p ∈ ownj ++ (minej ++ (own ++ news)), p.1 ≠ r → p ∈ news'))
        B F8 X N8 T rfl rfl rfl hoS hcS ?_ (binds_K (X.keeps F8.keep) rfl hdO hdQ rfl rfl) (locs rfl) rfl rfl rfl (by decide)
        (fun g' L' h₁ tk FG F' N' B' X' T' => step_ok (i := ((i + 1 : Nat) : Int)) (j := ((j + 1 : Nat) : Int)) (ll := 0) (lr := 0) (sc := sc) (tr := false) X' T' N' Mj' F' hmin (by omega) (by omega) (by omega) (by omega) (by omega) (by omega) (by omega) (by omega) (by omega) (by omega) rfl rfl rfl
          (fun h' tk m' news' r F2 N2 M2 hr k1 _ => fn_next F2 N2 (exi_1_3 r hr M2 k1))) ?_
      · show dp + 1 < _
        have : recursionLimit = 1000 := rfl
        omega
      intro v news9 h9 tk9 hJz F9 N9
      try k_fold
      refine exe_1_3 hJz ?_
      clear hJz
      intro r hr M9 k9
      have d9 : ∀ p ∈ own ++ news, p ∈ news9 := fun p hp => k9 p (List.mem_append_right _ (List.mem_append_right _ hp)) (b2 r hr p hp)
      have o9 : ∀ p ∈ ownj, p ∈ news9 := by
        intro p hp
        obtain ⟨ix, hix⟩ := List.mem_iff_getElem?.mp hr
        obtain ⟨vs, cc, hm, _⟩ := Mj.row ix r hix
        exact k9 p (List.mem_append_left _ hp) (hownj p hp _ hm)
      k_steps
      rename Fr _ _ _ _ => F10
      rename News _ _ _ _ => N10
      refine exe_1_1 (IsLast.ex (fun k => lt1 x1 k = lt1 x2 (j + 1)) (i + 1)) ?_
      intro ll hll
      refine exe_1_1 (IsLast.ex (fun k => lt1 x2 k = lt1 x1 (i + 1)) (j + 1)) ?_
      intro lr hlr
      refine exe_0_3 (cells_next (i := i) (j := j) (u' := fun a b => if a = i + 1 ∧ b = j + 1 then stepVal x1 x2 sc false Uj ((i + 1 : Nat) : Int) ((j + 1 : Nat) : Int) 0 0 else Uj a b) (by omega) hBj (fun a b h1 h2 h3 h4 => hCj a b h1 h2 h3 (by omega)) hDj hll hlr (by funext a b; rw [stepVal_false])) ?_
      intro z1 z2 z3
      refine post_next F10 N10 o9 d9 ?_ ⟨_, M9.toMine b1 b2, z1, fun a b h1 h2 h3 h4 => z2 a b h1 h2 h3 (by omega), z3⟩
      intro y hy
      repeat' first | exact rfl | refine skip1 (ne_in hy (by rfl)) ?_ | refine skipS hy (by rfl) ?_ | refine keep2 (fun e => by subst e; rfl) ?_
    · intro uj minej hj tkj hJz hmlj F7 N7
      try k_fold
      refine exe_1_4 hJz ?_
      clear hJz
      intro Uj Mj hBj hCj hDj
      clear hr F5 N5
      try k_fold
      k_steps
      refine post_next F7 N7 (fun p hp => List.mem_append_right _ (List.mem_append_left _ hp)) (fun p hp => List.mem_append_right _ (List.mem_append_right _ hp)) ?_ ?_
      · intro y hy
        repeat' first | exact rfl | refine skip1 (ne_in hy (by rfl)) ?_ | refine skipS hy (by rfl) ?_ | refine keep2 (fun e => by subst e; rfl) ?_
      · refine exi_1_3 Uj ((Mj.mono (fun p hp _ => List.mem_append_left _ hp)).toMine (fun q hq => b1 q (List.mem_append_right _ hq)) (fun r hr q hq => b2 r hr q (List.mem_append_right _ hq))) hBj ?_
        intro a b h1 h2 h3 h4
        by_cases e : a = i + 1
        · subst e; exact hDj b h3 h4
        · exact hCj a b h1 (by omega) h3 h4
  · intro u mine h tk hJz hml F6 N6
    try k_fold
    refine exe_1_3 hJz ?_
    clear hJz
    intro U M1 hB hC
    clear hr F5 N5
    try k_fold
    have M2 := M1.mono (news' := mine ++ news) (fun p hp _ => List.mem_append_left _ hp)
    k_steps
    rename Fr _ _ _ _ => F7
    rename News _ _ _ _ => N7
    refine call_fn (fun v news' => ∃ R its pts c, v = .ref R ∧ (∀ p ∈ news, p.1 ≠ P9 → p ∈ news') ∧ (R, listOf its.reverse.toArray c) ∈ news' ∧ TupsAre news' its pts ∧ BackPath x1 x2 sc U x1.length x2.length pts ∧ pts[pts.length - 1]? = some (0, 0) ∧ its.length ≤ 30 ∧ ∃ ps, (P9, tabObj ps) ∈ news')
      B F7 X N7 T rfl rfl rfl hoB hcB ?_ (binds_K (X.keeps F7.keep) rfl hbO hbQ rfl rfl) (locs rfl) rfl rfl rfl (by decide)
      (fun g' L' h₁ tk FG F' N' B' X' T' => bt_ok (v := U) X' T' B' N' F' hlen hmin hlist hrev hx1 hx2 (show dp + 1 ≤ 490 by omega) (show un + 3 ≤ 90 by omega) M2 (CodeHd.keeps C FG.keep) (List.mem_append_right _ hP9) (hb U hB hC)
        (fun R its pts c h' tk m' news' F2 N2 hk hR hT hBP hl hs htb => fn_ret F2 N2 (exi_4_8 R its pts c rfl (fun p hp hne => hk p (List.mem_append_right _ hp) hne) hR hT hBP hl hs htb))) ?_
    · show dp + 1 < _
      have : recursionLimit = 1000 := rfl
      omega
    intro v news9 h9 tk9 hJz F9 N9
    try k_fold
    refine exe_4_8 hJz ?_
    clear hJz
    intro R its pts c eq2 hk hR hT hBP hl hs htb
    subst eq2
    k_steps
    exact hQ R its pts c U _ _ _ _ (by assumption) (by assumption) hk hR hT hB hC hBP hl hs htb
-- part WPlain
section
variable {x1 x2 : Str} {sc : Int} {tr : Bool} {u v : Nat → Nat → Int} {n1 n2 : Nat}
theorem ite_bne {a b : Str} {x : Int} : (if (a != b) = true then x else 0) = (if (a == b) = true then 0 else x) := by
  cases h : a == b <;> simp [bne, h]
theorem lip_down (hC : ∀ a b, a ≤ n1 → b ≤ n2 → LawCell x1 x2 sc tr v a b) {a b : Nat} (p : Nat) (h1 : a + p ≤ n1) (h2 : b ≤ n2) : v (a + p) b ≤ v a b + p := by
  induction p with
  | zero => simp
  | succ p ih =>
    have := (hC (a + (p + 1)) b h1 h2).2 _ (.up (by omega))
    rw [show a + (p + 1) - 1 = a + p from by omega] at this
    have := ih (by omega)
    omega
theorem lip_right (hC : ∀ a b, a ≤ n1 → b ≤ n2 → LawCell x1 x2 sc tr v a b) {a b : Nat} (p : Nat) (h1 : a ≤ n1) (h2 : b + p ≤ n2) : v a (b + p) ≤ v a b + p := by
  induction p with
  | zero => simp
  | succ p ih =>
    have := (hC a (b + (p + 1)) h1 h2).2 _ (.left (by omega))
    rw [show b + (p + 1) - 1 = b + p from by omega] at this
    have := ih (by omega)
    omega
theorem lip (hC : ∀ a b, a ≤ n1 → b ≤ n2 → LawCell x1 x2 sc tr v a b) {a b a' b' : Nat} (ha : a ≤ a') (hb : b ≤ b') (h1 : a' ≤ n1) (h2 : b' ≤ n2) : v a' b' ≤ v a b + ((a' : Int) - a) + ((b' : Int) - b) := by
  have e1 := lip_down hC (a := a) (b := b') (a' - a) (by omega) h2
  have e2 := lip_right hC (a := a) (b := b) (b' - b) (by omega) (by omega)
  rw [show a + (a' - a) = a' from by omega] at e1
  rw [show b + (b' - b) = b' from by omega] at e2
  omega
theorem law_zero (hC : ∀ a b, a ≤ n1 → b ≤ n2 → LawCell x1 x2 sc tr v a b) : v 0 0 = 0 := by
  have h := (hC 0 0 (Nat.zero_le _) (Nat.zero_le _)).1
  generalize hz : v 0 0 = z at h
  cases h with
  | zero _ _ => rfl
  | up h => omega
  | left h => omega
  | diag h _ => omega
  | swap k m _ _ h3 _ _ _ _ => omega
theorem law_b (hC : ∀ a b, a ≤ n1 → b ≤ n2 → LawCell x1 x2 sc tr v a b) (b : Nat) (hb : b ≤ n2) : v 0 b = b := by
  induction b with
  | zero => exact law_zero hC
  | succ b ih =>
    have h := (hC 0 (b + 1) (Nat.zero_le _) hb).1
    have i := ih (by omega)
    generalize hz : v 0 (b + 1) = z at h
    cases h with
    | zero _ h => omega
    | up h => omega
    | left h => rw [show b + 1 - 1 = b from by omega]; omega
    | diag h _ => omega
    | swap k m _ _ h3 _ _ _ _ => omega
theorem law_a (hC : ∀ a b, a ≤ n1 → b ≤ n2 → LawCell x1 x2 sc tr v a b) (a : Nat) (ha : a ≤ n1) : v a 0 = a := by
  induction a with
  | zero => exact law_zero hC
  | succ a ih =>
    have h := (hC (a + 1) 0 ha (Nat.zero_le _)).1
    have i := ih (by omega)
    generalize hz : v (a + 1) 0 = z at h
    cases h with
    | zero h _ => omega
    | up h => rw [show a + 1 - 1 = a from by omega]; omega
    | left h => omega
    | diag _ h => omega
    | swap k m _ _ h3 _ h5 _ _ => omega
theorem swap_le {k m ll lr : Nat} {a b U V W : Int} (q : U ≤ V + a - ll + b - lr - 1) (t : V ≤ W + (((ll - 1 : Nat) : Int) - ((k - 1 : Nat) : Int)) + (((lr - 1 : Nat) : Int) - ((m - 1 : Nat) : Int))) (h1 : 1 ≤ k) (h2 : 1 ≤ m) (h3 : k ≤ ll) (h4 : m ≤ lr) :
    U ≤ W + (a - k - 1) + 1 + (b - m - 1) := by lia
theorem swap_eq {V a b k m : Int} : V + (a - k - 1) + 1 + (b - m - 1) = V + a - k + b - m - 1 := by lia
theorem min3_a {a b c : Int} (h1 : a ≤ b) (h2 : a ≤ c) : a = min (min a b) c := by rw [Int.min_eq_left h1, Int.min_eq_left h2]
theorem min3_b {a b c : Int} (h1 : b ≤ a) (h2 : b ≤ c) : b = min (min a b) c := by rw [Int.min_eq_right h1, Int.min_eq_left h2]
theorem min3_c {a b c : Int} (h1 : c ≤ a) (h2 : c ≤ b) : c = min (min a b) c := (Int.min_eq_right (Int.le_min.mpr ⟨h1, h2⟩)).symm
theorem stepVal_nat {a b ll lr : Nat} : stepVal x1 x2 sc tr u a b ll lr =
    min (min (u (a - 1) b + 1) (u a (b - 1) + 1)) (min (stepD x1 x2 sc u a b) (if tr = true ∧ (0 : Int) < ll ∧ (0 : Int) < lr then u (ll - 1) (lr - 1) + a - ll + b - lr - 1 else stepD x1 x2 sc u a b + 1)) := by
  unfold stepVal stepD
  rw [toNat1, toNat1, toNat1, toNat1, Int.toNat_natCast, Int.toNat_natCast, ite_bne]
/-- the two tables agree -/
theorem tab_eq (hB : Bord u (n1 + 1) (n2 + 1)) (hE : ∀ a b, 1 ≤ a → a ≤ n1 → 1 ≤ b → b ≤ n2 → CellEq x1 x2 sc tr u a b) (hC : ∀ a b, a ≤ n1 → b ≤ n2 → LawCell x1 x2 sc tr v a b) :
    ∀ n a b, a + b < n → a ≤ n1 → b ≤ n2 → u a b = v a b := by
  intro n
  induction n with
  | zero => intro a b h; omega
  | succ n ih =>
    intro a b hn ha hb
    rcases Nat.eq_zero_or_pos a with ra | ra
    · subst ra
      rw [hB.1 b (by omega), law_b hC b hb]
    rcases Nat.eq_zero_or_pos b with rb | rb
    · subst rb
      rw [hB.2 a (by omega), law_a hC a ha]
    obtain ⟨ll, lr, hl, hr, e⟩ := hE a b ra ha rb hb
    rw [stepVal_nat] at e
    revert e
    have hl1 := hl.lt ra
    have hr1 := hr.lt rb
    have i1 := ih (a - 1) b (by omega) (by omega) hb
    have i2 := ih a (b - 1) (by omega) ha (by omega)
    have i3 := ih (a - 1) (b - 1) (by omega) (by omega) (by omega)
    have i4 := ih (ll - 1) (lr - 1) (by omega) (by omega) (by omega)
    have hd : stepD x1 x2 sc u a b = stepD x1 x2 sc v a b := by unfold stepD; rw [i3]
    rw [hd, i1, i2, i4]
    intro e
    have c1 := (hC a b ha hb).2 _ (.up ra)
    have c2 := (hC a b ha hb).2 _ (.left rb)
    have c3 := (hC a b ha hb).2 _ (.diag ra rb)
    rw [show v (a - 1) (b - 1) + (if (Txt.item x1 ((a : Int) - 1) == Txt.item x2 ((b : Int) - 1)) = true then 0 else sc) = stepD x1 x2 sc v a b from rfl] at c3
    have hle : u a b ≤ v a b := by
      have hw := (hC a b ha hb).1
      generalize hz : v a b = z at hw
      cases hw with
      | zero h _ => exact absurd h (Nat.ne_of_gt ra)
      | up _ => exact (min4_le e).1
      | left _ => exact (min4_le e).2.1
      | diag _ _ => exact (min4_le e).2.2.1
      | swap k m h1 h2 h3 h4 h5 h6 h7 =>
        have k1 : k ≤ ll := by
          rcases Nat.lt_or_ge ll k with h | h
          · exact absurd h6 (hl.2 k h h3)
          · exact h
        have m1 : m ≤ lr := by
          rcases Nat.lt_or_ge lr m with h | h
          · exact absurd h7.symm (hr.2 m h h5)
          · exact h
        rw [if_pos ⟨h1, Int.natCast_pos.mpr (Nat.lt_of_lt_of_le h2 k1), Int.natCast_pos.mpr (Nat.lt_of_lt_of_le h4 m1)⟩] at e
        exact swap_le (min4_le e).2.2.2 (lip hC (a := k - 1) (b := m - 1) (a' := ll - 1) (b' := lr - 1) (Nat.sub_le_sub_right k1 1) (Nat.sub_le_sub_right m1 1) (by clear e c1 c2 c3; omega) (by clear e c1 c2 c3; omega)) h2 h4 k1 m1
    have hge : v a b ≤ u a b := by
      by_cases hs : tr = true ∧ (0 : Int) < ll ∧ (0 : Int) < lr
      · have hp : lt1 x1 ll = lt1 x2 b := by
          rcases hl.1 with h | h
          · exact absurd hs.2.1 (by rw [h]; decide)
          · exact h.2.2
        have hq : lt1 x2 lr = lt1 x1 a := by
          rcases hr.1 with h | h
          · exact absurd hs.2.2 (by rw [h]; decide)
          · exact h.2.2
        have c4 := (hC a b ha hb).2 _ (.swap ll lr hs.1 (Int.natCast_pos.mp hs.2.1) hl1 (Int.natCast_pos.mp hs.2.2) hr1 hp hq.symm)
        rw [if_pos hs] at e
        exact le_min4 e c1 c2 c3 (Int.le_trans c4 (Int.le_of_eq swap_eq))
      · rw [if_neg hs] at e
        exact le_min4 e c1 c2 c3 (Int.le_add_one c3)
    exact Int.le_antisymm hle hge
/-- the table of the edit distance is small -/
theorem ed_small (hB : Bord u (n1 + 1) (n2 + 1)) (hE : ∀ a b, 1 ≤ a → a ≤ n1 → 1 ≤ b → b ≤ n2 → CellEq x1 x2 sc tr u a b) : ∀ a b, a ≤ n1 → b ≤ n2 → u a b ≤ a + b := by
  intro a
  induction a with
  | zero => intro b _ hb; rw [hB.1 b (by omega)]; omega
  | succ a ih =>
    intro b ha hb
    rcases Nat.eq_zero_or_pos b with rb | rb
    · subst rb; rw [hB.2 (a + 1) (by omega)]; omega
    obtain ⟨ll, lr, hl, hr, e⟩ := hE (a + 1) b (by omega) ha rb hb
    rw [stepVal_nat] at e
    have i := ih b (Nat.le_of_succ_le ha) hb
    have q := (min4_le e).1
    rw [Nat.add_sub_cancel] at q
    clear e
    omega
/-- what the chosen step back costs -/
def costP (x1 x2 : Str) (sc : Int) (v : Nat → Nat → Int) (a b : Nat) : Int :=
  if a = 0 ∨ b = 0 then 1 else if stepD x1 x2 sc v a b ≤ v (a - 1) b + 1 ∧ stepD x1 x2 sc v a b ≤ v a (b - 1) + 1 then (if (Txt.item x1 ((a : Int) - 1) == Txt.item x2 ((b : Int) - 1)) = true then 0 else sc) else 1
/-- with no transpositions a cell is the least of the three -/
theorem cell_min (hC : ∀ a b, a ≤ n1 → b ≤ n2 → LawCell x1 x2 sc false v a b) {a b : Nat} (ha : a ≤ n1) (hb : b ≤ n2) (ra : 0 < a) (rb : 0 < b) :
    v a b = min (min (v (a - 1) b + 1) (v a (b - 1) + 1)) (stepD x1 x2 sc v a b) := by
  have c1 := (hC a b ha hb).2 _ (.up ra)
  have c2 := (hC a b ha hb).2 _ (.left rb)
  have c3 := (hC a b ha hb).2 _ (.diag ra rb)
  rw [show v (a - 1) (b - 1) + (if (Txt.item x1 ((a : Int) - 1) == Txt.item x2 ((b : Int) - 1)) = true then 0 else sc) = stepD x1 x2 sc v a b from rfl] at c3
  have hw := (hC a b ha hb).1
  generalize hz : v a b = z at *
  cases hw with
  | zero h _ => exact absurd h (Nat.ne_of_gt ra)
  | up _ => exact min3_a c2 c3
  | left _ => exact min3_b c1 c3
  | diag _ _ => exact min3_c c1 c2
  | swap k m h1 h2 h3 h4 h5 h6 h7 => cases h1
/-- the way back stays inside -/
theorem prev_le {a b : Nat} {p : Nat × Nat} (h : p = prevOf x1 x2 sc v a b) : p.1 ≤ a ∧ p.2 ≤ b := by
  subst h
  unfold prevOf
  split
  · simp
  split
  · simp
  split
  · simp
  split <;> simp
theorem back_in {pts : List (Nat × Nat)} (h : BackPath x1 x2 sc v n1 n2 pts) : ∀ (k : Nat) (p : Nat × Nat), pts[k]? = some p → p.1 ≤ n1 ∧ p.2 ≤ n2 := by
  intro k
  induction k with
  | zero => intro p hp; rw [h.1] at hp; cases hp; simp
  | succ k ih =>
    intro p hp
    have hk : k < pts.length := by have := (List.getElem?_eq_some_iff.mp hp).1; omega
    have e := h.2 k _ p (List.getElem?_eq_getElem hk) hp
    have i := ih _ (List.getElem?_eq_getElem hk)
    have := prev_le e.2
    omega
end
-- part WComp
section
variable {prog : Program} {w : World} {A : Around} {h₀ : Heap} {L : Addr} {m : Str → Option Value} {env : Env} {elt : Expr} {x : Str} {scope : Scope} {cl : List (Str × Addr)} {s : Shared} {S : List (Addr × Obj) → Prop} {P : Nat → Value → Prop} {Fin : List Value → List (Addr × Obj) → Prop} {news : List (Addr × Obj)}
/-- a comprehension by an invariant over the made list and the ledger -/
theorem comp_inv {n : Nat} (J : Nat → List Value → List (Addr × Obj) → Prop) (hJ : J 0 [] news)
    (turn : ∀ i v I oI C oC D m₂ ys news h tk (E' : Value → Shared → Prop), i < n → P i v → J i ys news → LCg.NsObj oC m₂ → m₂ x = some v → Fr h₀ L h m → News h₀ L h ((I, oI) :: (C, oC) :: (D, LCg.lst ys) :: news) → LCg.Off3 I C D news → ((@Ne Nat I C) ∧ (@Ne Nat I D) ∧ (@Ne Nat C D)) →
      wpAny (model prog w) A (eval elt (compEnvC scope cl C env)) (LCg.CompEnd h₀ L m { s with heap := h, toks := tk } I oI C oC D (LCg.lst ys) S (fun y news' => J (i + 1) (ys ++ [y]) news')) E' { s with heap := h, toks := tk })
    (fin : ∀ ys news, J n ys news → Fin ys news) : LCg.CompRest prog w A h₀ L m env elt x scope cl s S P Fin n 0 [] news := by
  have key : ∀ (j i : Nat) (ys : List Value) news, i + j = n → J i ys news → LCg.CompRest prog w A h₀ L m env elt x scope cl s S P Fin j i ys news := by
    intro j
    induction j with
    | zero =>
      intro i ys news hi hJ
      obtain rfl : i = n := by omega
      exact LCg.CompRest.zero (fin ys news hJ)
    | succ j ih =>
      intro i ys news hi hJ
      refine LCg.CompRest.succ ?_
      intro v I oI C oC D m₂ h tk E' hv hC hx F N off ne
      refine wpAny_mono (turn i v I oI C oC D m₂ ys news h tk E' (by omega) hv hJ hC hx F N off ne) (fun y s₂ hq => ?_) fun _ _ e => e
      obtain ⟨h', tk', nw, e, F', N', off', hS, hn⟩ := hq
      exact ⟨h', tk', nw, e, F', N', off', hS, ih (i + 1) _ nw (by omega) hn⟩
  exact key n 0 [] news (by omega) hJ
end
section
variable {prog : Program} {w : World} {A : Around} {h₀ : Heap} {L : Addr} {m : Str → Option Value} {env : Env} {ct elt : Expr} {x : Str} {scope : Scope} {cl : List (Str × Addr)} {s : Shared} {S : List (Addr × Obj) → Prop} {P : Nat → Value → Prop} {Fin : List Value → List (Addr × Obj) → Prop} {news : List (Addr × Obj)}
/-- the same with a test -/
theorem compT_inv {n : Nat} (J : Nat → List Value → List (Addr × Obj) → Prop) (hJ : J 0 [] news)
    (turn : ∀ i v I oI C oC D m₂ ys news h tk (E' : Value → Shared → Prop), i < n → P i v → J i ys news → LCg.NsObj oC m₂ → m₂ x = some v → Fr h₀ L h m → News h₀ L h ((I, oI) :: (C, oC) :: (D, LCg.lst ys) :: news) → LCg.Off3 I C D news → ((@Ne Nat I C) ∧ (@Ne Nat I D) ∧ (@Ne Nat C D)) →
      wpAny (model prog w) A (isTrue ct (compEnvC scope cl C env) (eval ct (compEnvC scope cl C env))) (fun ok s' => if ok = true then
        wpAny (model prog w) A (eval elt (compEnvC scope cl C env)) (LCg.CompEnd h₀ L m { s with heap := h, toks := tk } I oI C oC D (LCg.lst ys) S (fun y news' => J (i + 1) (ys ++ [y]) news')) E' s'
        else LCg.CompEnd h₀ L m { s with heap := h, toks := tk } I oI C oC D (LCg.lst ys) S (fun _ news' => J (i + 1) ys news') Value.none s') E' { s with heap := h, toks := tk })
    (fin : ∀ ys news, J n ys news → Fin ys news) : LCt.CompRestT prog w A h₀ L m env ct elt x scope cl s S P Fin n 0 [] news := by
  have key : ∀ (j i : Nat) (ys : List Value) news, i + j = n → J i ys news → LCt.CompRestT prog w A h₀ L m env ct elt x scope cl s S P Fin j i ys news := by
    intro j
    induction j with
    | zero =>
      intro i ys news hi hJ
      obtain rfl : i = n := by omega
      exact LCt.CompRestT.zero (fin ys news hJ)
    | succ j ih =>
      intro i ys news hi hJ
      refine LCt.CompRestT.succ ?_
      intro v I oI C oC D m₂ h tk E' hv hC hx F N off ne
      refine wpAny_mono (turn i v I oI C oC D m₂ ys news h tk E' (by omega) hv hJ hC hx F N off ne) (fun ok s₂ hq => ?_) fun _ _ e => e
      cases ok with
      | true =>
        simp only [if_true] at hq ⊢
        refine wpAny_mono hq (fun y s₃ hq => ?_) fun _ _ e => e
        obtain ⟨h', tk', nw, e, F', N', off', hS, hn⟩ := hq
        exact ⟨h', tk', nw, e, F', N', off', hS, ih (i + 1) _ nw (by omega) hn⟩
      | false =>
        simp only [Bool.false_eq_true, if_false] at hq ⊢
        obtain ⟨h', tk', nw, e, F', N', off', hS, hn⟩ := hq
        exact ⟨h', tk', nw, e, F', N', off', hS, ih (i + 1) _ nw (by omega) hn⟩
  exact key n 0 [] news (by omega) hJ
end
theorem ints_snoc {vs : List Value} {ns : List Int} (h : IntsAre vs ns) (x : Int) (t : Tok) : IntsAre (vs ++ [.int x t]) (ns ++ [x]) := by
  induction h with
  | nil => exact .cons _ _ .nil
  | cons n t' _ ih => exact .cons n t' ih
theorem ints_append {vs ws : List Value} {ns ms : List Int} (h : IntsAre vs ns) (h2 : IntsAre ws ms) : IntsAre (vs ++ ws) (ns ++ ms) := by
  induction h with
  | nil => exact h2
  | cons n t' _ ih => exact .cons n t' ih
-- part WTake

section
variable {prog : Program} {w : World} {A : Around} {E : Value → Shared → Prop} {s : Shared} {h₀ : Heap} {L : Addr} {m : Str → Option Value} {news : List (Addr × Obj)} {value slice : Expr}
theorem list_item {r : Addr} {vs : List Value} {c : Nat} {k : Int} {u : Tok} {v : Value} {Q : Value → Shared → Prop} (N : News h₀ L s.heap news) (hm : (r, listOf vs.toArray c) ∈ news) (h0 : 0 ≤ k) (hf : k < 2 ^ 62) (hv : vs[k.toNat]? = some v) (h : Q v s)
    (hs : subscripted slice false (.ref r) (.int k u) = operate [.ref r, .int k u] (getItem (.ref r) (.int k u)) := by with_unfolding_all rfl) (hg : ∀ r', letTemporaryGo value (.ref r) r' = pure () := by intro _; with_unfolding_all rfl) :
    wpAny (model prog w) A (subscriptTail value slice (.ref r) (.int k u)) Q E s :=
  kim_list N hm rfl rfl h0 (by omega) hv h hs hg
theorem ints_at {vs : List Value} {ns : List Int} (hI : IntsAre vs ns) : ∀ k, k < vs.length → ∃ x t, vs[k]? = some (.int x t) := by
  induction hI with
  | nil => intro k h; simp at h
  | cons n t _ ih =>
    intro k h
    rcases k with _ | k
    · exact ⟨n, t, rfl⟩
    · obtain ⟨x, t', e⟩ := ih k (by simpa using h)
      exact ⟨x, t', by simpa using e⟩
theorem ints_item {r : Addr} {vs : List Value} {ns : List Int} {c : Nat} {k : Int} {u : Tok} {Q : Value → Shared → Prop} (N : News h₀ L s.heap news) (hm : (r, listOf vs.toArray c) ∈ news) (hI : IntsAre vs ns) (h0 : 0 ≤ k) (h1 : k < vs.length) (hf : vs.length ≤ 1000) (h : ∀ x t, Q (.int x t) s)
    (hs : subscripted slice false (.ref r) (.int k u) = operate [.ref r, .int k u] (getItem (.ref r) (.int k u)) := by with_unfolding_all rfl) (hg : ∀ r', letTemporaryGo value (.ref r) r' = pure () := by intro _; with_unfolding_all rfl) :
    wpAny (model prog w) A (subscriptTail value slice (.ref r) (.int k u)) Q E s := by
  obtain ⟨x, t, e⟩ := ints_at hI k.toNat (by omega)
  exact kim_list N hm rfl rfl h0 (by omega) e (h x t) hs hg
end
theorem tup_item {prog : Program} {w : World} {A : Around} {E : Value → Shared → Prop} {s : Shared} {h₀ : Heap} {L : Addr} {news : List (Addr × Obj)} {value slice : Expr} {r : Addr} {vs : List Value} {k : Int} {u : Tok} {j : Nat} {v : Value} {Q : Value → Shared → Prop}
    (N : News h₀ L s.heap news) (hm : (r, ({ cls := .type "tuple", data := .seq vs.toArray } : Obj)) ∈ news) (h0 : -(2 ^ 63) ≤ k) (hf : k < 2 ^ 63) (hj : seqIndex? k vs.length = some j) (hv : vs[j]? = some v) (h : Q v s)
    (hs : subscripted slice false (.ref r) (.int k u) = operate [.ref r, .int k u] (getItem (.ref r) (.int k u)) := by with_unfolding_all rfl) (hg : ∀ r', letTemporaryGo value (.ref r) r' = pure () := by intro _; with_unfolding_all rfl) :
    wpAny (model prog w) A (subscriptTail value slice (.ref r) (.int k u)) Q E s :=
  kim_tup N hm rfl rfl h0 hf hj hv h hs hg
theorem list_back {prog : Program} {w : World} {A : Around} {E : Value → Shared → Prop} {s : Shared} {h₀ : Heap} {L : Addr} {news : List (Addr × Obj)} {value slice : Expr} {r : Addr} {vs : List Value} {c : Nat} {k : Int} {u : Tok} {v : Value} {Q : Value → Shared → Prop}
    (N : News h₀ L s.heap news) (hm : (r, listOf vs.toArray c) ∈ news) (h0 : k < 0) (h1 : -(vs.length : Int) ≤ k) (hf : -(2 ^ 62) ≤ k) (hv : vs[(k + (vs.length : Int)).toNat]? = some v) (h : Q v s)
    (hs : subscripted slice false (.ref r) (.int k u) = operate [.ref r, .int k u] (getItem (.ref r) (.int k u)) := by with_unfolding_all rfl) (hg : ∀ r', letTemporaryGo value (.ref r) r' = pure () := by intro _; with_unfolding_all rfl) :
    wpAny (model prog w) A (subscriptTail value slice (.ref r) (.int k u)) Q E s :=
  kim_back N hm rfl rfl h0 h1 (by omega) hv h hs hg
section
local macro_rules | `(tactic| walk_at "subscriptTail") => `(tactic| (k_here; (with_reducible refine g_sub ?_); (with_unfolding_all refine list_item (by assumption) (by k_mem) (by decide) (by decide) rfl ?_)))
local macro_rules | `(tactic| walk_at "subscriptTail") => `(tactic| (k_here; (with_reducible refine g_sub ?_); (with_unfolding_all refine ints_item (by assumption) (by k_mem) (by assumption) (by first | omega | (apply Int.fmod_nonneg <;> omega)) (by first | omega | (apply Int.fmod_lt_of_pos; omega)) (by omega) ?_); intro _ _))
local macro_rules | `(tactic| walk_at "setItem ref int") => `(tactic| (k_here; (with_unfolding_all refine set_at (by assumption) (by assumption) (by k_mem) (by decide) (by decide) (by simp) ?_); intro h' news' F' N' hm' hk1' hk2'; (have hC' := hk1' _ (by assumption) (by assumption))))
local macro_rules | `(tactic| walk_at "call builtin:len") => `(tactic| (k_here; (with_reducible refine g_len ?_); (refine KM.len_K (n := _) (by assumption) (by k_mem) (List.size_toArray ..) (by omega) ?_)))

def at10 : List Stmt → Stmt
  | _ :: _ :: _ :: _ :: _ :: _ :: _ :: _ :: _ :: _ :: x :: _ => x
  | _ => .Pass ⟨0,0,0,0⟩
def at11 : List Stmt → Stmt
  | _ :: _ :: _ :: _ :: _ :: _ :: _ :: _ :: _ :: _ :: _ :: x :: _ => x
  | _ => .Pass ⟨0,0,0,0⟩
def takeSt : Stmt := at11 PySem.Challenge.pw_je0021_01.main.body
def takeB : List Stmt := fnBody takeSt
def takeScope : Scope := fnScope takeSt
def tapeSt : Stmt := at10 PySem.Challenge.pw_je0021_01.main.body
def tapeB : List Stmt := fnBody tapeSt
def tapeScope : Scope := fnScope tapeSt

set_option maxRecDepth 100000 in
set_option maxHeartbeats 8000000 in
theorem take_ok {prog : Program} {w : World} {dp un : Nat} {fr : Option (List Env)} {gd : Option (List Code)} {g : Heap} {L f : Addr} {cd : Value} {s : Shared} {news : List (Addr × Obj)} {K : Frag} {Q : Flow → Shared → Prop}
  {p : Program} {loose : List Str} {mean : ExcName → Option Value} {mg mb : Str → Option Value}
  {TP CL : Addr} {at_ most : Int} {t t2 : Tok} {c c2 : Nat} {vs : List Value} {ns : List Int}
  (X : K.In g) (T : Top p loose mean mg mb g) (N : News g L s.heap news)
  (F : Fr g L s.heap (fun y => List.lookup y (List.reverse [(Str.ofString "tape", Value.ref TP), (Str.ofString "most", Value.int most t2)])))
  (hlen : nsIn K mainGlobals (Str.ofString "len") = some none)
  (hT : (TP, listOf [Value.ref CL, Value.int at_ t].toArray c) ∈ news) (hC : (CL, listOf vs.toArray c2) ∈ news) (hI : IntsAre vs ns) (h0 : 0 < vs.length) (h1 : vs.length ≤ 100) (ha : 0 ≤ at_) (hb : at_ ≤ 1000) (hm : 0 < most) (hm2 : most ≤ 100)
  (hne : CL ≠ TP)
  (hQ : ∀ v t t' h' tk m' news', 0 ≤ v → v < most → Fr g L h' m' → News g L h' news' → (TP, listOf [Value.ref CL, Value.int (at_ + 1) t'].toArray c) ∈ news' → (∀ p ∈ news, p.1 ≠ TP → p ∈ news') → Q (.ret (.int v t)) { s with heap := h', toks := tk }) :
  wpAny (model prog w) (Ar dp un fr gd) (execs takeB (envOf (Str.ofString "_law_take") takeScope L f cd)) Q (fun _ _ => False) s := by
  have e : takeScope = fnScope takeSt := rfl
  dsimp only [takeSt, fnScope, at11, PySem.Challenge.pw_je0021_01] at e
  rw [e]
  clear e
  dsimp only [takeB, takeSt, fnBody, at11, PySem.Challenge.pw_je0021_01]
  k_steps
  exact hQ _ _ _ _ _ _ _ (by apply Int.fmod_nonneg_of_pos; omega) (by apply Int.fmod_lt_of_pos; omega) (by assumption) (by assumption) (by assumption) (by assumption)
-- part WTape
end
set_option maxRecDepth 100000 in
set_option maxHeartbeats 8000000 in
theorem tape_ok {prog : Program} {w : World} {dp un : Nat} {fr : Option (List Env)} {gd : Option (List Code)} {g : Heap} {L f : Addr} {cd : Value} {s : Shared} {news : List (Addr × Obj)} {K : Frag} {Q : Flow → Shared → Prop}
  {p : Program} {loose : List Str} {mean : ExcName → Option Value} {mg mb : Str → Option Value}
  {S : Addr} {vs : List Value} {ns : List Int}
  (X : K.In g) (T : Top p loose mean mg mb g) (N : News g L s.heap news)
  (F : Fr g L s.heap (fun y => List.lookup y (List.reverse [(Str.ofString "script", Value.ref S)])))
  (habs : nsIn K mainGlobals (Str.ofString "abs") = some none) (hS : g.IsList S vs.toArray) (hI : IntsAre vs ns) (hl : ns.length ≤ 63)
  (hQ : ∀ TP CL t c c2 ws ms h' tk m' news', IntsAre ws ms → 0 < ws.length → ws.length ≤ 100 → CL ≠ TP → Fr g L h' m' → News g L h' news' → (TP, listOf [Value.ref CL, Value.int 0 t].toArray c) ∈ news' → (CL, listOf ws.toArray c2) ∈ news' → (∀ p ∈ news, p.1 < TP) → (∀ p ∈ news, p.1 < CL) → (∀ p ∈ news, p ∈ news') → Q (.ret (.ref TP)) { s with heap := h', toks := tk }) :
  wpAny (model prog w) (Ar dp un fr gd) (execs tapeB (envOf (Str.ofString "_law_tape") tapeScope L f cd)) Q (fun _ _ => False) s := by
  have e : tapeScope = fnScope tapeSt := rfl
  dsimp only [tapeSt, fnScope, at10, PySem.Challenge.pw_je0021_01] at e
  rw [e]
  clear e
  dsimp only [tapeB, tapeSt, fnBody, at10, PySem.Challenge.pw_je0021_01]
  k_steps
  refine LCg.ListComp_U (F₀ := by assumption) (by rfl) (by decide) (by rfl) (by decide) (by rfl) ?_
  k_steps
  rename Fr _ _ _ _ => F1
  rename News _ _ _ _ => N1
  rename IntsAre _ (List.take 24 ns) => hI1
  rename_i D1 ws1 h1 l1 hC1 hL1
  have hn1 : ws1.length ≤ 24 := by rw [hI1.length]; omega
  have hD1 : ∀ p ∈ news, p.1 < D1 := l1

  refine LCg.CompSrc.ledger (by rfl) F1 N1 (.head _) ?_ ?_
  · rw [List.size_toArray]; exact Nat.le_trans (m := 1000) (by omega) (by decide)
  intro g'
  refine comp_inv (fun i ys nw => (∃ ms, IntsAre ys ms) ∧ ys.length = i ∧ nw = (D1, listOf ws1.toArray 0) :: news) ⟨⟨[], .nil⟩, rfl, rfl⟩ ?_ ?_
  · rintro i v I oI C oC D m₂ ys nw h tk E' hi hv ⟨⟨ms, hms⟩, hlen, rfl⟩ hC hx F2 N2 off ne
    obtain ⟨x, t, e⟩ := ints_at hI1 i (by simpa using hi)
    have hv' : v = .int x t := by
      have : ws1[i]? = some v := by simpa using hv
      rw [e] at this
      exact (Option.some.inj this).symm
    subst hv'
    k_steps
    exact LCg.CompEnd.intro (by assumption) (by assumption) _ (fun p hp => hp) off (.inr ⟨_, .head _, rfl, _, rfl⟩) ⟨⟨_, ints_snoc hms _ _⟩, by simp [hlen], rfl⟩
  · rintro ys nw ⟨⟨ms, hms⟩, hlen, rfl⟩ D h tk F2 N2 o1
    have hlen2 : ys.length ≤ 24 := by simp at hlen; omega
    k_steps
    rename Fr _ _ _ _ => F3
    rename News _ _ _ _ => N3
    refine kmk_add_lit F3 N3 (News.isList N3 (.tail _ (.head _))) (News.isList N3 (.head _)) rfl ?_ ?_
    · intro D' h' F4 N4 l4
      have l5 : ∀ p ∈ news, p.1 < D' := fun p hp => l4 p (.tail _ (.tail _ (.tail _ hp)))
      k_steps
      rename Fr _ _ _ _ => F5
      rename News _ _ _ _ => N5
      rename ∀ p : Addr × Obj, p ∈ _ :: _ → p.1 < _ => l6
      refine hQ _ D' _ _ _ _ _ _ _ _ _ (ints_append hms (.cons _ _ (.cons _ _ (.cons _ _ .nil)))) (by simp) (by simp; omega) (Nat.ne_of_lt (l6 _ (.head _))) F5 N5 (.head _) (.tail _ (.head _)) (fun p hp => l6 p (.tail _ (.tail _ (.tail _ (.tail _ hp))))) l5 (fun p hp => .tail _ (.tail _ (.tail _ (.tail _ (.tail _ hp)))))
    · exact Nat.le_trans (m := 1000) (by simp; omega) (by decide)
-- part WBest
section
local macro_rules | `(tactic| k_units) => `(tactic| (have hcL9 := cLine_is; (try dsimp only [Ar, Around.deeper]); omega))
local macro_rules | `(tactic| k_tabat) => `(tactic| first | assumption | (refine' TabIn.cons ?_; k_tabat))
local macro_rules | `(tactic| walk_at "subscriptTail") => `(tactic| (k_here; (with_reducible show wpAny _ _ (subscriptTail _ _ (Value.ref _) (Value.ref _)) _ _ _); (refine' tab_item ?tz1 ?tz2 ?tz3 ?tz4 ?tz5 ?_; (case tz1 => k_units); (case tz2 => assumption); (case tz4 => k_mem); (case tz5 => assumption); (case tz3 => k_tabat)); intro _))
local macro_rules | `(tactic| k_upd) => `(tactic| first | (refine' Upd.head ?a; (case a => assumption)) | (refine' Upd.tail ?a ?b; (case a => k_ne); (case b => k_upd)))
local macro_rules | `(tactic| walk_at "call builtin:list.append") => `(tactic| (k_here; (with_reducible refine g_app ?_); k_dflt (refine' append_K ?k1 ?k2 ?k3 ?_ ?z; (case k1 => k_asm); (case k2 => k_asm); (case k3 => k_upd); (case z => size_fits); k_whole); intro h' F' N'; (try k_sweep)))
section
local macro_rules | `(tactic| walk_at "subscriptTail") => `(tactic| (k_here; (with_reducible refine g_sub ?_); (with_unfolding_all refine list_back (by assumption) (by k_mem) (by omega) (by omega) (by omega) (by assumption) ?_)))
local macro_rules | `(tactic| walk_at "subscriptTail") => `(tactic| (k_here; (with_reducible refine g_sub ?_); (with_unfolding_all refine list_item (by assumption) (by k_mem) (by omega) (by omega) (by assumption) ?_)))
local macro_rules | `(tactic| walk_at "subscriptTail") => `(tactic| (k_here; (with_reducible refine g_sub ?_); (with_unfolding_all refine list_item (by assumption) (by k_mem) (by decide) (by decide) (by assumption) ?_)))
local macro_rules | `(tactic| walk_at "subscriptTail") => `(tactic| (k_here; (with_reducible refine g_sub ?_); (with_unfolding_all refine tup_item (by assumption) (by k_mem) (by decide) (by decide) (by rfl) (by rfl) ?_)))
local macro_rules | `(tactic| walk_at "call builtin:len") => `(tactic| (k_here; (with_reducible refine g_len ?_); (refine KM.len_K (n := _) (by assumption) (by k_mem) (List.size_toArray ..) (by omega) ?_)))
local macro_rules | `(tactic| walk_at "ite") => `(tactic| (k_here; (with_reducible show ite _ (wpAny _ _ (eval (Expr.Constant _ _ _) _) _ _ _) (wpAny _ _ (eval (Expr.Name _ _) _) _ _ _)); (try dsimp only); k_dflt (refine' join_ite (a := 0) (fun q hq => wpAny_Constant_int (hq _ _)) (fun q hq => wpAny_Name (wpAny_loadName_local (by rfl) (by rfl) (Fr.ns (by assumption)) (by rfl) (hq _ _)) (by decide)) ?_); intro _ _; (try dsimp only)))

def at13 : List Stmt → Stmt
  | _ :: _ :: _ :: _ :: _ :: _ :: _ :: _ :: _ :: _ :: _ :: _ :: _ :: x :: _ => x
  | _ => .Pass ⟨0,0,0,0⟩
def lawSt : Stmt := at13 PySem.Challenge.pw_je0021_01.main.body
def lawB : List Stmt := fnBody lawSt
def lawScope : Scope := fnScope lawSt
abbrev lawEnv (L f : Addr) (cd : Value) : Env := envOfC (Str.ofString "law") lawScope L f cd
def lawForSt : Stmt := at10 lawB
def lawForB : List Stmt := forBody2 lawForSt
def bestSt : Stmt := at5 lawForB
def WaysAre (news : List (Addr × Obj)) (its : List Value) (ws : List (Nat × Nat × Int)) : Prop :=
  its.length = ws.length ∧ ∀ (q : Nat) (p : Nat × Nat × Int), ws[q]? = some p → ∃ (T P : Addr) (t u u' : Tok), its[q]? = some (Value.ref T) ∧ (T, ({ cls := .type "tuple", data := .seq [Value.ref P, Value.int p.2.2 t].toArray } : Obj)) ∈ news ∧ (P, ({ cls := .type "tuple", data := .seq [Value.int (p.1 : Int) u, Value.int (p.2.1 : Int) u'].toArray } : Obj)) ∈ news
def wayV (v : Nat → Nat → Int) (p : Nat × Nat × Int) : Int := v p.1 p.2.1 + p.2.2

set_option maxRecDepth 100000 in
set_option maxHeartbeats 8000000 in
theorem best_ok {prog : Program} {w : World} {dp un : Nat} {fr : Option (List Env)} {gd : Option (List Code)} {g : Heap} {L f : Addr} {cd : Value} {s : Shared} {news : List (Addr × Obj)} {K : Frag} {Q : Flow → Shared → Prop}
  {p : Program} {loose : List Str} {mean : ExcName → Option Value} {mg mb : Str → Option Value} {m : Str → Option Value}
  {its : List Value} {ws : List (Nat × Nat × Int)} {c : Nat} {WA d : Addr} {xs : TXs} {v : Nat → Nat → Int} {a b n1 n2 : Nat} {oT oI oJ : Obj} {tI tJ : Tok}
  (X : K.In g) (T : Top p loose mean mg mb g) (N : News g L s.heap news) (F : Fr g L s.heap m) (hu : un ≤ 100)
  (hW : m (Str.ofString "ways") = some (.ref WA)) (hWA : (WA, listOf its.toArray c) ∈ news) (hws : WaysAre news its ws) (hsz : its.length ≤ 10)
  (TI : TabIn prog w news d xs) (hV : ∀ a b, a ≤ n1 → b ≤ n2 → HasV xs v a b) (ha : a ≤ n1) (hb : b ≤ n2) (hwb : ∀ p ∈ ws, p.1 ≤ n1 ∧ p.2.1 ≤ n2)
  (hmT : (L + 1 + 1, oT) ∈ news) (hdT : oT.data = .cell (some (.ref d))) (hmI : (L + 1 + 1 + 1, oI) ∈ news) (hdI : oI.data = .cell (some (.int (a : Int) tI))) (hmJ : (L + 1 + 1 + 1 + 1, oJ) ∈ news) (hdJ : oJ.data = .cell (some (.int (b : Int) tJ)))
  (hQ : ∀ BA ys h' tk, Fr g L h' (fun y => if y = Str.ofString "best" then some (.ref BA) else m y) → News g L h' ((BA, LCg.lst ys) :: news) → (∀ p ∈ news, p.1 ≠ BA) → ((∀ p ∈ ws, wayV v p ≠ v a b) ∨ ∃ (q : Nat) (p : Nat × Nat × Int), ws[q]? = some p ∧ wayV v p = v a b ∧ (∀ q' p', q' < q → ws[q']? = some p' → wayV v p' ≠ v a b) ∧ ys[0]? = its[q]?) → Q .next { s with heap := h', toks := tk }) :
  wpAny (model prog w) (Ar dp un fr gd) (exec bestSt (lawEnv L f cd)) Q (fun _ _ => False) s := by
  have e : lawScope = fnScope lawSt := rfl
  dsimp only [lawEnv]
  dsimp only [lawSt, fnScope, at13, PySem.Challenge.pw_je0021_01] at e
  rw [e]
  clear e
  dsimp only [bestSt, lawForB, lawForSt, lawB, lawSt, fnBody, forBody2, at5, at10, at13, PySem.Challenge.pw_je0021_01]
  refine LCt.Assign_ListComp_T (F₀ := F) (by rfl) (by with_unfolding_all rfl) (by with_unfolding_all rfl) (by decide) (by rfl) (by decide) (by rfl) (by rfl) (by rfl) ?_
  refine wpAny_Name (wpAny_loadName_local (by rfl) (by rfl) F.ns hW ?_) (by decide)
  refine LCt.CompSrcT.ledger (by rfl) F N hWA ?_ ?_
  · rw [List.size_toArray]; exact Nat.le_trans (m := 1000) (by omega) (by decide)
  intro g'
  refine compT_inv (fun i ys nw => nw = news ∧ ((ys = [] ∧ ∀ q' p', q' < i → ws[q']? = some p' → wayV v p' ≠ v a b) ∨ ∃ (q : Nat) (p : Nat × Nat × Int), ws[q]? = some p ∧ wayV v p = v a b ∧ (∀ q' p', q' < q → ws[q']? = some p' → wayV v p' ≠ v a b) ∧ ys[0]? = its[q]?)) ⟨rfl, .inl ⟨rfl, fun q' p' h => by omega⟩⟩ ?_ ?_
  · rintro i w0 I oI' C oC D m₂ ys nw h tk E' hi hv ⟨rfl, hJ⟩ hC hx F2 N2 off ne
    have hi' : i < its.length := by simpa using hi
    have hiw : i < ws.length := by rw [← hws.1]; exact hi'
    obtain ⟨T0, P0, t0, u0, u0', e0, m0, m1⟩ := hws.2 i ws[i] (List.getElem?_eq_getElem hiw)
    have hv' : w0 = .ref T0 := by
      have : its[i]? = some w0 := by simpa using hv
      rw [e0] at this
      exact (Option.some.inj this).symm
    subst hv'
    generalize hp0 : ws[i] = p0 at *
    obtain ⟨px, py, pc⟩ := p0
    have hin := hwb _ (hp0 ▸ List.getElem_mem hiw)
    obtain ⟨c1, t1, hA⟩ := hV px py hin.1 hin.2
    obtain ⟨c2, t2, hB⟩ := hV a b ha hb
    have TI2 : TabIn prog w ((I, oI') :: (C, oC) :: (D, LCg.lst ys) :: nw) d xs := TI.cons.cons.cons
    have m0' : (T0, ({ cls := .type "tuple", data := .seq [Value.ref P0, Value.int pc t0].toArray } : Obj)) ∈ ((I, oI') :: (C, oC) :: (D, LCg.lst ys) :: nw) := .tail _ (.tail _ (.tail _ m0))
    have m1' : (P0, ({ cls := .type "tuple", data := .seq [Value.int (px : Int) u0, Value.int (py : Int) u0'].toArray } : Obj)) ∈ ((I, oI') :: (C, oC) :: (D, LCg.lst ys) :: nw) := .tail _ (.tail _ (.tail _ m1))
    have hq0 : ws[i]? = some (px, py, pc) := by rw [List.getElem?_eq_getElem hiw, hp0]
    k_steps
    · rename v px py + pc = v a b => hok
      refine LCg.CompEnd.intro (by assumption) (by assumption) nw (fun p hp => .tail _ hp) off (.inr ⟨_, hWA, rfl, _, rfl⟩) ⟨rfl, .inr ?_⟩
      rcases hJ with ⟨rfl, hn⟩ | ⟨q, p', h1, h2, h3, h4⟩
      · exact ⟨i, _, hq0, hok, hn, by rw [e0]; rfl⟩
      · refine ⟨q, p', h1, h2, h3, ?_⟩
        have hq : q < its.length := by rw [hws.1]; exact (List.getElem?_eq_some_iff.mp h1).1
        rw [List.getElem?_eq_getElem hq] at h4
        have := (List.getElem?_eq_some_iff.mp h4).1
        rw [List.getElem?_append_left this, h4, List.getElem?_eq_getElem hq]
    · rename v px py + pc ≠ v a b => hok
      refine LCg.CompEnd.intro (by assumption) (by assumption) nw (fun p hp => .tail _ hp) off (.inr ⟨_, hWA, rfl, _, rfl⟩) ⟨rfl, ?_⟩
      rcases hJ with ⟨rfl, hn⟩ | hJ
      · refine .inl ⟨rfl, fun q' p' h1 h2 => ?_⟩
        by_cases e : q' = i
        · subst e
          rw [hq0] at h2
          cases h2
          exact hok
        · exact hn q' p' (by omega) h2
      · exact .inr hJ
  · rintro ys nw ⟨rfl, hJ⟩ D h tk F2 N2 o1
    refine hQ D ys h tk F2 N2 ?_ ?_
    · have key : ∀ l : List (Addr × Obj), LCg.Off1 D l → ∀ p ∈ l, p.1 ≠ D := by
        intro l
        induction l with
        | nil => intro _ p hp; cases hp
        | cons x r ih =>
          intro ho p hp
          rcases List.mem_cons.mp hp with rfl | hp
          · exact ho.1
          · exact ih ho.2 p hp
      exact key _ o1
    · rcases hJ with ⟨_, hn⟩ | hJ
      · refine .inl fun p hp => ?_
        obtain ⟨q, hq⟩ := List.mem_iff_getElem?.mp hp
        refine hn q p ?_ hq
        have := (List.getElem?_eq_some_iff.mp hq).1
        simp [hws.1, this]
      · exact .inr hJ
-- part WFirst
def subC (x1 x2 : Str) (sc : Int) (a b : Nat) : Int := if (Txt.item x1 ((a : Int) - 1) == Txt.item x2 ((b : Int) - 1)) = true then 0 else sc
def waysL (x1 x2 : Str) (sc : Int) (a b : Nat) : List (Nat × Nat × Int) :=
  if a = 0 then [(a, b - 1, 1)] else if b = 0 then [(a - 1, b, 1)] else [(a - 1, b - 1, subC x1 x2 sc a b), (a - 1, b, 1), (a, b - 1, 1)]
def First (v : Nat → Nat → Int) (ws : List (Nat × Nat × Int)) (x : Int) (its ys : List Value) : Prop :=
  (∀ p ∈ ws, wayV v p ≠ x) ∨ ∃ (q : Nat) (p : Nat × Nat × Int), ws[q]? = some p ∧ wayV v p = x ∧ (∀ q' p', q' < q → ws[q']? = some p' → wayV v p' ≠ x) ∧ ys[0]? = its[q]?
theorem pred1 {b : Nat} (h : b ≠ 0) : ((b - 1 : Nat) : Int) + 1 = b := by
  show ((b - 1 + 1 : Nat) : Int) = b
  rw [Nat.sub_add_cancel (Nat.pos_of_ne_zero h)]
section
variable {m u l d : Int}
theorem w_no (h : m = min (min u l) d) (a : d ≠ m) (b : u ≠ m) (c : l ≠ m) : False := by omega
theorem w_d (h : m = min (min u l) d) (a : d = m) : d ≤ u ∧ d ≤ l := by omega
theorem w_nd (h : m = min (min u l) d) (a : d ≠ m) : ¬ (d ≤ u ∧ d ≤ l) := by omega
theorem w_u (h : m = min (min u l) d) (a : u = m) : u ≤ l := by omega
theorem w_nu (h : m = min (min u l) d) (a : d ≠ m) (b : u ≠ m) : ¬ u ≤ l := by omega
theorem w_eqd (h : m = min (min u l) d) (a : d ≤ u ∧ d ≤ l) : d = m := by omega
theorem w_equ (h : m = min (min u l) d) (a : ¬ (d ≤ u ∧ d ≤ l)) (b : u ≤ l) : u = m := by omega
theorem w_eql (h : m = min (min u l) d) (a : ¬ (d ≤ u ∧ d ≤ l)) (b : ¬ u ≤ l) : l = m := by omega
end
theorem rev_r {n r : Nat} (h : r < n) : n - 1 - (n - 1 - r) = r := Nat.sub_sub_self (Nat.le_sub_one_of_lt h)
theorem rev_l {n r : Nat} (h : r < n) : n - 1 - r < n := Nat.lt_of_le_of_lt (Nat.sub_le _ _) (Nat.pred_lt (Nat.ne_of_gt (Nat.lt_of_le_of_lt (Nat.zero_le _) h)))
theorem rev_i {n i : Nat} (h : i < n - 1) : (((i + 1 : Nat) : Int)).toNat = n - 1 - (n - 1 - (i + 1)) := (Int.toNat_natCast _).trans (Nat.sub_sub_self h).symm
theorem rev_i1 {n i : Nat} (h : i < n - 1) : (((i + 1 : Nat) : Int) - 1).toNat = n - 1 - (n - 1 - (i + 1) + 1) := by
  rw [toNat1, Nat.add_sub_cancel, Nat.sub_add_eq (n - 1) i 1, Nat.sub_add_cancel (Nat.sub_pos_of_lt h), Nat.sub_sub_self (Nat.le_of_lt h)]
theorem first_way {x1 x2 : Str} {sc : Int} {v : Nat → Nat → Int} {n1 n2 a b : Nat} {its ys : List Value} (hC : ∀ a b, a ≤ n1 → b ≤ n2 → LawCell x1 x2 sc false v a b) (ha : a ≤ n1) (hb : b ≤ n2) (h0 : a ≠ 0 ∨ b ≠ 0)
    (h : First v (waysL x1 x2 sc a b) (v a b) its ys) : ∃ (q : Nat) (p : Nat × Nat × Int), (waysL x1 x2 sc a b)[q]? = some p ∧ ys[0]? = its[q]? ∧ (p.1, p.2.1) = prevOf x1 x2 sc v a b ∧ p.2.2 = costP x1 x2 sc v a b ∧ v p.1 p.2.1 + p.2.2 = v a b := by
  rcases Nat.eq_zero_or_pos a with ra | ra
  · subst ra
    have hb0 : b ≠ 0 := h0.resolve_left (fun h => h rfl)
    have e1 := law_b hC b hb
    have e2 := law_b hC (b - 1) (Nat.le_trans (Nat.sub_le ..) hb)
    have ew : waysL x1 x2 sc 0 b = [(0, b - 1, 1)] := by unfold waysL; rw [if_pos rfl]
    rw [ew] at h ⊢
    rcases h with h | ⟨q, p, h1, h2, h3, h4⟩
    · exact absurd (by show v 0 (b - 1) + 1 = v 0 b; rw [e1, e2]; exact pred1 hb0) (h _ (.head _))
    · rcases q with _ | q
      · cases h1
        exact ⟨0, _, rfl, h4, by unfold prevOf; rw [if_pos rfl], by unfold costP; rw [if_pos (.inl rfl)], h2⟩
      · simp at h1
  · rcases Nat.eq_zero_or_pos b with rb | rb
    · subst rb
      have e1 := law_a hC a ha
      have e2 := law_a hC (a - 1) (Nat.le_trans (Nat.sub_le ..) ha)
      have ew : waysL x1 x2 sc a 0 = [(a - 1, 0, 1)] := by unfold waysL; rw [if_neg (Nat.ne_of_gt ra), if_pos rfl]
      rw [ew] at h ⊢
      rcases h with h | ⟨q, p, h1, h2, h3, h4⟩
      · exact absurd (by show v (a - 1) 0 + 1 = v a 0; rw [e1, e2]; exact pred1 (Nat.ne_of_gt ra)) (h _ (.head _))
      · rcases q with _ | q
        · cases h1
          exact ⟨0, _, rfl, h4, by unfold prevOf; rw [if_neg (Nat.ne_of_gt ra), if_pos rfl], by unfold costP; rw [if_pos (.inr rfl)], h2⟩
        · simp at h1
    · have em := cell_min hC ha hb ra rb
      have ew : waysL x1 x2 sc a b = [(a - 1, b - 1, subC x1 x2 sc a b), (a - 1, b, 1), (a, b - 1, 1)] := by unfold waysL; rw [if_neg (Nat.ne_of_gt ra), if_neg (Nat.ne_of_gt rb)]
      have ed : wayV v (a - 1, b - 1, subC x1 x2 sc a b) = stepD x1 x2 sc v a b := rfl
      have eu : wayV v (a - 1, b, 1) = v (a - 1) b + 1 := rfl
      have el : wayV v (a, b - 1, 1) = v a (b - 1) + 1 := rfl
      have ep : prevOf x1 x2 sc v a b = if stepD x1 x2 sc v a b ≤ v (a - 1) b + 1 ∧ stepD x1 x2 sc v a b ≤ v a (b - 1) + 1 then (a - 1, b - 1)
          else if v (a - 1) b + 1 ≤ v a (b - 1) + 1 then (a - 1, b) else (a, b - 1) := by
        unfold prevOf
        rw [if_neg (Nat.ne_of_gt ra), if_neg (Nat.ne_of_gt rb)]
      have ec : costP x1 x2 sc v a b = if stepD x1 x2 sc v a b ≤ v (a - 1) b + 1 ∧ stepD x1 x2 sc v a b ≤ v a (b - 1) + 1 then subC x1 x2 sc a b else 1 := by
        unfold costP
        rw [if_neg (fun h => h.elim (Nat.ne_of_gt ra) (Nat.ne_of_gt rb))]; rfl
      rw [ew] at h ⊢
      rw [ep, ec]
      rcases h with h | ⟨q, p, h1, h2, h3, h4⟩
      · have n1 := h _ (.head _)
        have n2 := h _ (.tail _ (.head _))
        have n3 := h _ (.tail _ (.tail _ (.head _)))
        rw [ed] at n1
        rw [eu] at n2
        rw [el] at n3
        exact (w_no em n1 n2 n3).elim
      · rcases q with _ | _ | _ | q
        · cases h1
          have z := h2
          rw [ed] at z
          exact ⟨0, _, rfl, h4, by rw [if_pos (w_d em z)], by rw [if_pos (w_d em z)], h2⟩
        · cases h1
          have z := h2
          have n1 := h3 0 _ (by decide) rfl
          rw [ed] at n1
          rw [eu] at z
          exact ⟨1, _, rfl, h4, by rw [if_neg (w_nd em n1), if_pos (w_u em z)], by rw [if_neg (w_nd em n1)], h2⟩
        · cases h1
          have z := h2
          have n1 := h3 0 _ (by decide) rfl
          have n2 := h3 1 _ (by decide) rfl
          rw [ed] at n1
          rw [eu] at n2
          rw [el] at z
          exact ⟨2, _, rfl, h4, by rw [if_neg (w_nd em n1), if_neg (w_nu em n1 n2)], by rw [if_neg (w_nd em n1)], h2⟩
        · simp at h1
theorem prev_cost {x1 x2 : Str} {sc : Int} {v : Nat → Nat → Int} {n1 n2 a b : Nat} {q : Nat × Nat} (hC : ∀ a b, a ≤ n1 → b ≤ n2 → LawCell x1 x2 sc false v a b) (ha : a ≤ n1) (hb : b ≤ n2) (h0 : a ≠ 0 ∨ b ≠ 0) (hq : q = prevOf x1 x2 sc v a b) :
    v q.1 q.2 + costP x1 x2 sc v a b = v a b := by
  rcases Nat.eq_zero_or_pos a with ra | ra
  · subst ra
    have e1 := law_b hC b hb
    have e2 := law_b hC (b - 1) (Nat.le_trans (Nat.sub_le ..) hb)
    have ep : prevOf x1 x2 sc v 0 b = (0, b - 1) := by unfold prevOf; rw [if_pos rfl]
    have ec : costP x1 x2 sc v 0 b = 1 := by unfold costP; rw [if_pos (.inl rfl)]
    rw [hq, ep, ec]
    show v 0 (b - 1) + 1 = v 0 b
    rw [e1, e2]; exact pred1 (h0.resolve_left (fun h => h rfl))
  · rcases Nat.eq_zero_or_pos b with rb | rb
    · subst rb
      have e1 := law_a hC a ha
      have e2 := law_a hC (a - 1) (Nat.le_trans (Nat.sub_le ..) ha)
      have ep : prevOf x1 x2 sc v a 0 = (a - 1, 0) := by unfold prevOf; rw [if_neg (Nat.ne_of_gt ra), if_pos rfl]
      have ec : costP x1 x2 sc v a 0 = 1 := by unfold costP; rw [if_pos (.inr rfl)]
      rw [hq, ep, ec]
      show v (a - 1) 0 + 1 = v a 0
      rw [e1, e2]; exact pred1 (Nat.ne_of_gt ra)
    · have em := cell_min hC ha hb ra rb
      have ep : prevOf x1 x2 sc v a b = if stepD x1 x2 sc v a b ≤ v (a - 1) b + 1 ∧ stepD x1 x2 sc v a b ≤ v a (b - 1) + 1 then (a - 1, b - 1)
          else if v (a - 1) b + 1 ≤ v a (b - 1) + 1 then (a - 1, b) else (a, b - 1) := by
        unfold prevOf
        rw [if_neg (Nat.ne_of_gt ra), if_neg (Nat.ne_of_gt rb)]
      have ec : costP x1 x2 sc v a b = if stepD x1 x2 sc v a b ≤ v (a - 1) b + 1 ∧ stepD x1 x2 sc v a b ≤ v a (b - 1) + 1 then subC x1 x2 sc a b else 1 := by
        unfold costP
        rw [if_neg (fun h => h.elim (Nat.ne_of_gt ra) (Nat.ne_of_gt rb))]; rfl
      have ed : stepD x1 x2 sc v a b = v (a - 1) (b - 1) + subC x1 x2 sc a b := rfl
      rw [hq, ep, ec]
      split
      · rename_i c1
        exact w_eqd em c1
      · rename_i c1
        split
        · rename_i c2
          exact w_equ em c1 c2
        · rename_i c2
          exact w_eql em c1 c2
theorem path_at {news : List (Addr × Obj)} {its : List Value} {pts : List (Nat × Nat)} (h : TupsAre news its pts) (r : Nat) (p : Nat × Nat) (hr : pts[r]? = some p) :
    ∃ (a : Addr) (t t' : Tok), its.reverse[pts.length - 1 - r]? = some (Value.ref a) ∧ (a, ({ cls := .type "tuple", data := .seq [Value.int (p.1 : Int) t, Value.int (p.2 : Int) t'].toArray } : Obj)) ∈ news := by
  obtain ⟨a, t, t', e, m⟩ := h.2 r p hr
  have hl := (List.getElem?_eq_some_iff.mp hr).1
  have hl2 := h.1
  refine ⟨a, t, t', ?_, m⟩
  rw [List.getElem?_reverse (by rw [hl2]; exact rev_l hl), hl2, rev_r hl]
  exact e
theorem TabIn.mono2 {prog : Program} {w : World} {news news' : List (Addr × Obj)} {d : Addr} {xs : TXs} (T : TabIn prog w news d xs) (h : ∀ p ∈ news, (p.1 = d ∨ ∃ x ∈ xs, p.1 = x.2.1) → p ∈ news') : TabIn prog w news' d xs := by
  obtain ⟨o, es, ep, hm, hc, hd, he, hn, hk⟩ := T
  exact ⟨o, es, ep, h _ hm (.inl rfl), hc, hd, he, hn, fun x hx => let ⟨ok, hmk, t⟩ := hk x hx; ⟨ok, h _ hmk (.inr ⟨x, hx, rfl⟩), t⟩⟩
-- part WTurn
theorem cell_set {M : Model} {A : Around} {E : Value → Shared → Prop} {s : Shared} {h₀ : Heap} {L a : Addr} {name : Str} {scope : Scope} {cd : Value} {m : Str → Option Value} {news : List (Addr × Obj)} {x : Str} {c : Addr} {o : Obj} {v₀ : Option Value} {v : Value} {Q : Unit → Shared → Prop} (F : Fr h₀ L s.heap m) (N : News h₀ L s.heap news)
    (hc : (cellsFrom (L + 1) scope.names []).lookup x = some c) (hm : (c, o) ∈ news) (hd : o.data = .cell v₀)
    (h : ∀ h' news' o', Fr h₀ L h' m → News h₀ L h' news' → (c, o') ∈ news' → o'.data = .cell (some v) → (∀ p ∈ news, p.1 ≠ c → p ∈ news') → Q () { s with heap := h' })
    (hk : scope.kind = .function := by rfl) (hl : (envOfC name scope L a cd).kindOf x = some .cell := by rfl) :
    wpAny M A (storeName (envOfC name scope L a cd) x v) Q E s := by
  refine wpAny_storeName_cell hk hl hc ⟨o, (N _ hm).1, hd⟩ fun h' hv hs => ?_
  obtain ⟨o', ho', hd'⟩ := hv
  refine h h' (news.map fun p => if p.1 = c then (c, o') else p) o' (F.change hs (N _ hm).2.1 (N _ hm).2.2) (N.replace hs ho') ?_ hd' ?_
  · exact List.mem_map.mpr ⟨_, hm, by simp⟩
  · exact fun p hp hne => List.mem_map.mpr ⟨p, hp, by simp [hne]⟩


def ijSt : Stmt := at0 lawForB
  where at0 : List Stmt → Stmt
  | x :: _ => x
  | _ => .Pass ⟨0,0,0,0⟩
def lawForT : List Stmt := lawForB.drop 1
set_option maxRecDepth 100000 in
set_option maxHeartbeats 8000000 in
theorem ij_ok {prog : Program} {w : World} {dp un : Nat} {fr : Option (List Env)} {gd : Option (List Code)} {g : Heap} {L f : Addr} {cd : Value} {s : Shared} {news : List (Addr × Obj)} {K : Frag} {Q : Flow → Shared → Prop}
  {p : Program} {loose : List Str} {mean : ExcName → Option Value} {mg mb : Str → Option Value} {m0 : Str → Option Value}
  {ps : List Value} {c : Nat} {PL Tk : Addr} {k a b : Nat} {tk tI tJ : Tok} {oI oJ : Obj} {vI vJ : Option Value}
  (X : K.In g) (T : Top p loose mean mg mb g) (N : News g L s.heap news) (F : Fr g L s.heap (fun y => if y = Str.ofString "k" then some (.int (k : Int) tk) else if y = Str.ofString "path" then some (.ref PL) else m0 y))
  (hPL : (PL, listOf ps.toArray c) ∈ news) (hk : ps[(k : Int).toNat]? = some (.ref Tk)) (hkl : k ≤ 1000) (hTk : (Tk, ({ cls := .type "tuple", data := .seq [Value.int (a : Int) tI, Value.int (b : Int) tJ].toArray } : Obj)) ∈ news)
  (hmI : (L + 1 + 1 + 1, oI) ∈ news) (hdI : oI.data = .cell vI) (hmJ : (L + 1 + 1 + 1 + 1, oJ) ∈ news) (hdJ : oJ.data = .cell vJ)
  (hQ : ∀ h' tk' news' oI' oJ', Fr g L h' (fun y => if y = Str.ofString "k" then some (.int (k : Int) tk) else if y = Str.ofString "path" then some (.ref PL) else m0 y) → News g L h' news' → (L + 1 + 1 + 1, oI') ∈ news' → oI'.data = .cell (some (.int (a : Int) tI)) → (L + 1 + 1 + 1 + 1, oJ') ∈ news' → oJ'.data = .cell (some (.int (b : Int) tJ)) → (∀ p ∈ news, p.1 ≠ L + 1 + 1 + 1 → p.1 ≠ L + 1 + 1 + 1 + 1 → p ∈ news') → Q .next { s with heap := h', toks := tk' }) :
  wpAny (model prog w) (Ar dp un fr gd) (exec ijSt (lawEnv L f cd)) Q (fun _ _ => False) s := by
  have e : lawScope = fnScope lawSt := rfl
  dsimp only [lawEnv]
  dsimp only [lawSt, fnScope, at13, PySem.Challenge.pw_je0021_01] at e
  rw [e]
  clear e
  dsimp only [ijSt, ijSt.at0, lawForB, lawForSt, lawB, lawSt, fnBody, forBody2, at5, at10, at13, PySem.Challenge.pw_je0021_01]
  k_steps
  refine cell_set (by assumption) (by assumption) (by rfl) (by assumption) hdI ?_ (by rfl) (by rfl)
  intro h1 news1 oI' F1 N1 hmI' hdI' hk1
  have hmJ1 : (L + 1 + 1 + 1 + 1, oJ) ∈ news1 := hk1 _ hmJ (Nat.ne_of_gt (Nat.lt_succ_self _))
  k_steps
  refine cell_set (by assumption) (by assumption) (by rfl) hmJ1 hdJ ?_ (by rfl) (by rfl)
  intro h2 news2 oJ' F2 N2 hmJ' hdJ' hk2
  k_steps
  exact hQ _ _ _ _ _ F2 N2 (hk2 _ hmI' (Nat.ne_of_lt (Nat.lt_succ_self _))) hdI' hmJ' hdJ' (fun p hp h1 h2 => hk2 p (hk1 p hp h1) h2)
-- part WTail

def lawForR : List Stmt := lawForB.drop 5
set_option maxRecDepth 100000 in
set_option maxHeartbeats 8000000 in
theorem tail_ok {prog : Program} {w : World} {dp un : Nat} {fr : Option (List Env)} {gd : Option (List Code)} {g : Heap} {L f : Addr} {cd : Value} {s : Shared} {news : List (Addr × Obj)} {K : Frag} {Q : Flow → Shared → Prop}
  {p : Program} {loose : List Str} {mean : ExcName → Option Value} {mg mb : Str → Option Value} {m0 : Str → Option Value}
  {x1 x2 : Str} {sc tot : Int} {v : Nat → Nat → Int} {xs : TXs}
  {ps its : List Value} {c cw : Nat} {PL Tp d WA : Addr} {k a b pa pb : Nat} {tk tI tJ tI' tJ' t4 : Tok} {oT oI oJ : Obj}
  (X : K.In g) (T : Top p loose mean mg mb g) (N : News g L s.heap news)
  (F : Fr g L s.heap (fun y => if y = Str.ofString "ways" then some (.ref WA) else if y = Str.ofString "k" then some (.int (k : Int) tk) else if y = Str.ofString "path" then some (.ref PL) else if y = Str.ofString "total" then some (.int tot t4) else m0 y))
  (hu : un ≤ 100)
  (hPL : (PL, listOf ps.toArray c) ∈ news) (hk0 : 1 ≤ k) (hkl : k ≤ 1000) (hk1 : ps[((k : Int) - 1).toNat]? = some (.ref Tp)) (hTp : (Tp, ({ cls := .type "tuple", data := .seq [Value.int (pa : Int) tI', Value.int (pb : Int) tJ'].toArray } : Obj)) ∈ news)
  (TI : TabIn prog w news d xs) (hV : ∀ a b, a ≤ x1.length → b ≤ x2.length → HasV xs v a b) (hC : ∀ a b, a ≤ x1.length → b ≤ x2.length → LawCell x1 x2 sc false v a b) (ha : a ≤ x1.length) (hb : b ≤ x2.length) (h0 : a ≠ 0 ∨ b ≠ 0) (hprev : (pa, pb) = prevOf x1 x2 sc v a b)
  (hWA : (WA, listOf its.toArray cw) ∈ news) (hws : WaysAre news its (waysL x1 x2 sc a b))
  (hmT : (L + 1 + 1, oT) ∈ news) (hdT : oT.data = .cell (some (.ref d))) (hmI : (L + 1 + 1 + 1, oI) ∈ news) (hdI : oI.data = .cell (some (.int (a : Int) tI))) (hmJ : (L + 1 + 1 + 1 + 1, oJ) ∈ news) (hdJ : oJ.data = .cell (some (.int (b : Int) tJ)))
  (hQ : ∀ h' tk' news' (m' : Str → Option Value) (t : Tok), Fr g L h' (fun y => if [Str.ofString "ways", Str.ofString "best", Str.ofString "total"].contains y then m' y else if y = Str.ofString "k" then some (.int (k : Int) tk) else if y = Str.ofString "path" then some (.ref PL) else if y = Str.ofString "total" then some (.int tot t4) else m0 y) → m' (Str.ofString "total") = some (.int (tot + costP x1 x2 sc v a b) t) → News g L h' news' → (∀ p ∈ news, p ∈ news') → Q .next { s with heap := h', toks := tk' }) :
  wpAny (model prog w) (Ar dp un fr gd) (execs lawForR (lawEnv L f cd)) Q (fun _ _ => False) s := by
  have hlen3 : its.length ≤ 10 := by
    rw [hws.1]
    unfold waysL
    split
    · simp
    split <;> simp
  have hwb : ∀ p ∈ waysL x1 x2 sc a b, p.1 ≤ x1.length ∧ p.2.1 ≤ x2.length := by
    intro p hp
    unfold waysL at hp
    split at hp
    · simp only [List.mem_cons, List.not_mem_nil, or_false] at hp
      subst hp
      exact ⟨by show a ≤ _; omega, by show b - 1 ≤ _; omega⟩
    split at hp
    · simp only [List.mem_cons, List.not_mem_nil, or_false] at hp
      subst hp
      exact ⟨by show a - 1 ≤ _; omega, by show b ≤ _; omega⟩
    · simp only [List.mem_cons, List.not_mem_nil, or_false] at hp
      rcases hp with rfl | rfl | rfl
      · exact ⟨by show a - 1 ≤ _; omega, by show b - 1 ≤ _; omega⟩
      · exact ⟨by show a - 1 ≤ _; omega, by show b ≤ _; omega⟩
      · exact ⟨by show a ≤ _; omega, by show b - 1 ≤ _; omega⟩
  show wpAny _ _ (execs (bestSt :: lawForR.drop 1) _) _ _ _
  refine wpAny_execs_cons (best_ok X T N F hu (by rfl) hWA hws hlen3 TI hV ha hb hwb hmT hdT hmI hdI hmJ hdJ ?_)
  intro BA ys h1 tk1 F1 N1 hne hfirst
  obtain ⟨q, ⟨px, py, pc⟩, hq, hys, hpp, hpc, hval⟩ := first_way hC ha hb h0 hfirst
  obtain ⟨T0, P0, t0, u0, u0', e0, m0', m1'⟩ := hws.2 q _ hq
  have hys0 : ys[0]? = some (.ref T0) := by rw [hys, e0]
  have hpx : px = pa ∧ py = pb := by
    have : (px, py) = (pa, pb) := hpp.trans hprev.symm
    exact ⟨congrArg Prod.fst this, congrArg Prod.snd this⟩
  obtain ⟨rfl, rfl⟩ := hpx
  have hpc' : pc = costP x1 x2 sc v a b := hpc
  subst hpc'
  clear F N hfirst hq hpp hpc hval hys e0
  replace hPL := List.mem_cons_of_mem (BA, LCg.lst ys) hPL
  replace hTp := List.mem_cons_of_mem (BA, LCg.lst ys) hTp
  replace m0' := List.mem_cons_of_mem (BA, LCg.lst ys) m0'
  replace m1' := List.mem_cons_of_mem (BA, LCg.lst ys) m1'
  have hBA : (BA, listOf ys.toArray ys.length) ∈ (BA, LCg.lst ys) :: news := .head _
  have e : lawScope = fnScope lawSt := rfl
  dsimp only [lawEnv]
  dsimp only [lawSt, fnScope, at13, PySem.Challenge.pw_je0021_01] at e
  rw [e]
  clear e
  dsimp only [lawForR, List.drop, lawForB, lawForSt, lawB, lawSt, fnBody, forBody2, at5, at10, at13, PySem.Challenge.pw_je0021_01]
  k_steps
  rename Fr _ _ _ _ => F9
  rename News _ _ _ _ => N9
  refine hQ _ _ _ _ _ (fr_norm F9 ?_) (by rfl) N9 (fun p hp => .tail _ hp)
  intro y hy
  repeat' first | exact rfl | refine skip1 (ne_in hy (by rfl)) ?_ | refine skipS hy (by rfl) ?_ | refine keep2 (fun e => by subst e; rfl) ?_
-- part WTurn2
section
local macro_rules | `(tactic| k_data) => `(tactic| with_reducible refine g_if ?_)

theorem WaysAre.push {news news' : List (Addr × Obj)} {its : List Value} {ws : List (Nat × Nat × Int)} {T P : Addr} {t u u' : Tok} {p : Nat × Nat × Int} {C X Y : Int} (h : WaysAre news its ws) (hk : ∀ q ∈ news, q.2.cls = .type "tuple" → q ∈ news') (m1 : (T, ({ cls := .type "tuple", data := .seq [Value.ref P, Value.int C t].toArray } : Obj)) ∈ news') (m2 : (P, ({ cls := .type "tuple", data := .seq [Value.int X u, Value.int Y u'].toArray } : Obj)) ∈ news')
    (hc : C = p.2.2) (hx : X = (p.1 : Int)) (hy : Y = (p.2.1 : Int)) : WaysAre news' (its ++ [.ref T]) (ws ++ [p]) := by
  subst hc hx hy
  refine ⟨by simp [h.1], fun q r hr => ?_⟩
  rcases Nat.lt_or_ge q ws.length with hl | hl
  · rw [List.getElem?_append_left hl] at hr
    obtain ⟨T', P', a, b, c, e, e1, e2⟩ := h.2 q r hr
    exact ⟨T', P', a, b, c, by rw [List.getElem?_append_left (by rw [h.1]; exact hl)]; exact e, hk _ e1 rfl, hk _ e2 rfl⟩
  · have hk1 := (List.getElem?_eq_some_iff.mp hr).1
    have e : q = ws.length := by simp at hk1; omega
    subst e
    simp at hr
    subst hr
    exact ⟨T, P, t, u, u', by rw [← h.1]; simp, m1, m2⟩
theorem tup_neL {g h : Heap} {L b : Addr} {l : List (Addr × Obj)} {xs : Array Value} {c : Nat} (N : News g L h l) {p : Addr × Obj} (h1 : p ∈ l) (h2 : (b, listOf xs c) ∈ l) (hd : p.2.cls = .type "tuple") : p.1 ≠ b := by
  obtain ⟨a, o⟩ := p
  intro e
  have e' : a = b := e
  subst e'
  have e2 : o = listOf xs c := News.same N h1 h2
  rw [e2] at hd
  injection hd with h3
  exact absurd h3 (by decide)
def MidW (g : Heap) (L W : Addr) (s : Shared) (base : List (Addr × Obj)) (M : Str → Option Value) (ws : List (Nat × Nat × Int)) (fl : Flow) (s' : Shared) : Prop :=
  ∃ h' tk its c own, fl = .next ∧ s' = { s with heap := h', toks := tk } ∧ Fr g L h' M ∧ News g L h' (own ++ base) ∧ (W, listOf (List.toArray its) c) ∈ own ∧ WaysAre own its ws
theorem midw_at {g : Heap} {L W : Addr} {s : Shared} {base news' : List (Addr × Obj)} {M : Str → Option Value} {ws : List (Nat × Nat × Int)} {h' : Heap} {tk c : Nat} {its : List Value} (F : Fr g L h' M) (N : News g L h' news') (hb : ∀ p ∈ base, p ∈ news') (hW : (W, listOf its.toArray c) ∈ news') (hI : WaysAre news' its ws) :
    MidW g L W s base M ws .next { s with heap := h', toks := tk } :=
  ⟨h', tk, its, c, news', rfl, rfl, F, fun p hp => (List.mem_append.mp hp).elim (N p) (fun h => N p (hb p h)), hW, hI⟩
theorem if_ways {A : Model} {B : Around} {E : Value → Shared → Prop} {s : Shared} {g : Heap} {L W : Addr} {base own : List (Addr × Obj)} {M : Str → Option Value} {st : Stmt} {rest : List Stmt} {env : Env} {Q : Flow → Shared → Prop} (hbW : ∀ p ∈ base, p.1 ≠ W) (ws : List (Nat × Nat × Int)) (Fa : Fr g L s.heap M) (Na : News g L s.heap (own ++ base)) {its0 : List Value} {c0 : Nat} {ws0 : List (Nat × Nat × Int)} (hWo : (W, listOf its0.toArray c0) ∈ own) (hw0 : WaysAre own its0 ws0)
    (h1 : ∀ own, Fr g L s.heap M → News g L s.heap (own ++ base) → (W, listOf its0.toArray c0) ∈ own → WaysAre own its0 ws0 → wpAny A B (exec st env) (MidW g L W s base M ws) E s)
    (h2 : ∀ h' tk its c own, Fr g L h' M → News g L h' (own ++ base) → (W, listOf (List.toArray its) c) ∈ own → WaysAre own its ws → wpAny A B (execs rest env) Q E { s with heap := h', toks := tk }) : wpAny A B (execs (st :: rest) env) Q E s := by
  refine wpAny_execs_cons (wpAny_mono (h1 own Fa Na hWo hw0) (fun fl s' h => ?_) fun _ _ e => e)
  obtain ⟨h', tk, its, c, own', rfl, rfl, F', N', hW, hI⟩ := h
  exact h2 h' tk its c own' F' N' hW hI
set_option maxRecDepth 100000 in
set_option maxHeartbeats 8000000 in
theorem turn_ok {prog : Program} {w : World} {dp un : Nat} {fr : Option (List Env)} {gd : Option (List Code)} {g : Heap} {L f : Addr} {cd : Value} {s : Shared} {news : List (Addr × Obj)} {K : Frag} {Q : Flow → Shared → Prop}
  {p : Program} {loose : List Str} {mean : ExcName → Option Value} {mg mb : Str → Option Value} {m0 : Str → Option Value}
  {x1 x2 : Str} {sc tot : Int} {v : Nat → Nat → Int} {xs : TXs}
  {ps : List Value} {c : Nat} {PL Tp d : Addr} {k a b pa pb : Nat} {tk tI tJ tI' tJ' t1 t2 t3 t4 : Tok} {oT oI oJ : Obj}
  (X : K.In g) (T : Top p loose mean mg mb g) (N : News g L s.heap news)
  (F : Fr g L s.heap (fun y => if y = Str.ofString "k" then some (.int (k : Int) tk) else if y = Str.ofString "path" then some (.ref PL) else if y = Str.ofString "first" then some (.str x1 t1) else if y = Str.ofString "second" then some (.str x2 t2) else if y = Str.ofString "cost" then some (.int sc t3) else if y = Str.ofString "total" then some (.int tot t4) else m0 y))
  (hx1 : x1.length ≤ 10) (hx2 : x2.length ≤ 10) (hu : un ≤ 100)
  (hPL : (PL, listOf ps.toArray c) ∈ news) (hk0 : 1 ≤ k) (hkl : k ≤ 1000) (hk1 : ps[((k : Int) - 1).toNat]? = some (.ref Tp)) (hTp : (Tp, ({ cls := .type "tuple", data := .seq [Value.int (pa : Int) tI', Value.int (pb : Int) tJ'].toArray } : Obj)) ∈ news)
  (TI : TabIn prog w news d xs) (hV : ∀ a b, a ≤ x1.length → b ≤ x2.length → HasV xs v a b) (hC : ∀ a b, a ≤ x1.length → b ≤ x2.length → LawCell x1 x2 sc false v a b) (ha : a ≤ x1.length) (hb : b ≤ x2.length) (h0 : a ≠ 0 ∨ b ≠ 0) (hprev : (pa, pb) = prevOf x1 x2 sc v a b)
  (hmT : (L + 1 + 1, oT) ∈ news) (hdT : oT.data = .cell (some (.ref d))) (hmI : (L + 1 + 1 + 1, oI) ∈ news) (hdI : oI.data = .cell (some (.int (a : Int) tI))) (hmJ : (L + 1 + 1 + 1 + 1, oJ) ∈ news) (hdJ : oJ.data = .cell (some (.int (b : Int) tJ)))
  (hQ : ∀ h' tk' news' (m' : Str → Option Value) (t : Tok), Fr g L h' (fun y => if [Str.ofString "ways", Str.ofString "best", Str.ofString "total"].contains y then m' y else if y = Str.ofString "k" then some (.int (k : Int) tk) else if y = Str.ofString "path" then some (.ref PL) else if y = Str.ofString "first" then some (.str x1 t1) else if y = Str.ofString "second" then some (.str x2 t2) else if y = Str.ofString "cost" then some (.int sc t3) else if y = Str.ofString "total" then some (.int tot t4) else m0 y) → m' (Str.ofString "total") = some (.int (tot + costP x1 x2 sc v a b) t) → News g L h' news' → (∀ p ∈ news, p ∈ news') → Q .next { s with heap := h', toks := tk' }) :
  wpAny (model prog w) (Ar dp un fr gd) (execs lawForT (lawEnv L f cd)) Q (fun _ _ => False) s := by
  have e : lawScope = fnScope lawSt := rfl
  dsimp only [lawEnv]
  dsimp only [lawSt, fnScope, at13, PySem.Challenge.pw_je0021_01] at e
  rw [e]
  clear e
  dsimp only [lawForT, List.drop, lawForB, lawForSt, lawB, lawSt, fnBody, forBody2, at5, at10, at13, PySem.Challenge.pw_je0021_01]
  have hlw : ∀ ws : List (Nat × Nat × Int), ws.length ≤ 3 → ∀ its : List Value, its.length = ws.length → its.length ≤ sizeLine := fun ws h its e => Nat.le_trans (m := 1000) (by omega) (by decide)
  k_steps
  rename Fr _ _ _ _ => Fa
  rename News _ _ _ _ => Na
  rename ∀ p : Addr × Obj, p ∈ news → p.1 ≠ _ => hbW
  have kb : ∀ {own : List (Addr × Obj)}, ∀ p ∈ news, p ∈ own ++ news := fun p hp => List.mem_append_right _ hp
  obtain ⟨w1, hw1⟩ : ∃ w1 : List (Nat × Nat × Int), w1 = if 0 < a ∧ 0 < b then [(a - 1, b - 1, subC x1 x2 sc a b)] else [] := ⟨_, rfl⟩
  have hl1 : w1.length ≤ 1 := by rw [hw1]; split <;> simp
  refine if_ways (base := news) (own := [(_, listOf (List.toArray []) 0)]) hbW ([] ++ if 0 < a ∧ 0 < b then [(a - 1, b - 1, subC x1 x2 sc a b)] else []) Fa Na (its0 := []) (ws0 := []) (.head _) ⟨rfl, fun q p hp => by simp at hp⟩ ?_ ?_
  · clear Fa Na
    intro own Fa Na hWo hw
    have hWm := List.mem_append_left news hWo
    have hne := fun q (hq : q ∈ own) ht => tup_neL (p := q) Na (List.mem_append_left _ hq) hWm ht
    have hsz := hlw _ (by simp) _ hw.1
    by_cases hz : 0 < a ∧ 0 < b
    · rw [if_pos hz]
      k_steps
      all_goals try (exfalso; omega)
      rename (∀ p : Addr × Obj, p ∈ _ :: _ → p.1 ≠ _ → p ∈ _) => hk
      rename (∀ p : Addr × Obj, p ∈ own ++ news → p.1 < _) => lP
      rename (∀ p : Addr × Obj, p ∈ _ :: (own ++ news) → p.1 < _) => lT
      exact midw_at (by assumption) (by assumption) (fun p hp => hk p (.tail _ (.tail _ (kb p hp))) (hbW p hp)) (by assumption) (WaysAre.push hw (fun q hq ht => hk q (.tail _ (.tail _ (List.mem_append_left _ hq))) (hne q hq ht)) (hk _ (.head _) (Nat.ne_of_gt (lT _ (.tail _ hWm)))) (hk _ (.tail _ (.head _)) (Nat.ne_of_gt (lP _ hWm))) (by rfl) (by first | (dsimp only; done) | (dsimp only; omega)) (by first | (dsimp only; done) | (dsimp only; omega)))
    · rw [if_neg hz, List.append_nil]
      k_steps
      all_goals try (exfalso; omega)
      all_goals (
        rename Fr _ _ _ _ => Fb
        rename News _ _ _ _ => Nb
        exact midw_at Fb Nb kb hWm ⟨hw.1, fun q r hr => let ⟨T, P, t, u, u', e, e1, e2⟩ := hw.2 q r hr; ⟨T, P, t, u, u', e, List.mem_append_left _ e1, List.mem_append_left _ e2⟩⟩)
  · clear Fa Na
    intro h1 tk1 its1 c1 own1 Fa Na hW1 hws1
    rw [List.nil_append, ← hw1] at hws1
    refine if_ways (base := news) hbW (w1 ++ if 0 < a then [(a - 1, b, 1)] else []) Fa Na hW1 hws1 ?_ ?_
    · clear Fa Na
      intro own Fa Na hWo hw
      have hWm := List.mem_append_left news hWo
      have hne := fun q (hq : q ∈ own) ht => tup_neL (p := q) Na (List.mem_append_left _ hq) hWm ht
      have hsz := hlw _ (by omega) _ hw.1
      by_cases hz : 0 < a
      · rw [if_pos hz]
        k_steps
        all_goals try (exfalso; omega)
        rename (∀ p : Addr × Obj, p ∈ _ :: _ → p.1 ≠ _ → p ∈ _) => hk
        rename (∀ p : Addr × Obj, p ∈ own ++ news → p.1 < _) => lP
        rename (∀ p : Addr × Obj, p ∈ _ :: (own ++ news) → p.1 < _) => lT
        exact midw_at (by assumption) (by assumption) (fun p hp => hk p (.tail _ (.tail _ (kb p hp))) (hbW p hp)) (by assumption) (WaysAre.push hw (fun q hq ht => hk q (.tail _ (.tail _ (List.mem_append_left _ hq))) (hne q hq ht)) (hk _ (.head _) (Nat.ne_of_gt (lT _ (.tail _ hWm)))) (hk _ (.tail _ (.head _)) (Nat.ne_of_gt (lP _ hWm))) (by rfl) (by first | (dsimp only; done) | (dsimp only; omega)) (by first | (dsimp only; done) | (dsimp only; omega)))
      · rw [if_neg hz, List.append_nil]
        k_steps
        all_goals try (exfalso; omega)
        all_goals (
          rename Fr _ _ _ _ => Fb
          rename News _ _ _ _ => Nb
          exact midw_at Fb Nb kb hWm ⟨hw.1, fun q r hr => let ⟨T, P, t, u, u', e, e1, e2⟩ := hw.2 q r hr; ⟨T, P, t, u, u', e, List.mem_append_left _ e1, List.mem_append_left _ e2⟩⟩)
    · clear Fa Na
      intro h2 tk2 its2 c2 own2 Fa Na hW2 hws2
      obtain ⟨w2, hw2⟩ : ∃ w2 : List (Nat × Nat × Int), w2 = w1 ++ if 0 < a then [(a - 1, b, 1)] else [] := ⟨_, rfl⟩
      have hl2 : w2.length ≤ 2 := by rw [hw2, List.length_append]; split <;> simp <;> omega
      rw [← hw2] at hws2
      refine if_ways (base := news) hbW (w2 ++ if 0 < b then [(a, b - 1, 1)] else []) Fa Na hW2 hws2 ?_ ?_
      · clear Fa Na
        intro own Fa Na hWo hw
        have hWm := List.mem_append_left news hWo
        have hne := fun q (hq : q ∈ own) ht => tup_neL (p := q) Na (List.mem_append_left _ hq) hWm ht
        have hsz := hlw _ (by omega) _ hw.1
        by_cases hz : 0 < b
        · rw [if_pos hz]
          k_steps
          all_goals try (exfalso; omega)
          rename (∀ p : Addr × Obj, p ∈ _ :: _ → p.1 ≠ _ → p ∈ _) => hk
          rename (∀ p : Addr × Obj, p ∈ own ++ news → p.1 < _) => lP
          rename (∀ p : Addr × Obj, p ∈ _ :: (own ++ news) → p.1 < _) => lT
          exact midw_at (by assumption) (by assumption) (fun p hp => hk p (.tail _ (.tail _ (kb p hp))) (hbW p hp)) (by assumption) (WaysAre.push hw (fun q hq ht => hk q (.tail _ (.tail _ (List.mem_append_left _ hq))) (hne q hq ht)) (hk _ (.head _) (Nat.ne_of_gt (lT _ (.tail _ hWm)))) (hk _ (.tail _ (.head _)) (Nat.ne_of_gt (lP _ hWm))) (by rfl) (by first | (dsimp only; done) | (dsimp only; omega)) (by first | (dsimp only; done) | (dsimp only; omega)))
        · rw [if_neg hz, List.append_nil]
          k_steps
          all_goals try (exfalso; omega)
          all_goals (
            rename Fr _ _ _ _ => Fb
            rename News _ _ _ _ => Nb
            exact midw_at Fb Nb kb hWm ⟨hw.1, fun q r hr => let ⟨T, P, t, u, u', e, e1, e2⟩ := hw.2 q r hr; ⟨T, P, t, u, u', e, List.mem_append_left _ e1, List.mem_append_left _ e2⟩⟩)
      · clear Fa Na
        intro h3 tk3 its3 c3 own3 F9 N9 hW3 hws3
        have ew : (w2 ++ if 0 < b then [(a, b - 1, 1)] else []) = waysL x1 x2 sc a b := by
          rw [hw2, hw1]
          unfold waysL
          rcases Nat.eq_zero_or_pos a with ra | ra
          · have rb : 0 < b := by omega
            subst ra
            simp [rb]
          · rcases Nat.eq_zero_or_pos b with rb | rb
            · subst rb
              simp [ra, Nat.ne_of_gt ra]
            · simp [ra, rb, Nat.ne_of_gt ra, Nat.ne_of_gt rb]
        rw [ew] at hws3
        refine tail_ok (x1 := x1) (x2 := x2) (sc := sc) (tot := tot) (v := v) (its := its3) (k := k) (PL := PL) (t4 := t4) (tk := tk) (pa := pa) (pb := pb) (Tp := Tp) (ps := ps) X T N9
          (fr_known0 (Str.ofString "ways") (fr_known0 (Str.ofString "k") (fr_known0 (Str.ofString "path") (fr_known0 (Str.ofString "total") F9 rfl) rfl) rfl) rfl)
          hu (kb _ hPL) hk0 hkl hk1 (kb _ hTp) (TI.mono2 (fun p hp _ => kb p hp)) hV hC ha hb h0 hprev (List.mem_append_left _ hW3) ⟨hws3.1, fun q r hr => let ⟨T, P, t, u, u', e, e1, e2⟩ := hws3.2 q r hr; ⟨T, P, t, u, u', e, List.mem_append_left _ e1, List.mem_append_left _ e2⟩⟩ (kb _ hmT) hdT (kb _ hmI) hdI (kb _ hmJ) hdJ ?_
        intro h' tk' news' m' t F' hm N' hsub
        refine hQ _ _ _ _ t (fr_norm F' ?_) ?_ N' (fun p hp => hsub p (kb p hp))
        · intro y hy
          repeat' first | exact rfl | refine skip1 (ne_in hy (by rfl)) ?_ | refine skipS hy (by rfl) ?_ | refine keep2 (fun e => by subst e; rfl) ?_
        · exact hm
-- part WLoop
end

def isCell (o : Obj) (v : Option Value) : Prop := o.data = .cell v
theorem seq_cell {g h : Heap} {L a c : Addr} {l : List (Addr × Obj)} {o o' : Obj} {vs : Array Value} {n : Nat} {v : Option Value} (N : News g L h l) (h1 : (a, o) ∈ l) (hd : o.data = .seq vs n) (h2 : (c, o') ∈ l) (hc : o'.data = .cell v) : a ≠ c := by
  intro e
  subst e
  rw [News.same N h1 h2, hc] at hd
  cases hd
theorem TabIn.off_cell {prog : Program} {w : World} {news : List (Addr × Obj)} {d : Addr} {xs : TXs} {g h : Heap} {L c : Addr} {o' : Obj} {v : Option Value} (T : TabIn prog w news d xs) (N : News g L h news) (h2 : (c, o') ∈ news) (hc : o'.data = .cell v) : c ≠ d ∧ ∀ x ∈ xs, c ≠ x.2.1 := by
  obtain ⟨o, es, ep, hm, hcl, hd, he, hn, hk⟩ := T
  refine ⟨?_, fun x hx => ?_⟩
  · intro e
    subst e
    rw [News.same N hm h2, hc] at hd
    cases hd
  · intro e
    obtain ⟨ok, hmk, _, its, n, hsd, _⟩ := hk x hx
    exact seq_cell N hmk hsd h2 hc e.symm
def lawB3 : List Stmt := lawB.drop 10
set_option maxRecDepth 100000 in
set_option maxHeartbeats 8000000 in
theorem loop_ok {prog : Program} {w : World} {dp un : Nat} {fr : Option (List Env)} {gd : Option (List Code)} {g : Heap} {L f : Addr} {cd : Value} {s : Shared} {news : List (Addr × Obj)} {K : Frag} {Q : Flow → Shared → Prop}
  {p : Program} {loose : List Str} {mean : ExcName → Option Value} {mg mb : Str → Option Value} {m0 : Str → Option Value}
  {x1 x2 : Str} {t0 t1 t2 t3 te te' : Tok} {sc : Int} {oT oI oJ : Obj} {vI vJ : Option Value} {R EA d : Addr} {its : List Value} {pts : List (Nat × Nat)} {cR : Nat} {xs : TXs} {u : Nat → Nat → Int}
  (X : K.In g) (T : Top p loose mean mg mb g) (N : News g L s.heap news)
  (F : Fr g L s.heap (fun y => if y = Str.ofString "total" then some (.int 0 t0) else if y = Str.ofString "path" then some (.ref R) else if y = Str.ofString "end" then some (.ref EA) else if y = Str.ofString "first" then some (.str x1 t1) else if y = Str.ofString "second" then some (.str x2 t2) else if y = Str.ofString "cost" then some (.int sc t3) else m0 y))
  (hlen : nsIn K mainGlobals (Str.ofString "len") = some none) (hrange : nsIn K mainGlobals (Str.ofString "range") = some none)
  (hmT : (L + 1 + 1, oT) ∈ news) (hdT : oT.data = .cell (some (.ref d))) (hmI : (L + 1 + 1 + 1, oI) ∈ news) (hdI : oI.data = .cell vI) (hmJ : (L + 1 + 1 + 1 + 1, oJ) ∈ news) (hdJ : oJ.data = .cell vJ)
  (hx1 : x1.length ≤ 10) (hx2 : x2.length ≤ 10) (hu : un ≤ 100)
  (hR : (R, listOf (List.reverse its).toArray cR) ∈ news) (hEA : (EA, ({ cls := .type "tuple", data := .seq [Value.int (x1.length : Int) te, Value.int (x2.length : Int) te'].toArray } : Obj)) ∈ news)
  (hTups : TupsAre news its pts) (hBP : BackPath x1 x2 sc u x1.length x2.length pts) (hlast : pts[pts.length - 1]? = some (0, 0)) (hl30 : its.length ≤ 30)
  (TI : TabIn prog w news d xs) (hV : ∀ a b, a ≤ x1.length → b ≤ x2.length → HasV xs u a b) (hLC : ∀ a b, a ≤ x1.length → b ≤ x2.length → LawCell x1 x2 sc false u a b)
  (hQ : ∀ h' tk m' news', Fr g L h' m' → News g L h' news' → (∀ p ∈ news, p.1 ≠ L + 1 + 1 + 1 → p.1 ≠ L + 1 + 1 + 1 + 1 → p ∈ news') → Q (.ret (.bool true)) { s with heap := h', toks := tk }) :
  wpAny (model prog w) (Ar dp un fr gd) (execs lawB3 (lawEnv L f cd)) Q (fun _ _ => False) s := by
  have hl1 : 1 ≤ pts.length := by
    have := (List.getElem?_eq_some_iff.mp hlast).1
    omega
  have hrl : (List.reverse its).length = pts.length := by rw [List.length_reverse, hTups.1]
  have hpl : pts.length ≤ 30 := by rw [← hTups.1]; exact hl30
  have hin := back_in hBP
  have e : lawScope = fnScope lawSt := rfl
  dsimp only [lawEnv]
  dsimp only [lawSt, fnScope, at13, PySem.Challenge.pw_je0021_01] at e
  rw [e]
  clear e
  dsimp only [lawB3, List.drop, lawB, lawSt, fnBody, at13, PySem.Challenge.pw_je0021_01]
  k_steps
  rename Fr _ _ _ _ => F1
  rename News _ _ _ _ => N1
  rename IsRange _ _ _ _ _ _ _ _ => hr
  let keep : List (Addr × Obj) := news.filter fun p => p.1 != L + 1 + 1 + 1 && p.1 != L + 1 + 1 + 1 + 1
  have mk : ∀ p ∈ news, p.1 ≠ L + 1 + 1 + 1 → p.1 ≠ L + 1 + 1 + 1 + 1 → p ∈ keep := fun p hp h1 h2 => List.mem_filter.mpr ⟨hp, by simp [h1, h2]⟩
  have kI : Apart keep (L + 1 + 1 + 1) := fun q hq => by
    have := (List.mem_filter.mp hq).2
    simp at this
    exact this.1
  have kJ : Apart keep (L + 1 + 1 + 1 + 1) := fun q hq => by
    have := (List.mem_filter.mp hq).2
    simp at this
    exact this.2
  have hRk : (R, listOf (List.reverse its).toArray cR) ∈ keep := mk _ hR (seq_cell N1 hR rfl hmI hdI) (seq_cell N1 hR rfl hmJ hdJ)
  have hEk := mk _ hEA (seq_cell N1 hEA rfl hmI hdI) (seq_cell N1 hEA rfl hmJ hdJ)
  have hTk := mk _ hmT (Nat.ne_of_lt (Nat.lt_succ_self _)) (Nat.ne_of_lt (Nat.lt_succ_of_lt (Nat.lt_succ_self _)))
  have TIk : TabIn prog w keep d xs := TI.mono2 (fun p hp h => by
    obtain ⟨z1, z2⟩ := TI.off_cell N1 hmI hdI
    obtain ⟨z3, z4⟩ := TI.off_cell N1 hmJ hdJ
    rcases h with h | ⟨x, hx, h⟩
    · exact mk p hp (by rw [h]; exact z1.symm) (by rw [h]; exact z3.symm)
    · exact mk p hp (by rw [h]; exact (z2 x hx).symm) (by rw [h]; exact (z4 x hx).symm))
  have hTk2 : TupsAre keep its pts := ⟨hTups.1, fun k p hp => let ⟨a, t, t', e, m⟩ := hTups.2 k p hp; ⟨a, t, t', e, mk _ m (seq_cell N1 m rfl hmI hdI) (seq_cell N1 m rfl hmJ hdJ)⟩⟩
  have hkn : ∀ p ∈ keep, p ∈ news := fun p hp => (List.mem_filter.mp hp).1
  clear_value keep
  refine rngS (L := L) [Str.ofString "k", Str.ofString "ways", Str.ofString "best", Str.ofString "total"] (pts.length - 1) keep
    (fun i m mine => ∃ oI oJ vI vJ tot tt q, (L + 1 + 1 + 1, oI) ∈ mine ∧ oI.data = .cell vI ∧ (L + 1 + 1 + 1 + 1, oJ) ∈ mine ∧ oJ.data = .cell vJ ∧ m (Str.ofString "total") = some (.int tot tt) ∧ pts[pts.length - 1 - i]? = some q ∧ tot = u q.1 q.2)
    rfl rfl F1 N1 hr ?_ ?_ (fun p hp => hkn p hp) (by decide) ?_ ?_ ?_
  · exact small_one (by omega) (by omega) (by omega) (by omega)
  · rw [rangeSize_one]; split <;> omega
  · exact exi_7_7 oI oJ vI vJ 0 t0 (0, 0) (mem_mineOf hmI (by unfold plainB; rw [hdI]; simp [isCellD]) kI) hdI (mem_mineOf hmJ (by unfold plainB; rw [hdJ]; simp [isCellD]) kJ) hdJ rfl hlast (law_zero hLC).symm
  · intro i tk u' mine h tok own hi hJ1 hml hown F6 N6
    refine exe_7_7 hJ1 ?_
    clear hJ1
    intro oI' oJ' vI' vJ' tot tt q hmI' hdI' hmJ' hdJ' hut hq htot
    rw [show (1 : Int) + (i : Int) = ((i + 1 : Nat) : Int) from by omega] at F6
    clear hr F1 N1
    obtain ⟨⟨a, b⟩, hab⟩ : ∃ ab : Nat × Nat, pts[pts.length - 1 - (i + 1)]? = some ab := ⟨_, List.getElem?_eq_getElem (by omega)⟩
    have hq' : pts[pts.length - 1 - (i + 1) + 1]? = some q := by
      rw [show pts.length - 1 - (i + 1) + 1 = pts.length - 1 - i from by omega]; exact hq
    refine exe_0_2 (hBP.2 _ _ _ hab hq') ?_
    intro h0 hprev
    have hab' := hin _ _ hab
    refine exe_3_2 (path_at hTk2 _ _ hab) ?_
    intro Tk tI tJ eTk mTk
    refine exe_3_2 (path_at hTk2 _ _ hq') ?_
    intro Tp tI' tJ' eTp mTp
    have hk : (List.reverse its)[((i + 1 : Nat) : Int).toNat]? = some (.ref Tk) := by
      rw [rev_i hi]; exact eTk
    have hk1 : (List.reverse its)[(((i + 1 : Nat) : Int) - 1).toNat]? = some (.ref Tp) := by
      rw [rev_i1 hi]; exact eTp
    obtain ⟨pa, pb⟩ := q
    have kp : ∀ p ∈ keep, p ∈ own ++ (mine ++ keep) := fun p hp => List.mem_append_right _ (List.mem_append_right _ hp)
    show wpAny _ _ (execs (ijSt :: lawForT) (lawEnv L f cd)) _ _ _
    refine wpAny_execs_cons (ij_ok (k := i + 1) (a := a) (b := b) X T N6 (fr_known0 (Str.ofString "k") (fr_known0 (Str.ofString "path") F6 rfl) rfl) (kp _ hRk) hk (by omega) (kp _ mTk) (List.mem_append_right _ (List.mem_append_left _ hmI')) hdI' (List.mem_append_right _ (List.mem_append_left _ hmJ')) hdJ' ?_)
    intro h2 tk2 news2 oI2 oJ2 F7 N7 hmI2 hdI2 hmJ2 hdJ2 hk2
    have kp2 : ∀ p ∈ keep, p ∈ news2 := fun p hp => hk2 p (kp p hp) (kI p hp) (kJ p hp)
    show wpAny _ _ (execs lawForT (lawEnv L f cd)) _ _ _
    refine turn_ok (k := i + 1) (a := a) (b := b) (pa := pa) (pb := pb) (v := u) (tot := tot) (ps := List.reverse its) (x1 := x1) (x2 := x2) (sc := sc) X T N7
      (fr_known0 (Str.ofString "k") (fr_known0 (Str.ofString "path") (fr_known0 (Str.ofString "first") (fr_known0 (Str.ofString "second") (fr_known0 (Str.ofString "cost") (fr_known0 (Str.ofString "total") F7 (by exact hut)) rfl) rfl) rfl) rfl) rfl)
      hx1 hx2 hu (kp2 _ hRk) (by omega) (by omega) hk1 (kp2 _ mTp) (TIk.mono2 (fun p hp _ => kp2 p hp)) hV hLC hab'.1 hab'.2 h0 hprev (kp2 _ hTk) hdT hmI2 hdI2 hmJ2 hdJ2 ?_
    intro h3 tk3 news3 m3 t3' F8 hm3 N8 hsub
    refine post_next F8 N8 (fun p hp => hsub p (hk2 p (List.mem_append_left _ hp) (hown p hp _ hmI') (hown p hp _ hmJ'))) (fun p hp => hsub p (kp2 p hp)) ?_ ?_
    · intro y hy
      repeat' first | exact rfl | refine skip1 (ne_in hy (by rfl)) ?_ | refine skipS hy (by rfl) ?_ | refine keep2 (fun e => by subst e; rfl) ?_
    · refine exi_7_7 oI2 oJ2 _ _ _ t3' (a, b) (mem_mineOf (hsub _ hmI2) (by unfold plainB; rw [hdI2]; simp [isCellD]) kI) hdI2 (mem_mineOf (hsub _ hmJ2) (by unfold plainB; rw [hdJ2]; simp [isCellD]) kJ) hdJ2 (by exact hm3) hab ?_
      rw [htot]
      exact prev_cost hLC hab'.1 hab'.2 h0 hprev
  · intro u' mine h tok hJ2 hml F6 N6
    refine exe_7_7 hJ2 ?_
    clear hJ2
    intro oI' oJ' vI' vJ' tot tt q hmI' hdI' hmJ' hdJ' hut hq htot
    clear hr F1 N1
    have hq0 : q = (x1.length, x2.length) := by
      rw [show pts.length - 1 - (pts.length - 1) = 0 from by omega, hBP.1] at hq
      exact (Option.some.inj hq).symm
    subst hq0
    have F7 := fr_known0 (Str.ofString "total") (fr_known0 (Str.ofString "end") F6 rfl) (w := some (.int tot tt)) (by exact hut)
    have hE9 := List.mem_append_right mine hEk
    have hT9 := List.mem_append_right mine hTk
    have TI9 : TabIn prog w (mine ++ keep) d xs := TIk.mono2 (fun p hp _ => List.mem_append_right mine hp)
    refine exe_2_1 (hV _ _ (Nat.le_refl _) (Nat.le_refl _)) ?_
    intro c9 t9 hat9
    clear F6
    have htb : (tot == u x1.length x2.length) = true := by rw [htot]; exact beq_self_eq_true _
    k_steps
    rw [htb]
    exact hQ _ _ _ _ (by assumption) (by assumption) (fun p hp h1 h2 => List.mem_append_right _ (mk p hp h1 h2))
-- part WLaw2
section
local macro_rules | `(tactic| k_data) => `(tactic| with_reducible refine g_for ?_)

set_option maxRecDepth 100000 in
set_option maxHeartbeats 8000000 in
theorem call_ed4 {prog : Program} {w : World} {dp un : Nat} {A₀ : Around} {base : Heap} {outer : List Env} {gd : Option (List Code)} {g : Heap} {L : Addr} {ev : Env} {s : Shared} {news : List (Addr × Obj)} {K : Frag} {Q E : Value → Shared → Prop}
  {p : Program} {loose : List Str} {mean : ExcName → Option Value} {mg mb m : Str → Option Value}
  {x1 x2 : Str} {t1 t2 t3 t4 : Tok} {sc : Int} {tr : Bool} {fC fI fL fS fE aD aE : Addr} {dS dE : Value} {oD oE : Obj} {tD tE : Tok} {nD nE : Nat}
  (hfr : ev.frame = some L) (hke : ev.scope.kind = .function) (X : K.In g) (T : Top p loose mean mg mb g) (B : Below A₀ base outer g)
  (hlen : nsIn K mainGlobals (Str.ofString "len") = some none) (hrange : nsIn K mainGlobals (Str.ofString "range") = some none) (hmax : nsIn K mainGlobals (Str.ofString "max") = some none) (hM : nsIn K mainGlobals (Str.ofString "MAX_DISTANCE_INPUT_LEN") = some (some (.int 2000 t4)))
  (hmin : nsIn K mainGlobals (Str.ofString "min") = some none)
  (HC : FnAt K (Str.ofString "_check_distance_input_len") chkSt .none fC) (HI : FnAt K (Str.ofString "_edit_dist_init") initSt .none fI) (HL : FnAt K (Str.ofString "_last_left_t_init") lltSt .none fL)
  (HS : FnAt K (Str.ofString "_edit_dist_step") stepSt dS fS) (HE : FnAt K (Str.ofString "edit_distance") edSt dE fE)
  (hdS : dS = .ref aD) (hdO : K.lookup aD = some oD) (hdQ : oD.data = .seq #[.int 1 tD, .bool false] nD) (hdE : dE = .ref aE) (heO : K.lookup aE = some oE) (heQ : oE.data = .seq #[.int 1 tE, .bool false] nE)
  (N : News g L s.heap news) (F : Fr g L s.heap m) (hx1 : x1.length ≤ 10) (hx2 : x2.length ≤ 10) (hd : dp ≤ 450) (hu : un ≤ 50)
  (hQ : ∀ u t h' tk news', Fr g L h' m → News g L h' news' → (∀ p ∈ news, p ∈ news') → Bord u (x1.length + 1) (x2.length + 1) → (∀ a b, 1 ≤ a → a ≤ x1.length → 1 ≤ b → b ≤ x2.length → CellEq x1 x2 sc tr u a b) → Q (.int (u x1.length x2.length) t) { s with heap := h', toks := tk }) :
  wpAny (model prog w) ((Ar dp un (some outer) gd).deeper ev) (call (.ref fE) [.str x1 t1, .str x2 t2, .int sc t3, .bool tr] []) Q E s := by
  subst hdE
  refine fnAt_take HE rfl ?_
  clear HE
  intro hEn hEk ocE odE kVE docE pmE anE cdE ctE oslE hoE hcE
  refine call_fn (fun v news' => ∃ u t, v = .int (u x1.length x2.length) t ∧ (∀ p ∈ news, p ∈ news') ∧ Bord u (x1.length + 1) (x2.length + 1) ∧ (∀ a b, 1 ≤ a → a ≤ x1.length → 1 ≤ b → b ≤ x2.length → CellEq x1 x2 sc tr u a b))
    B F X N T rfl hfr hke hoE hcE ?_ (binds_K (X.keeps F.keep) rfl heO heQ rfl rfl) (locs rfl) rfl rfl rfl (by decide) (fun g' L' h₁ tk FG F' N' B' X' T' => ed_ok (sc := sc) (tr := tr) X' T' B' N' F' hlen hrange hmax hM hmin HC HI HL HS hdS hdO hdQ hx1 hx2 (show dp + 1 ≤ 500 by omega) (show un + 3 ≤ 100 by omega)
      (fun u h' tk m' news' t F2 N2 hs hB hC => fn_ret F2 N2 (exi_2_4 u t rfl hs hB hC))) ?_
  · show dp + 1 < _
    have : recursionLimit = 1000 := rfl
    omega
  intro v_ news' h' tk' hJ1 F2 N2
  refine exe_2_4 hJ1 ?_
  clear hJ1
  intro u t eq2 h1 h2 h3
  subst eq2
  exact hQ u t h' tk' news' F2 N2 h1 h2 h3
set_option maxRecDepth 100000 in
set_option maxHeartbeats 8000000 in
theorem call_ed3 {prog : Program} {w : World} {dp un : Nat} {A₀ : Around} {base : Heap} {outer : List Env} {gd : Option (List Code)} {g : Heap} {L : Addr} {ev : Env} {s : Shared} {news : List (Addr × Obj)} {K : Frag} {Q E : Value → Shared → Prop}
  {p : Program} {loose : List Str} {mean : ExcName → Option Value} {mg mb m : Str → Option Value}
  {x1 x2 : Str} {t1 t2 t3 t4 : Tok} {sc : Int} {fC fI fL fS fE aD aE : Addr} {dS dE : Value} {oD oE : Obj} {tD tE : Tok} {nD nE : Nat}
  (hfr : ev.frame = some L) (hke : ev.scope.kind = .function) (X : K.In g) (T : Top p loose mean mg mb g) (B : Below A₀ base outer g)
  (hlen : nsIn K mainGlobals (Str.ofString "len") = some none) (hrange : nsIn K mainGlobals (Str.ofString "range") = some none) (hmax : nsIn K mainGlobals (Str.ofString "max") = some none) (hM : nsIn K mainGlobals (Str.ofString "MAX_DISTANCE_INPUT_LEN") = some (some (.int 2000 t4)))
  (hmin : nsIn K mainGlobals (Str.ofString "min") = some none)
  (HC : FnAt K (Str.ofString "_check_distance_input_len") chkSt .none fC) (HI : FnAt K (Str.ofString "_edit_dist_init") initSt .none fI) (HL : FnAt K (Str.ofString "_last_left_t_init") lltSt .none fL)
  (HS : FnAt K (Str.ofString "_edit_dist_step") stepSt dS fS) (HE : FnAt K (Str.ofString "edit_distance") edSt dE fE)
  (hdS : dS = .ref aD) (hdO : K.lookup aD = some oD) (hdQ : oD.data = .seq #[.int 1 tD, .bool false] nD) (hdE : dE = .ref aE) (heO : K.lookup aE = some oE) (heQ : oE.data = .seq #[.int 1 tE, .bool false] nE)
  (N : News g L s.heap news) (F : Fr g L s.heap m) (hx1 : x1.length ≤ 10) (hx2 : x2.length ≤ 10) (hd : dp ≤ 450) (hu : un ≤ 50)
  (hQ : ∀ u t h' tk news', Fr g L h' m → News g L h' news' → (∀ p ∈ news, p ∈ news') → Bord u (x1.length + 1) (x2.length + 1) → (∀ a b, 1 ≤ a → a ≤ x1.length → 1 ≤ b → b ≤ x2.length → CellEq x1 x2 sc false u a b) → Q (.int (u x1.length x2.length) t) { s with heap := h', toks := tk }) :
  wpAny (model prog w) ((Ar dp un (some outer) gd).deeper ev) (call (.ref fE) [.str x1 t1, .str x2 t2, .int sc t3] []) Q E s := by
  subst hdE
  refine fnAt_take HE rfl ?_
  clear HE
  intro hEn hEk ocE odE kVE docE pmE anE cdE ctE oslE hoE hcE
  refine call_fn (fun v news' => ∃ u t, v = .int (u x1.length x2.length) t ∧ (∀ p ∈ news, p ∈ news') ∧ Bord u (x1.length + 1) (x2.length + 1) ∧ (∀ a b, 1 ≤ a → a ≤ x1.length → 1 ≤ b → b ≤ x2.length → CellEq x1 x2 sc false u a b))
    B F X N T rfl hfr hke hoE hcE ?_ (binds_K (X.keeps F.keep) rfl heO heQ rfl rfl) (locs rfl) rfl rfl rfl (by decide) (fun g' L' h₁ tk FG F' N' B' X' T' => ed_ok (sc := sc) (tr := false) X' T' B' N' F' hlen hrange hmax hM hmin HC HI HL HS hdS hdO hdQ hx1 hx2 (show dp + 1 ≤ 500 by omega) (show un + 3 ≤ 100 by omega)
      (fun u h' tk m' news' t F2 N2 hs hB hC => fn_ret F2 N2 (exi_2_4 u t rfl hs hB hC))) ?_
  · show dp + 1 < _
    have : recursionLimit = 1000 := rfl
    omega
  intro v_ news' h' tk' hJ3 F2 N2
  refine exe_2_4 hJ3 ?_
  clear hJ3
  intro u t eq4 h1 h2 h3
  subst eq4
  exact hQ u t h' tk' news' F2 N2 h1 h2 h3
set_option maxRecDepth 100000 in
set_option maxHeartbeats 8000000 in
theorem call_tab {prog : Program} {w : World} {dp un : Nat} {A₀ : Around} {base : Heap} {outer : List Env} {gd : Option (List Code)} {g : Heap} {L : Addr} {ev : Env} {s : Shared} {news : List (Addr × Obj)} {K : Frag} {Q E : Value → Shared → Prop}
  {p : Program} {loose : List Str} {mean : ExcName → Option Value} {mg mb m : Str → Option Value}
  {x1 x2 : Str} {t1 t2 t3 : Tok} {sc : Int} {tr : Bool} {fT : Addr}
  (hfr : ev.frame = some L) (hke : ev.scope.kind = .function) (X : K.In g) (T : Top p loose mean mg mb g) (B : Below A₀ base outer g)
  (hlen : nsIn K mainGlobals (Str.ofString "len") = some none) (hrange : nsIn K mainGlobals (Str.ofString "range") = some none) (hint : nsIn K mainGlobals (Str.ofString "int") = some none) (hmin : nsIn K mainGlobals (Str.ofString "min") = some none)
  (HT : FnAt K (Str.ofString "_law_table") tabSt .none fT)
  (N : News g L s.heap news) (F : Fr g L s.heap m) (hx1 : x1.length ≤ 10) (hx2 : x2.length ≤ 10) (hd : dp ≤ 450) (hu : un ≤ 50)
  (hQ : ∀ d xs t h' tk news', Fr g L h' m → News g L h' news' → (∀ p ∈ news, p ∈ news') → TabIn prog w news' d xs → (∀ a b, a ≤ x1.length → b ≤ x2.length → HasV xs t a b) → (∀ a b, a ≤ x1.length → b ≤ x2.length → LawCell x1 x2 sc tr t a b) → Apart news d → (∀ x ∈ xs, Apart news x.2.1) → Q (.ref d) { s with heap := h', toks := tk }) :
  wpAny (model prog w) ((Ar dp un (some outer) gd).deeper ev) (call (.ref fT) [.str x1 t1, .str x2 t2, .int sc t3, .bool tr] []) Q E s := by
  refine fnAt_take HT rfl ?_
  clear HT
  intro hTn hTk ocT odT kVT docT pmT anT cdT ctT oslT hoT hcT
  refine call_fn (fun v news' => ∃ d xs t, v = .ref d ∧ (∀ p ∈ news, p ∈ news') ∧ TabIn prog w news' d xs ∧ (∀ a b, a ≤ x1.length → b ≤ x2.length → HasV xs t a b) ∧ (∀ a b, a ≤ x1.length → b ≤ x2.length → LawCell x1 x2 sc tr t a b) ∧ Apart news d ∧ (∀ x ∈ xs, Apart news x.2.1))
    B F X N T rfl hfr hke hoT hcT ?_ (BindsTo.of_eq rfl) (locs rfl) rfl rfl rfl (by decide) (fun g' L' h₁ tk FG F' N' B' X' T' => tab_ok (sc := sc) (tr := tr) X' T' N' F' hlen hrange hint hmin hx1 hx2 (show dp + 1 + 1 ≤ 500 by omega) (show un + 3 + 3 ≤ 100 by omega)
      (fun v xs d h' tk m' news' F2 N2 hs hT hap1 hap2 hV hC => fn_ret F2 N2 (exi_3_7 d xs v rfl hs hT hV hC hap1 hap2))) ?_
  · show dp + 1 < _
    have : recursionLimit = 1000 := rfl
    omega
  intro v_ news' h' tk' hJ5 F2 N2
  refine exe_3_7 hJ5 ?_
  clear hJ5
  intro d xs t eq6 h1 h2 h3 h4 h5 h6
  subst eq6
  exact hQ d xs t h' tk' news' F2 N2 h1 h2 h3 h4 h5 h6
set_option maxRecDepth 100000 in
set_option maxHeartbeats 8000000 in
theorem call_al {prog : Program} {w : World} {dp un : Nat} {A₀ : Around} {base : Heap} {outer : List Env} {gd : Option (List Code)} {g : Heap} {L : Addr} {ev : Env} {s : Shared} {news : List (Addr × Obj)} {K : Frag} {Q E : Value → Shared → Prop}
  {p : Program} {loose : List Str} {mean : ExcName → Option Value} {mg mb m : Str → Option Value}
  {x1 x2 : Str} {t1 t2 t3 t4 : Tok} {sc : Int} {fC fI fS fB fA aD aB aA c9 P9 : Addr} {dS dB dA : Value} {oD oB oA : Obj} {tD tB tA : Tok} {nD nB nA : Nat}
  (hfr : ev.frame = some L) (hke : ev.scope.kind = .function) (X : K.In g) (T : Top p loose mean mg mb g) (B : Below A₀ base outer g)
  (hlen : nsIn K mainGlobals (Str.ofString "len") = some none) (hrange : nsIn K mainGlobals (Str.ofString "range") = some none) (hmax : nsIn K mainGlobals (Str.ofString "max") = some none) (hM : nsIn K mainGlobals (Str.ofString "MAX_DISTANCE_INPUT_LEN") = some (some (.int 2000 t4)))
  (hmin : nsIn K mainGlobals (Str.ofString "min") = some none) (hlist : nsIn K mainGlobals (Str.ofString "list") = some none) (hrev : nsIn K mainGlobals (Str.ofString "reversed") = some none)
  (HC : FnAt K (Str.ofString "_check_distance_input_len") chkSt .none fC) (HI : FnAt K (Str.ofString "_edit_dist_init") initSt .none fI)
  (HS : FnAt K (Str.ofString "_edit_dist_step") stepSt dS fS) (HB : FnAtC K (Str.ofString "_edit_dist_backtrace") btSt dB fB c9) (HA : FnAt K (Str.ofString "edit_distance_align") alSt dA fA)
  (hdS : dS = .ref aD) (hdO : K.lookup aD = some oD) (hdQ : oD.data = .seq #[.int 1 tD, .bool false] nD) (hdB : dB = .ref aB) (hbO : K.lookup aB = some oB) (hbQ : oB.data = .seq #[.int 1 tB] nB)
  (hdA : dA = .ref aA) (haO : K.lookup aA = some oA) (haQ : oA.data = .seq #[.int 1 tA] nA) (C : Hid (CodeHd g c9 P9)) (hP9 : (P9, tabObj #[]) ∈ news)
  (N : News g L s.heap news) (F : Fr g L s.heap m) (hx1 : x1.length ≤ 10) (hx2 : x2.length ≤ 10) (hd : dp ≤ 450) (hu : un ≤ 50)
  (hQ : ∀ R its pts c u ps h' tk news', Fr g L h' m → News g L h' news' → (∀ p ∈ news, p.1 ≠ P9 → p ∈ news') → (R, listOf (List.reverse its).toArray c) ∈ news' → TupsAre news' its pts → Bord u (x1.length + 1) (x2.length + 1) → (∀ a b, 1 ≤ a → a ≤ x1.length → 1 ≤ b → b ≤ x2.length → CellEq x1 x2 sc false u a b) →
    BackPath x1 x2 sc u x1.length x2.length pts → pts[pts.length - 1]? = some (0, 0) → its.length ≤ 30 → (P9, tabObj ps) ∈ news' → Q (.ref R) { s with heap := h', toks := tk }) :
  wpAny (model prog w) ((Ar dp un (some outer) gd).deeper ev) (call (.ref fA) [.str x1 t1, .str x2 t2, .int sc t3] []) Q E s := by
  subst hdA
  refine fnAt_take HA rfl ?_
  clear HA
  intro hAn hAk ocA odA kVA docA pmA anA cdA ctA oslA hoA hcA
  refine call_fn (fun v news' => ∃ R its pts c u, v = .ref R ∧ (∀ p ∈ news, p.1 ≠ P9 → p ∈ news') ∧ (R, listOf (List.reverse its).toArray c) ∈ news' ∧ TupsAre news' its pts ∧ Bord u (x1.length + 1) (x2.length + 1) ∧ (∀ a b, 1 ≤ a → a ≤ x1.length → 1 ≤ b → b ≤ x2.length → CellEq x1 x2 sc false u a b) ∧
      BackPath x1 x2 sc u x1.length x2.length pts ∧ pts[pts.length - 1]? = some (0, 0) ∧ its.length ≤ 30 ∧ ∃ ps, (P9, tabObj ps) ∈ news')
    B F X N T rfl hfr hke hoA hcA ?_ (binds_K (X.keeps F.keep) rfl haO haQ rfl rfl) (locs rfl) rfl rfl rfl (by decide) (fun g' L' h₁ tk FG F' N' B' X' T' => al_ok (sc := sc) X' T' B' N' F' hlen hrange hmax hM hmin hlist hrev HC HI HS HB hdS hdO hdQ hdB hbO hbQ (CodeHd.keeps C FG.keep) hP9
      (fun u hB hC a b ha hb => Int.le_trans (ed_small hB hC a b ha hb) (by omega)) hx1 hx2 (show dp + 1 ≤ 480 by omega) (show un + 3 ≤ 80 by omega)
      (fun R its pts c u h' tk m' news' F2 N2 hk hR hT hB hC hBP hl hs htb => fn_ret F2 N2 (exi_5_10 R its pts c u rfl hk hR hT hB hC hBP hl hs htb))) ?_
  · show dp + 1 < _
    have : recursionLimit = 1000 := rfl
    omega
  intro v_ news' h' tk' hJ1 F2 N2
  refine exe_5_10 hJ1 ?_
  clear hJ1
  intro R its pts c u eq2 h1 h2 h3 h4 h5 h6 h7 h8 h10
  subst eq2
  refine Exists.elim h10 ?_
  intro ps h9
  exact hQ R its pts c u ps h' tk' news' F2 N2 h1 h2 h3 h4 h5 h6 h7 h8 h9
def lawB2 : List Stmt := lawB.drop 4
set_option maxRecDepth 100000 in
set_option maxHeartbeats 8000000 in
theorem law2_ok {prog : Program} {w : World} {dp un : Nat} {A₀ : Around} {base : Heap} {outer : List Env} {gd : Option (List Code)} {g : Heap} {L f c9 P9 : Addr} {cd : Value} {s : Shared} {news : List (Addr × Obj)} {K : Frag} {Q : Flow → Shared → Prop}
  {p : Program} {loose : List Str} {mean : ExcName → Option Value} {mg mb : Str → Option Value} {m0 : Str → Option Value}
  {x1 x2 : Str} {t1 t2 t3 t4 : Tok} {sc : Int} {tr : Bool} {fC fI fL fS fB fE fT fA aD aB aE aA : Addr} {dS dB dE dA : Value} {oD oB oE oA oT oI oJ : Obj} {tD tB tE tA : Tok} {nD nB nE nA : Nat} {vT vI vJ : Option Value}
  (X : K.In g) (T : Top p loose mean mg mb g) (B : Below A₀ base outer g) (N : News g L s.heap news)
  (F : Fr g L s.heap (fun y => if y = Str.ofString "first" then some (.str x1 t1) else if y = Str.ofString "second" then some (.str x2 t2) else if y = Str.ofString "cost" then some (.int sc t3) else if y = Str.ofString "swaps" then some (.bool tr) else m0 y))
  (hlen : nsIn K mainGlobals (Str.ofString "len") = some none) (hrange : nsIn K mainGlobals (Str.ofString "range") = some none) (hmax : nsIn K mainGlobals (Str.ofString "max") = some none) (hM : nsIn K mainGlobals (Str.ofString "MAX_DISTANCE_INPUT_LEN") = some (some (.int 2000 t4)))
  (hmin : nsIn K mainGlobals (Str.ofString "min") = some none) (hlist : nsIn K mainGlobals (Str.ofString "list") = some none) (hrev : nsIn K mainGlobals (Str.ofString "reversed") = some none) (hint : nsIn K mainGlobals (Str.ofString "int") = some none)
  (HC : FnAt K (Str.ofString "_check_distance_input_len") chkSt .none fC) (HI : FnAt K (Str.ofString "_edit_dist_init") initSt .none fI) (HL : FnAt K (Str.ofString "_last_left_t_init") lltSt .none fL)
  (HS : FnAt K (Str.ofString "_edit_dist_step") stepSt dS fS) (HB : FnAtC K (Str.ofString "_edit_dist_backtrace") btSt dB fB c9)
  (HE : FnAt K (Str.ofString "edit_distance") edSt dE fE) (HT : FnAt K (Str.ofString "_law_table") tabSt .none fT) (HA : FnAt K (Str.ofString "edit_distance_align") alSt dA fA)
  (hdS : dS = .ref aD) (hdO : K.lookup aD = some oD) (hdQ : oD.data = .seq #[.int 1 tD, .bool false] nD) (hdB : dB = .ref aB) (hbO : K.lookup aB = some oB) (hbQ : oB.data = .seq #[.int 1 tB] nB)
  (hdE : dE = .ref aE) (heO : K.lookup aE = some oE) (heQ : oE.data = .seq #[.int 1 tE, .bool false] nE) (hdA : dA = .ref aA) (haO : K.lookup aA = some oA) (haQ : oA.data = .seq #[.int 1 tA] nA)
  (C : Hid (CodeHd g c9 P9)) (hP9 : (P9, tabObj #[]) ∈ news) (hP9L : P9 < L)
  (hmT : (L + 1 + 1, oT) ∈ news) (hdT : oT.data = .cell vT) (hmI : (L + 1 + 1 + 1, oI) ∈ news) (hdI : oI.data = .cell vI) (hmJ : (L + 1 + 1 + 1 + 1, oJ) ∈ news) (hdJ : oJ.data = .cell vJ)
  (hsc : 0 ≤ sc) (hx1 : x1.length ≤ 10) (hx2 : x2.length ≤ 10) (hd : dp ≤ 450) (hu : un ≤ 50)
  (hQ : ∀ h' tk m' news', Fr g L h' m' → News g L h' news' → (∃ ps, (P9, tabObj ps) ∈ news') → Q (.ret (.bool true)) { s with heap := h', toks := tk }) :
  wpAny (model prog w) ((Ar dp un (some outer) gd).deeper (lawEnv L f cd)) (execs lawB2 (lawEnv L f cd)) Q (fun _ _ => False) s := by
  have e : lawScope = fnScope lawSt := rfl
  dsimp only [lawEnv]
  dsimp only [lawSt, fnScope, at13, PySem.Challenge.pw_je0021_01] at e
  rw [e]
  clear e
  dsimp only [lawB2, List.drop, lawB, lawSt, fnBody, at13, PySem.Challenge.pw_je0021_01]
  have hEn := HE.name
  have hEk := HE.keep
  have hTn := HT.name
  have hTk := HT.keep
  have hAn := HA.name
  have hAk := HA.keep
  k_steps
  rename Fr _ _ _ _ => F2
  rename News _ _ _ _ => N2
  rename_i EA _ l1E _ l4E _ _
  have hEA0 : ∀ p ∈ news, p.1 < EA := l1E
  clear l1E l4E
  refine call_ed4 (by rfl) (by rfl) X T B hlen hrange hmax hM hmin HC HI HL HS HE hdS hdO hdQ hdE heO heQ N2 F2 hx1 hx2 hd hu ?_
  intro u1 tu1 h3 tk3 news1 F3 N3 hs1 hB1 hC1
  clear F2 N2
  have hEA1 := hs1 _ (List.Mem.head _)
  have hsub1 : ∀ p ∈ news, p ∈ news1 := fun p hp => hs1 p (.tail _ hp)
  clear hs1
  k_steps
  refine call_tab (by rfl) (by rfl) X T B hlen hrange hint hmin HT N3 F3 hx1 hx2 hd hu ?_
  intro d1 xs1 v1 h4 tk4 news2 F4 N4 hs2 TI1 hV1 hLC1 hap8 hap9
  clear hap8 hap9
  clear F3 N3
  have hEq1 : u1 x1.length x2.length = v1 x1.length x2.length := tab_eq hB1 hC1 hLC1 (x1.length + x2.length + 1) _ _ (by omega) (Nat.le_refl _) (Nat.le_refl _)
  refine exe_2_1 (hV1 _ _ (Nat.le_refl _) (Nat.le_refl _)) ?_
  intro ca1 ta1 hat1
  rw [← hEq1] at hat1
  have hEA2 := hs2 _ hEA1
  have hsub2 : ∀ p ∈ news, p ∈ news2 := fun p hp => hs2 p (hsub1 p hp)
  clear hs2 hsub1 hEA1 hV1 hLC1 hB1 hC1 hEq1
  k_steps
  · rename _ ≠ _ => hh
    exact absurd rfl hh
  clear hat1
  refine call_tab (by rfl) (by rfl) X T B hlen hrange hint hmin HT N4 F4 hx1 hx2 hd hu ?_
  intro d2 xs2 v2 h5 tk5 news3 F5 N5 hs3 TI2 hV2 hLC2 hap1 hap2
  clear F4 N4 TI1
  have hEA3 := hs3 _ hEA2
  have hsub3 : ∀ p ∈ news, p ∈ news3 := fun p hp => hs3 p (hsub2 p hp)
  have apT : ∀ (a : Addr) (o : Obj), (a, o) ∈ news → ∀ b, (b = d2 ∨ ∃ x ∈ xs2, b = x.2.1) → b ≠ a := by
    intro a o ha b hb e
    subst e
    rcases hb with e | ⟨x, hx, e⟩
    · exact hap1 _ (hsub2 _ ha) e
    · exact hap2 x hx _ (hsub2 _ ha) e
  clear hs3 hsub2 hEA2 hap1 hap2
  have neT : ∀ p ∈ news, ∀ q : Addr × Obj, q.1 = EA → q.1 ≠ p.1 := fun p hp q e => by rw [e]; exact Nat.ne_of_gt (hEA0 p hp)
  refine cell_set F5 N5 (by rfl) (hsub3 _ hmT) hdT ?_ (by rfl) (by rfl)
  intro h6 news4 oT' F6 N6 hmT4 hdT4 hk4
  clear F5 N5
  have hEA4 := hk4 _ hEA3 (Nat.ne_of_gt (hEA0 _ hmT))
  have hP94 := hk4 _ (hsub3 _ hP9) (Nat.ne_of_lt (Nat.lt_succ_of_lt (Nat.lt_succ_of_lt hP9L)))
  have hmI4 := hk4 _ (hsub3 _ hmI) (Nat.ne_of_gt (Nat.lt_succ_self _))
  have hmJ4 := hk4 _ (hsub3 _ hmJ) (Nat.ne_of_gt (Nat.lt_succ_of_lt (Nat.lt_succ_self _)))
  have TI4 : TabIn prog w news4 d2 xs2 := TI2.mono2 (fun p hp h => hk4 p hp (apT _ _ hmT _ h))
  clear TI2 hk4 hsub3 hEA3
  k_steps
  rename Fr _ _ _ _ => F7
  rename News _ _ _ _ => N7
  refine call_al (by rfl) (by rfl) X T B hlen hrange hmax hM hmin hlist hrev HC HI HS HB HA hdS hdO hdQ hdB hbO hbQ hdA haO haQ C hP94 N7 F7 hx1 hx2 hd hu ?_
  intro R its pts cR u ps5 h7 tk7 news5 F8 N8 hk5 hR5 hTups hBu hCu hBP hlast hlen30 htb5
  clear F7 N7
  have huv : ∀ a b, a ≤ x1.length → b ≤ x2.length → u a b = v2 a b := fun a b ha hb => tab_eq hBu hCu hLC2 (a + b + 1) a b (by omega) ha hb
  have hV : ∀ a b, a ≤ x1.length → b ≤ x2.length → HasV xs2 u a b := fun a b ha hb => by
    obtain ⟨c, t, h⟩ := hV2 a b ha hb
    exact ⟨c, t, by rw [huv a b ha hb]; exact h⟩
  have hLC : ∀ a b, a ≤ x1.length → b ≤ x2.length → LawCell x1 x2 sc false u a b := fun a b ha hb => (hLC2 a b ha hb).congr (fun a' b' h1 h2 => huv a' b' (by omega) (by omega))
  clear hV2 hLC2 huv hBu hCu
  have hEA5 := hk5 _ hEA4 (Nat.ne_of_gt (hEA0 _ hP9))
  have hmT5 := hk5 _ hmT4 (Nat.ne_of_gt (Nat.lt_succ_of_lt (Nat.lt_succ_of_lt hP9L)))
  have hmI5 := hk5 _ hmI4 (Nat.ne_of_gt (Nat.lt_succ_of_lt (Nat.lt_succ_of_lt (Nat.lt_succ_of_lt hP9L))))
  have hmJ5 := hk5 _ hmJ4 (Nat.ne_of_gt (Nat.lt_succ_of_lt (Nat.lt_succ_of_lt (Nat.lt_succ_of_lt (Nat.lt_succ_of_lt hP9L)))))
  have TI5 : TabIn prog w news5 d2 xs2 := TI4.mono2 (fun p hp h => hk5 p hp (apT _ _ hP9 _ h))
  clear TI4 hk5 hEA4 hmT4 hmI4 hmJ4 hP94
  have hl1 : 1 ≤ pts.length := by
    have := (List.getElem?_eq_some_iff.mp hlast).1
    omega
  have hrl : (List.reverse its).length = pts.length := by rw [List.length_reverse, hTups.1]
  have hl30 : pts.length ≤ 30 := by rw [← hTups.1]; exact hlen30
  refine exe_3_2 (path_at hTups _ _ hlast) ?_
  intro A0 q0 q0' eA0 mA0
  refine exe_3_2 (path_at hTups 0 _ hBP.1) ?_
  intro A1 q1 q1' eA1 mA1
  have hp0 : (List.reverse its)[(0 : Int).toNat]? = some (.ref A0) := by
    rw [← eA0]
    congr 1
    omega
  have hp1 : (List.reverse its)[((-1 : Int) + ((List.reverse its).length : Int)).toNat]? = some (.ref A1) := by
    rw [← eA1]
    congr 1
    omega
  clear eA0 eA1
  k_steps
  rename Fr _ _ _ _ => F9
  rename News _ _ _ _ => N9
  refine call_ed3 (by rfl) (by rfl) X T B hlen hrange hmax hM hmin HC HI HL HS HE hdS hdO hdQ hdE heO heQ N9 F9 hx1 hx2 hd hu ?_
  intro u3 tu3 h10 tk10 news6 F10 N10 hs6 hB3 hC3
  clear F9 N9
  have hEq3 : u3 x1.length x2.length = u x1.length x2.length := tab_eq hB3 hC3 hLC (x1.length + x2.length + 1) _ _ (by omega) (Nat.le_refl _) (Nat.le_refl _)
  rw [hEq3]
  refine exe_2_1 (hV _ _ (Nat.le_refl _) (Nat.le_refl _)) ?_
  intro ca3 ta3 hat3
  have hEA6 := hs6 _ hEA5
  have hmT6 := hs6 _ hmT5
  have htb6 := hs6 _ htb5
  have hmI6 := hs6 _ hmI5
  have hmJ6 := hs6 _ hmJ5
  have hR6 := hs6 _ hR5
  have mA06 := hs6 _ mA0
  have mA16 := hs6 _ mA1
  have TI6 : TabIn prog w news6 d2 xs2 := TI5.mono2 (fun p hp _ => hs6 p hp)
  have hTups6 : TupsAre news6 its pts := ⟨hTups.1, fun k p hp => let ⟨a, t, t', e, m⟩ := hTups.2 k p hp; ⟨a, t, t', e, hs6 _ m⟩⟩
  clear TI5 hs6 hEA5 hmT5 hmI5 hmJ5 hR5 mA0 mA1 hTups hB3 hC3
  k_steps
  · rename _ ≠ _ => hh
    exact absurd rfl hh
  rename Fr _ _ _ _ => F11
  rename News _ _ _ _ => N11
  refine loop_ok (x1 := x1) (x2 := x2) (u := u) (its := its) (pts := pts) (sc := sc) X T N11
    (fr_known0 (Str.ofString "total") (fr_known0 (Str.ofString "path") (fr_known0 (Str.ofString "end") (fr_known0 (Str.ofString "first") (fr_known0 (Str.ofString "second") (fr_known0 (Str.ofString "cost") F11 rfl) rfl) rfl) rfl) rfl) rfl)
    hlen hrange (.tail _ hmT6) hdT4 (.tail _ hmI6) hdI (.tail _ hmJ6) hdJ hx1 hx2 (show un + 3 ≤ 100 by omega) (.tail _ hR6) (.tail _ hEA6) ⟨hTups6.1, fun k p hp => let ⟨a, t, t', e, m⟩ := hTups6.2 k p hp; ⟨a, t, t', e, .tail _ m⟩⟩ hBP hlast hlen30 TI6.cons hV hLC
    (fun h' tk m' news' F' N' hk => hQ h' tk m' news' F' N' ⟨ps5, hk _ (.tail _ htb6) (Nat.ne_of_lt (Nat.lt_succ_of_lt (Nat.lt_succ_of_lt (Nat.lt_succ_of_lt hP9L)))) (Nat.ne_of_lt (Nat.lt_succ_of_lt (Nat.lt_succ_of_lt (Nat.lt_succ_of_lt (Nat.lt_succ_of_lt hP9L)))))⟩)
-- part WLaw1
end
end
end
section
local macro_rules | `(tactic| k_data) => `(tactic| with_reducible first | refine g_join ?_ | refine g_ast ?_)

def TapeAt (news : List (Addr × Obj)) (TP CL : Addr) (a : Int) : Prop := ∃ t c, (TP, listOf [Value.ref CL, Value.int a t].toArray c) ∈ news
theorem TapeAt.mono {news news' : List (Addr × Obj)} {TP CL : Addr} {a : Int} (h : TapeAt news TP CL a) (hk : ∀ p ∈ news, p.1 = TP → p ∈ news') : TapeAt news' TP CL a := by
  obtain ⟨t, c, h⟩ := h
  exact ⟨t, c, hk _ h rfl⟩
theorem TapeAt.off {nw : List (Addr × Obj)} {TP CL I C D : Addr} {a : Int} (h : TapeAt nw TP CL a) (off : LCg.Off3 I C D nw) : I ≠ TP ∧ C ≠ TP ∧ D ≠ TP := by
  obtain ⟨t, c, h⟩ := h
  obtain ⟨h1, h2, h3⟩ := off.mem _ h
  exact ⟨Ne.symm h1, Ne.symm h2, Ne.symm h3⟩
theorem item_one (x : Str) (k : Int) (h0 : 0 ≤ k) (h1 : k < x.length) : (Txt.item x k).length = 1 := by
  have hl : x.length = x.cps.size := rfl
  have e : Txt.item x k = ⟨#[x.cps.getD k.toNat 0]⟩ := item_at (by omega) (by omega) (by omega)
  rw [e]; rfl
theorem sum_ones : ∀ (l : List Str), (∀ x ∈ l, x.length = 1) → (l.map (·.length)).sum = l.length
  | [], _ => rfl
  | a :: r, h => by
    rw [List.map_cons, List.sum_cons, h a List.mem_cons_self, sum_ones r fun x hx => h x (List.mem_cons_of_mem _ hx), List.length_cons, Nat.add_comm]
theorem strs_len {vs : List Value} {ys : List Str} (h : StrsAre vs ys) : vs.length = ys.length := by
  induction h with
  | nil => rfl
  | cons y t _ ih => simp [ih]
set_option maxRecDepth 100000 in
set_option maxHeartbeats 8000000 in
theorem call_take {prog : Program} {w : World} {dp un : Nat} {A₀ : Around} {base : Heap} {outer : List Env} {gd : Option (List Code)} {g : Heap} {L : Addr} {ev : Env} {s : Shared} {news : List (Addr × Obj)} {K : Frag} {Q E : Value → Shared → Prop}
  {p : Program} {loose : List Str} {mean : ExcName → Option Value} {mg mb m : Str → Option Value}
  {TP CL fTk : Addr} {at_ most : Int} {t2 : Tok} {c2 : Nat} {vs : List Value} {ns : List Int}
  (hfr : ev.frame = some L) (hke : ev.scope.kind = .function) (X : K.In g) (T : Top p loose mean mg mb g) (B : Below A₀ base outer g) (HTk : FnAt K (Str.ofString "_law_take") takeSt .none fTk) (hlen : nsIn K mainGlobals (Str.ofString "len") = some none)
  (N : News g L s.heap news) (F : Fr g L s.heap m)
  (hT : TapeAt news TP CL at_) (hC : (CL, listOf vs.toArray c2) ∈ news) (hI : IntsAre vs ns) (h0 : 0 < vs.length) (h1 : vs.length ≤ 100) (ha : 0 ≤ at_) (hb : at_ ≤ 1000) (hm : 0 < most) (hm2 : most ≤ 100) (hne : CL ≠ TP) (hd : dp ≤ 450)
  (hQ : ∀ v t h' tk news', 0 ≤ v → v < most → Fr g L h' m → News g L h' news' → TapeAt news' TP CL (at_ + 1) → (∀ p ∈ news, p.1 ≠ TP → p ∈ news') → Q (.int v t) { s with heap := h', toks := tk }) :
  wpAny (model prog w) ((Ar dp un (some outer) gd).deeper ev) (call (.ref fTk) [.ref TP, .int most t2] []) Q E s := by
  refine fnAt_take HTk rfl ?_
  clear HTk
  intro hTkn hTkk ocK odK kVK docK pmK anK cdK ctK oslK hoK hcK
  obtain ⟨t, c, hT⟩ := hT
  refine call_fn (fun v news' => ∃ x t, v = .int x t ∧ 0 ≤ x ∧ x < most ∧ TapeAt news' TP CL (at_ + 1) ∧ (∀ p ∈ news, p.1 ≠ TP → p ∈ news'))
    B F X N T rfl hfr hke hoK hcK ?_ (BindsTo.of_eq rfl) (locs rfl) rfl rfl rfl (by decide) (fun g' L' h₁ tk FG F' N' B' X' T' => take_ok X' T' N' F' hlen hT hC hI h0 h1 ha hb hm hm2 hne
      (fun v t t' h' tk m' news' h1 h2 F2 N2 h3 h4 => fn_ret F2 N2 (exi_2_5 v t rfl h1 h2 ⟨t', c, h3⟩ h4))) ?_
  · show dp + 1 < _
    have : recursionLimit = 1000 := rfl
    omega
  intro v_ news' h' tk' hJ1 F2 N2
  refine exe_2_5 hJ1 ?_
  clear hJ1
  intro x t' eq2 h1 h2 h3 h4
  subst eq2
  exact hQ x t' h' tk' news' h1 h2 F2 N2 h3 h4
set_option maxRecDepth 100000 in
set_option maxHeartbeats 8000000 in
theorem law_ok {prog : Program} {w : World} {dp un : Nat} {A₀ : Around} {base : Heap} {outer : List Env} {gd : Option (List Code)} {g : Heap} {L f c9 P9 : Addr} {cd : Value} {s : Shared} {news : List (Addr × Obj)} {K : Frag} {Q : Flow → Shared → Prop}
  {p : Program} {loose : List Str} {mean : ExcName → Option Value} {mg mb : Str → Option Value}
  {S : Addr} {vs : List Value} {ns : List Int}
  {t4 : Tok} {fC fI fL fS fB fE fT fA fTp fTk aD aB aE aA : Addr} {dS dB dE dA : Value} {oD oB oE oA o1 o2 o3 o4 : Obj} {tD tB tE tA : Tok} {nD nB nE nA : Nat}
  (X : K.In g) (T : Top p loose mean mg mb g) (B : Below A₀ base outer g) (N : News g L s.heap news)
  (F : Fr g L s.heap (fun y => if y = Str.ofString "script" then some (Value.ref S) else none))
  (hS : g.IsList S vs.toArray) (hI : IntsAre vs ns) (hl : ns.length ≤ 63)
  (hlen : nsIn K mainGlobals (Str.ofString "len") = some none) (hrange : nsIn K mainGlobals (Str.ofString "range") = some none) (hmax : nsIn K mainGlobals (Str.ofString "max") = some none) (hM : nsIn K mainGlobals (Str.ofString "MAX_DISTANCE_INPUT_LEN") = some (some (.int 2000 t4)))
  (hmin : nsIn K mainGlobals (Str.ofString "min") = some none) (hlist : nsIn K mainGlobals (Str.ofString "list") = some none) (hrev : nsIn K mainGlobals (Str.ofString "reversed") = some none) (hint : nsIn K mainGlobals (Str.ofString "int") = some none) (habs : nsIn K mainGlobals (Str.ofString "abs") = some none)
  (HC : FnAt K (Str.ofString "_check_distance_input_len") chkSt .none fC) (HI : FnAt K (Str.ofString "_edit_dist_init") initSt .none fI) (HL : FnAt K (Str.ofString "_last_left_t_init") lltSt .none fL)
  (HS : FnAt K (Str.ofString "_edit_dist_step") stepSt dS fS) (HB : FnAtC K (Str.ofString "_edit_dist_backtrace") btSt dB fB c9)
  (HE : FnAt K (Str.ofString "edit_distance") edSt dE fE) (HT : FnAt K (Str.ofString "_law_table") tabSt .none fT) (HA : FnAt K (Str.ofString "edit_distance_align") alSt dA fA)
  (HTp : FnAt K (Str.ofString "_law_tape") tapeSt .none fTp) (HTk : FnAt K (Str.ofString "_law_take") takeSt .none fTk)
  (hdS : dS = .ref aD) (hdO : K.lookup aD = some oD) (hdQ : oD.data = .seq #[.int 1 tD, .bool false] nD) (hdB : dB = .ref aB) (hbO : K.lookup aB = some oB) (hbQ : oB.data = .seq #[.int 1 tB] nB)
  (hdE : dE = .ref aE) (heO : K.lookup aE = some oE) (heQ : oE.data = .seq #[.int 1 tE, .bool false] nE) (hdA : dA = .ref aA) (haO : K.lookup aA = some oA) (haQ : oA.data = .seq #[.int 1 tA] nA)
  (C : Hid (CodeHd g c9 P9)) (hP9 : (P9, tabObj #[]) ∈ news) (hP9L : P9 < L)
  (hm1 : (L + 1, o1) ∈ news) (hd1 : o1.data = .cell none) (hm2 : (L + 1 + 1, o2) ∈ news) (hd2 : o2.data = .cell none) (hm3 : (L + 1 + 1 + 1, o3) ∈ news) (hd3 : o3.data = .cell none) (hm4 : (L + 1 + 1 + 1 + 1, o4) ∈ news) (hd4 : o4.data = .cell none)
  (hd : dp ≤ 450) (hu : un ≤ 50)
  (hQ : ∀ h' tk m' news', Fr g L h' m' → News g L h' news' → (∃ ps, (P9, tabObj ps) ∈ news') → Q (.ret (.bool true)) { s with heap := h', toks := tk }) :
  wpAny (model prog w) ((Ar dp un (some outer) gd).deeper (lawEnv L f cd)) (execs lawB (lawEnv L f cd)) Q (fun _ _ => False) s := by
  have e : lawScope = fnScope lawSt := rfl
  dsimp only [lawEnv]
  dsimp only [lawSt, fnScope, at13, PySem.Challenge.pw_je0021_01] at e
  rw [e]
  clear e
  dsimp only [lawB, lawSt, fnBody, at13, PySem.Challenge.pw_je0021_01]
  refine fnAt_take HTp rfl ?_
  clear HTp
  intro hTpn hTpk ocP odP kVP docP pmP anP cdP ctP oslP hoP hcP
  have hTkn := HTk.name
  have hTkk := HTk.keep
  k_steps
  rename Fr _ _ _ _ => F2
  rename News _ _ _ _ => N2
  refine call_fn (fun v news' => ∃ TP CL t c c2 ws ms, v = .ref TP ∧ IntsAre ws ms ∧ 0 < ws.length ∧ ws.length ≤ 100 ∧ CL ≠ TP ∧ (TP, listOf [Value.ref CL, Value.int 0 t].toArray c) ∈ news' ∧ (CL, listOf ws.toArray c2) ∈ news' ∧ (∀ p ∈ news, p.1 < TP) ∧ (∀ p ∈ news, p.1 < CL) ∧ (∀ p ∈ news, p ∈ news'))
    B F2 X N2 T rfl rfl rfl hoP hcP ?_ (BindsTo.of_eq rfl) (locs rfl) rfl rfl rfl (by decide) (fun g' L' h₁ tk FG F' N' B' X' T' => tape_ok X' T' N' F' habs (by obtain ⟨o, ho, hr⟩ := hS; exact ⟨o, FG.keep _ _ ho, hr⟩) hI hl
      (fun TP CL t c c2 ws ms h' tk m' news' h1 h2 h3 h4 F2 N2 h5 h6 h7 h8 h9 => fn_ret F2 N2 (exi_7_10 TP CL t c c2 ws ms rfl h1 h2 h3 h4 h5 h6 h7 h8 h9))) ?_
  · show dp + 1 < _
    have : recursionLimit = 1000 := rfl
    omega
  intro v_ news1 h1 tk1 hJ3 F3 N3
  refine exe_7_10 hJ3 ?_
  clear hJ3
  intro TP CL tt cT cC ws ms eq4 hms hw0 hw1 hCT hT1 hC1 lTP lCL hs1
  subst eq4
  clear F2 N2
  refine cell_set F3 N3 (by rfl) (hs1 _ hm1) hd1 ?_ (by rfl) (by rfl)
  intro h2 news2 o1' F4 N4 hm1' hd1' hk2
  have hT2 : TapeAt news2 TP CL 0 := ⟨tt, cT, hk2 _ hT1 (Nat.ne_of_gt (lTP _ hm1))⟩
  have hC2 := hk2 _ hC1 (Nat.ne_of_gt (lCL _ hm1))
  have hm1n : L + 1 ≠ TP := Nat.ne_of_lt (lTP _ hm1)
  have hm2' := hk2 _ (hs1 _ hm2) (Nat.ne_of_gt (Nat.lt_succ_self _))
  have hm3' := hk2 _ (hs1 _ hm3) (Nat.ne_of_gt (Nat.lt_succ_of_lt (Nat.lt_succ_self _)))
  have hm4' := hk2 _ (hs1 _ hm4) (Nat.ne_of_gt (Nat.lt_succ_of_lt (Nat.lt_succ_of_lt (Nat.lt_succ_self _))))
  have hP9' := hk2 _ (hs1 _ hP9) (Nat.ne_of_lt (Nat.lt_succ_of_lt hP9L))
  have hm2n : L + 1 + 1 ≠ TP := Nat.ne_of_lt (lTP _ hm2)
  have hm3n : L + 1 + 1 + 1 ≠ TP := Nat.ne_of_lt (lTP _ hm3)
  have hm4n : L + 1 + 1 + 1 + 1 ≠ TP := Nat.ne_of_lt (lTP _ hm4)
  have hP9n : P9 ≠ TP := Nat.ne_of_lt (lTP _ hP9)
  clear F3 N3 hk2 hs1 hT1 hC1 lTP lCL
  k_steps
  rename Fr _ _ _ _ => F5
  rename News _ _ _ _ => N5
  refine call_take (by rfl) (by rfl) X T B HTk hlen N5 F5 hT2 hC2 hms hw0 hw1 (by omega) (by omega) (by omega) (by omega) hCT hd ?_
  intro v1 tv1 h6 tk6 news3 hv0 hv1 F6 N6 hT3 hk3
  have hm13 := hk3 _ hm1' hm1n
  k_steps
  refine call_take (by rfl) (by rfl) X T B HTk hlen N6 F6 hT3 (hk3 _ hC2 hCT) hms hw0 hw1 (by omega) (by omega) (by omega) (by omega) hCT hd ?_
  intro v2 tv2 h7 tk7 news4 hv2 hv3 F7 N7 hT4 hk4
  have hk34 : ∀ p ∈ news2, p.1 ≠ TP → p ∈ news4 := fun p hp h => hk4 p (hk3 p hp h) h
  have hC4 := hk34 _ hC2 hCT
  have hm14 := hk34 _ hm1' hm1n
  have hm24 := hk34 _ hm2' hm2n
  have hm34 := hk34 _ hm3' hm3n
  have hm44 := hk34 _ hm4' hm4n
  have hP94 := hk34 _ hP9' hP9n
  clear hT2 hC2 hm1' hm2' hm3' hm4' hP9' hk3 hk4 hk34 hm13 F5 N5 F6 N6 hT3
  k_steps
  rename Fr _ _ _ _ => F8
  rename News _ _ _ _ => N8
  refine LCg.ListComp_U (F₀ := F8) (by with_unfolding_all rfl) (by decide) (by rfl) (by decide) (by rfl) ?_
  replace N8 : News g L _ news4 := fun p hp => N8 p (.tail _ hp)
  k_steps
  refine call_take (by rfl) (by rfl) X T B HTk hlen N8 F8 hT4 hC4 hms hw0 hw1 (by omega) (by omega) (by omega) (by omega) hCT hd ?_
  intro v5 tv5 h5a tk5a news5a hv50 hv51 F5a N5a hT5a hk5a
  clear F8 N8
  k_steps
  rename Fr _ _ _ _ => F8
  rename News _ _ _ _ => N8
  rename IsRange _ _ _ _ _ _ _ _ => hr
  refine LCg.CompSrc.range (n := v5.toNat) (by rfl) F8 N8 hr (small_one (by omega) (by omega) (by omega) (by omega)) (by rw [rangeSize_one]; split <;> omega) (Nat.le_trans (m := 1000) (by omega) (by decide)) ?_
  intro g'
  clear hr
  refine comp_inv (fun i ys nw => (∃ txs, StrsAre ys txs ∧ ∀ x ∈ txs, x.length = 1) ∧ ys.length = i ∧ TapeAt nw TP CL (0 + 1 + 1 + 1 + (i : Int)) ∧ (∀ p ∈ news4, p.1 ≠ TP → p ∈ nw)) ⟨⟨[], .nil, fun x hx => by cases hx⟩, rfl, ?_, ?_⟩ ?_ ?_
  · have e : (0 + 1 + 1 + 1 : Int) + ((0 : Nat) : Int) = 0 + 1 + 1 + 1 := by omega
    rw [e]; exact hT5a
  · exact fun p hp h => hk5a p hp h
  · rintro i v I oI CC oC D m₂ ys nw h tk E' hi hv ⟨⟨txs, hst, hone⟩, hyl, hTa, hkp⟩ hCobj hx F9 N9 off ne
    clear F8 N8
    have hm1c : (L + 1, o1') ∈ (I, oI) :: (CC, oC) :: (D, LCg.lst ys) :: nw := .tail _ (.tail _ (.tail _ (hkp _ hm14 hm1n)))
    refine exe_0_3 (hTa.off off) ?_
    intro nI nC nD
    k_steps
    refine call_take (by rfl) (by rfl) X T B HTk hlen N9 F9 (hTa.mono fun p hp _ => .tail _ (.tail _ (.tail _ hp))) (.tail _ (.tail _ (.tail _ (hkp _ hC4 hCT)))) hms hw0 hw1 (by omega) (by omega) (by omega) (by omega) hCT hd ?_
    intro x tx hx1 tkx nwx hx0 hx3 F10 N10 hTx hkx
    k_steps
    refine LCg.CompEnd.intro (by assumption) (by assumption) (nwx.filter fun p => p.1 != I && p.1 != CC && p.1 != D) ?_ ?_ True.intro ⟨⟨txs ++ [_], kct_snoc hst, ?_⟩, by simp [hyl], ?_, ?_⟩
    · intro p hp
      rcases List.mem_cons.mp hp with rfl | hp
      · exact hkx _ (.head _) nI
      · rcases List.mem_cons.mp hp with rfl | hp
        · exact hkx _ (.tail _ (.head _)) nC
        · rcases List.mem_cons.mp hp with rfl | hp
          · exact hkx _ (.tail _ (.tail _ (.head _))) nD
          · exact (List.mem_filter.mp hp).1
    · refine LCg.Off3.of fun p hp => ?_
      have := (List.mem_filter.mp hp).2
      simp at this
      exact ⟨this.1.1, this.1.2, this.2⟩
    · intro y hy
      rcases List.mem_append.mp hy with hy | hy
      · exact hone y hy
      · rw [List.mem_singleton.mp hy]
        exact item_one _ _ hx0 hx3
    · refine TapeAt.mono (a := 0 + 1 + 1 + 1 + ((i + 1 : Nat) : Int)) ?_ fun p hp e => List.mem_filter.mpr ⟨hp, by simp [e, Ne.symm nI, Ne.symm nC, Ne.symm nD]⟩
      have e : 0 + 1 + 1 + 1 + ((i + 1 : Nat) : Int) = 0 + 1 + 1 + 1 + (i : Int) + 1 := by omega
      rw [e]; exact hTx
    · intro p hp h
      have hp' := hkp p hp h
      obtain ⟨z1, z2, z3⟩ := off.mem _ hp'
      exact List.mem_filter.mpr ⟨hkx _ (.tail _ (.tail _ (.tail _ hp'))) h, by simp [show p.1 ≠ I from z1, show p.1 ≠ CC from z2, show p.1 ≠ D from z3]⟩
  rintro ys news5 ⟨⟨txs5, hst, hone⟩, hyl, hT5, hkp⟩ D5 h tk F9 N9 o1
  clear F8 N8
  have hsl : txs5.length ≤ 5 := by rw [← strs_len hst, hyl]; omega
  have hsm := sum_ones txs5 hone
  k_steps
  refine join_listW (News.isList (by assumption) (.head _)) (by simpa using hst) (by decide) (by rw [hsm]; omega) ?_
  intro t5' k5
  have hwl : (Txt.join (Str.ofString "") txs5).length ≤ 10 := by rw [KT.join_ones txs5 hone]; omega
  generalize Txt.join (Str.ofString "") txs5 = word5 at hwl ⊢
  have hC5 := hkp _ hC4 hCT
  have hm15 := hkp _ hm14 hm1n
  have hm25 := hkp _ hm24 hm2n
  have hm35 := hkp _ hm34 hm3n
  have hm45 := hkp _ hm44 hm4n
  have hP95 := hkp _ hP94 hP9n
  have hwl5 := hwl
  clear hst hone hyl hkp o1 hsl hsm hT5a hk5a hwl
  k_steps
  rename Fr _ _ _ _ => F8
  rename News _ _ _ _ => N8
  refine LCg.ListComp_U (F₀ := F8) (by with_unfolding_all rfl) (by decide) (by rfl) (by decide) (by rfl) ?_
  replace N8 : News g L _ news5 := fun p hp => N8 p (.tail _ hp)
  k_steps
  refine call_take (by rfl) (by rfl) X T B HTk hlen N8 F8 hT5 hC5 hms hw0 hw1 (by omega) (by omega) (by omega) (by omega) hCT hd ?_
  intro v6 tv6 h6a tk6a news6a hv60 hv61 F6a N6a hT6a hk6a
  clear F8 N8
  k_steps
  rename Fr _ _ _ _ => F8
  rename News _ _ _ _ => N8
  rename IsRange _ _ _ _ _ _ _ _ => hr
  refine LCg.CompSrc.range (n := v6.toNat) (by rfl) F8 N8 hr (small_one (by omega) (by omega) (by omega) (by omega)) (by rw [rangeSize_one]; split <;> omega) (Nat.le_trans (m := 1000) (by omega) (by decide)) ?_
  intro g'
  clear hr
  refine comp_inv (fun i ys nw => (∃ txs, StrsAre ys txs ∧ ∀ x ∈ txs, x.length = 1) ∧ ys.length = i ∧ TapeAt nw TP CL (0 + 1 + 1 + 1 + (v5.toNat : Int) + 1 + (i : Int)) ∧ (∀ p ∈ news5, p.1 ≠ TP → p ∈ nw)) ⟨⟨[], .nil, fun x hx => by cases hx⟩, rfl, ?_, ?_⟩ ?_ ?_
  · have e : (0 + 1 + 1 + 1 + (v5.toNat : Int) + 1 : Int) + ((0 : Nat) : Int) = 0 + 1 + 1 + 1 + (v5.toNat : Int) + 1 := by omega
    rw [e]; exact hT6a
  · exact fun p hp h => hk6a p hp h
  · rintro i v I oI CC oC D m₂ ys nw h tk E' hi hv ⟨⟨txs, hst, hone⟩, hyl, hTa, hkp⟩ hCobj hx F9 N9 off ne
    clear F8 N8
    have hm1c : (L + 1, o1') ∈ (I, oI) :: (CC, oC) :: (D, LCg.lst ys) :: nw := .tail _ (.tail _ (.tail _ (hkp _ hm15 hm1n)))
    refine exe_0_3 (hTa.off off) ?_
    intro nI nC nD
    k_steps
    refine call_take (by rfl) (by rfl) X T B HTk hlen N9 F9 (hTa.mono fun p hp _ => .tail _ (.tail _ (.tail _ hp))) (.tail _ (.tail _ (.tail _ (hkp _ hC5 hCT)))) hms hw0 hw1 (by omega) (by omega) (by omega) (by omega) hCT hd ?_
    intro x tx hx1 tkx nwx hx0 hx3 F10 N10 hTx hkx
    k_steps
    refine LCg.CompEnd.intro (by assumption) (by assumption) (nwx.filter fun p => p.1 != I && p.1 != CC && p.1 != D) ?_ ?_ True.intro ⟨⟨txs ++ [_], kct_snoc hst, ?_⟩, by simp [hyl], ?_, ?_⟩
    · intro p hp
      rcases List.mem_cons.mp hp with rfl | hp
      · exact hkx _ (.head _) nI
      · rcases List.mem_cons.mp hp with rfl | hp
        · exact hkx _ (.tail _ (.head _)) nC
        · rcases List.mem_cons.mp hp with rfl | hp
          · exact hkx _ (.tail _ (.tail _ (.head _))) nD
          · exact (List.mem_filter.mp hp).1
    · refine LCg.Off3.of fun p hp => ?_
      have := (List.mem_filter.mp hp).2
      simp at this
      exact ⟨this.1.1, this.1.2, this.2⟩
    · intro y hy
      rcases List.mem_append.mp hy with hy | hy
      · exact hone y hy
      · rw [List.mem_singleton.mp hy]
        exact item_one _ _ hx0 hx3
    · refine TapeAt.mono (a := 0 + 1 + 1 + 1 + (v5.toNat : Int) + 1 + ((i + 1 : Nat) : Int)) ?_ fun p hp e => List.mem_filter.mpr ⟨hp, by simp [e, Ne.symm nI, Ne.symm nC, Ne.symm nD]⟩
      have e : 0 + 1 + 1 + 1 + (v5.toNat : Int) + 1 + ((i + 1 : Nat) : Int) = 0 + 1 + 1 + 1 + (v5.toNat : Int) + 1 + (i : Int) + 1 := by omega
      rw [e]; exact hTx
    · intro p hp h
      have hp' := hkp p hp h
      obtain ⟨z1, z2, z3⟩ := off.mem _ hp'
      exact List.mem_filter.mpr ⟨hkx _ (.tail _ (.tail _ (.tail _ hp'))) h, by simp [show p.1 ≠ I from z1, show p.1 ≠ CC from z2, show p.1 ≠ D from z3]⟩
  rintro ys news6 ⟨⟨txs6, hst, hone⟩, hyl, hT6, hkp⟩ D6 h tk F9 N9 o1
  clear F8 N8
  have hsl : txs6.length ≤ 5 := by rw [← strs_len hst, hyl]; omega
  have hsm := sum_ones txs6 hone
  k_steps
  refine join_listW (News.isList (by assumption) (.head _)) (by simpa using hst) (by decide) (by rw [hsm]; omega) ?_
  intro t6' k6
  have hwl : (Txt.join (Str.ofString "") txs6).length ≤ 10 := by rw [KT.join_ones txs6 hone]; omega
  generalize Txt.join (Str.ofString "") txs6 = word6 at hwl ⊢
  have hC6 := hkp _ hC5 hCT
  have hm16 := hkp _ hm15 hm1n
  have hm26 := hkp _ hm25 hm2n
  have hm36 := hkp _ hm35 hm3n
  have hm46 := hkp _ hm45 hm4n
  have hP96 := hkp _ hP95 hP9n
  clear hst hone hyl hkp o1 hsl hsm hT6a hk6a
  k_steps
  rename Fr _ _ _ _ => F8
  rename News _ _ _ _ => N8
  exact law2_ok X T B N8 (fr_known0 (Str.ofString "first") (fr_known0 (Str.ofString "second") (fr_known0 (Str.ofString "cost") (fr_known0 (Str.ofString "swaps") F8 rfl) rfl) rfl) rfl)
    hlen hrange hmax hM hmin hlist hrev hint HC HI HL HS HB HE HT HA hdS hdO hdQ hdB hbO hbQ hdE heO heQ hdA haO haQ C (.tail _ hP96) hP9L (.tail _ hm26) hd2 (.tail _ hm36) hd3 (.tail _ hm46) hd4 hv0 hwl5 hwl hd hu (fun h' tk m' news' F' N' hk => hQ h' tk m' news' F' N' hk)
end
end
end Mine
-- part WHead
open PySem PySem.W PyProof.Rows PySem.Calls Mine
namespace Mine
theorem fn_at {K : Frag} {g : Heap} (Xk : K.In g) {nm : Str} {st : Stmt} {dV : Value} {f : Addr} {ps : Arguments} {oc : Value} {od : Option Addr} {kV doc pm : Value} {an : Option Addr} {cdv ct : Value} {osl : Array (Option Value)} (hp : fnParams st = some ps) (h1 : nsIn K mainGlobals nm = some (some (.ref f))) (h2 : keepIn K (.ref f) = true)
    (h3 : K.lookup f = some ⟨oc, od, .func (fnOf nm nm ps (fnBody st) (fnScope st) dV kV doc pm an cdv ct), osl⟩) (h4 : codeIn K cdv nm = true) : FnAt K nm st dV f := ⟨h1, h2, ps, oc, od, kV, doc, pm, an, cdv, ct, osl, hp, h3, h4⟩
theorem fn_atC {K : Frag} {g : Heap} (Xk : K.In g) {nm : Str} {st : Stmt} {dV : Value} {f c : Addr} {ps : Arguments} {oc : Value} {od : Option Addr} {kV doc pm : Value} {an : Option Addr} {ct : Value} {osl : Array (Option Value)} (hp : fnParams st = some ps) (h1 : nsIn K mainGlobals nm = some (some (.ref f))) (h2 : keepIn K (.ref f) = true)
    (h3 : K.lookup f = some ⟨oc, od, .func (fnOf nm nm ps (fnBody st) (fnScope st) dV kV doc pm an (.ref c) ct), osl⟩) (h4 : codeIn K (.ref c) nm = true) : FnAtC K nm st dV f c := ⟨h1, h2, ps, oc, od, kV, doc, pm, an, ct, osl, hp, h3, h4⟩
theorem look {K : Frag} {g : Heap} (Xk : K.In g) {a : Addr} {o : Obj} (h : K.lookup a = some o) : K.lookup a = some o := h
end Mine
set_option maxRecDepth 100000 in
set_option maxHeartbeats 8000000 in
theorem PySem.Challenge.cw_je0021_01_holds : PySem.Challenge.rw_je0021_01.Holds := by
  w_on
  o_law
  k_head
  case hw => w_witness2
  w_strict (
    k_go0
    rename Frag.In _ _ => X
    rename Below _ _ _ _ => B
    rename Fr _ _ _ _ => F
    rename News _ _ _ _ => N
    rename IntsAre _ _ => hI
    rename Top _ _ _ _ _ _ => T
    rename 52 < _ => hP
    rename ¬ _ < _ => hl
    have HC := fn_at X (nm := Str.ofString "_check_distance_input_len") (st := chkSt) rfl (by k_is) (by k_is) (by k_is) (by k_is)
    have HI := fn_at X (nm := Str.ofString "_edit_dist_init") (st := initSt) rfl (by k_is) (by k_is) (by k_is) (by k_is)
    have HL := fn_at X (nm := Str.ofString "_last_left_t_init") (st := lltSt) rfl (by k_is) (by k_is) (by k_is) (by k_is)
    have HT := fn_at X (nm := Str.ofString "_law_table") (st := tabSt) rfl (by k_is) (by k_is) (by k_is) (by k_is)
    have HTp := fn_at X (nm := Str.ofString "_law_tape") (st := tapeSt) rfl (by k_is) (by k_is) (by k_is) (by k_is)
    have HTk := fn_at X (nm := Str.ofString "_law_take") (st := takeSt) rfl (by k_is) (by k_is) (by k_is) (by k_is)
    have HS := fn_at X (nm := Str.ofString "_edit_dist_step") (st := stepSt) rfl (by k_is) (by k_is) (by k_is) (by k_is)
    have HE := fn_at X (nm := Str.ofString "edit_distance") (st := edSt) rfl (by k_is) (by k_is) (by k_is) (by k_is)
    have HA := fn_at X (nm := Str.ofString "edit_distance_align") (st := alSt) rfl (by k_is) (by k_is) (by k_is) (by k_is)
    have HB := fn_atC X (nm := Str.ofString "_edit_dist_backtrace") (st := btSt) rfl (by k_is) (by k_is) (by k_is) (by k_is)
    have LS := look X (a := 34) (by k_is)
    have LE := look X (a := 42) (by k_is)
    have LB := look X (a := 50) (by k_is)
    have LA := look X (a := 58) (by k_is)
    refine wpAny_mono (Q := _) (E := fun _ _ => False) (law_ok (A₀ := callerA) (dp := 1 + claimMargin) (un := 4) (outer := []) (gd := some []) (c9 := 56) (P9 := 52) X T B N F lifted hI (by omega)
      (by k_is) (by k_is) (by k_is) (by k_is) (by k_is) (by k_is) (by k_is) (by k_is) (by k_is) HC HI HL HS HB HE HT HA HTp HTk rfl LS rfl rfl LB rfl rfl LE rfl rfl LA rfl codeHd (.tail _ (.tail _ (.tail _ (.tail _ (.head _))))) hP
      (.tail _ (.tail _ (.tail _ (.head _)))) (by assumption) (.tail _ (.tail _ (.head _))) (by assumption) (.tail _ (.head _)) (by assumption) (.head _) (by assumption) (by decide) (by decide) ?_) (fun _ _ h => h) (fun _ _ h => h.elim)
    intro h' tk m' news' F' N' hps
    obtain ⟨ps, hps⟩ := hps
    refine And.intro ?_ (And.intro (Exists.intro ps (N' _ hps).1) True.intro)
    k_steps)
