import PyProof.Rows.All
import Wide.All
import OpenK.AllK
import Wide.FinOn
import KE.BitLaws
import PySem.Challenge.RW_sn0068_01
-- Hd
open PySem PySem.W PyProof.Rows
set_option Elab.async false
set_option maxRecDepth 100000
set_option maxHeartbeats 8000000
namespace Mine
name_quick tw8075568018651887793 for PySem.W.S.findZ by PySem.W.S.findZ_eq
name_quick tw14979626087600564940 for PySem.W.S.findZ by PySem.W.S.findZ_eq
name_quick tw12004734196287689953 for PySem.W.S.findZ by PySem.W.S.findZ_eq
name_quick tw10696756911842057967 for PySem.W.S.findZ by PySem.W.S.findZ_eq
name_quick tw158473206459781734 for PySem.W.S.findZ by PySem.W.S.findZ_eq
name_quick tw4294528693025177343 for PySem.W.S.findZ by PySem.W.S.findZ_eq
name_quick tw868157144444988819 for PySem.W.S.findZ by PySem.W.S.findZ_eq
name_quick tw10029231156530900338 for PySem.W.S.findZ by PySem.W.S.findZ_eq
name_quick tw17648843745064261011 for PySem.W.S.findZ by PySem.W.S.findZ_eq
name_quick tw701097294156878152 for PySem.W.S.findZ by PySem.W.S.findZ_eq
name_quick tw12268644228514654432 for PySem.W.S.findZ by PySem.W.S.findZ_eq
name_quick tw16414604833108395602 for PySem.W.S.findZ by PySem.W.S.findZ_eq
name_quick tw15672971873811296575 for PySem.W.S.findZ by PySem.W.S.findZ_eq
name_quick tw14473539162793888280 for PySem.W.S.findZ by PySem.W.S.findZ_eq
name_quick tw10938465397075749097 for PySem.W.S.findZ by PySem.W.S.findZ_eq
name_quick tw15263041282635125899 for PySem.W.S.findZ by PySem.W.S.findZ_eq
name_quick tw15313067249213587214 for PySem.W.S.findZ by PySem.W.S.findZ_eq
name_quick tw17111948838632640456 for PySem.W.S.findZ by PySem.W.S.findZ_eq
name_quick tw15742981410569661332 for PySem.W.S.findZ by PySem.W.S.findZ_eq
name_quick tw5706481520468235054 for PySem.W.S.findZ by PySem.W.S.findZ_eq
name_quick tw8686526503394165142 for PySem.W.S.findZ by PySem.W.S.findZ_eq
name_quick tw1258717718454355964 for PySem.W.S.findZ by PySem.W.S.findZ_eq
name_quick tw10528696920762540405 for PySem.W.S.findZ by PySem.W.S.findZ_eq
name_quick tw460243522976405022 for PySem.W.S.findZ by PySem.W.S.findZ_eq
name_quick tw2039238271031011813 for PySem.W.S.findZ by PySem.W.S.findZ_eq
name_quick tw10263206537837412290 for PySem.W.S.findZ by PySem.W.S.findZ_eq
name_quick tw16916688483869632129 for PySem.W.S.findZ by PySem.W.S.findZ_eq
name_quick tw951843321253372498 for PySem.W.S.findZ by PySem.W.S.findZ_eq
name_quick tw682011567655089306 for PySem.W.S.findZ by PySem.W.S.findZ_eq
name_quick tw13512673800721320934 for PySem.W.S.findZ by PySem.W.S.findZ_eq
name_quick tw10424941004445345732 for PySem.W.S.findZ by PySem.W.S.findZ_eq
name_quick tw11270796479367742343 for PySem.W.S.findZ by PySem.W.S.findZ_eq
name_quick tw14126943448341045398 for PySem.W.S.findZ by PySem.W.S.findZ_eq
name_quick tw4797165386629745026 for PySem.W.S.findZ by PySem.W.S.findZ_eq
name_quick tw17975652961387846372 for PySem.W.S.findZ by PySem.W.S.findZ_eq
name_quick tw1503297043503765363 for PySem.W.S.findZ by PySem.W.S.findZ_eq
name_quick tw9467589175468403638 for PySem.W.S.findZ by PySem.W.S.findZ_eq
name_quick tw4552823106982906706 for PySem.W.S.findZ by PySem.W.S.findZ_eq
name_quick tw13981391230805400906 for PySem.W.S.findZ by PySem.W.S.findZ_eq
name_quick tw10887116778572429059 for PySem.W.S.findZ by PySem.W.S.findZ_eq
name_quick tw1355338860687761863 for PySem.W.S.findZ by PySem.W.S.findZ_eq
name_quick tw6122645084068987007 for PySem.W.S.findZ by PySem.W.S.findZ_eq
name_quick tw6679490504615227074 for PySem.W.S.findZ by PySem.W.S.findZ_eq
name_quick tw11543547407058413889 for PySem.W.S.findZ by PySem.W.S.findZ_eq
name_quick tw16350708796919097252 for PySem.W.S.findZ by PySem.W.S.findZ_eq
name_quick tw8206430501311747189 for PySem.W.S.findZ by PySem.W.S.findZ_eq
name_quick tw2408619945344806742 for PySem.W.S.findZ by PySem.W.S.findZ_eq
name_quick tw8753696776887207221 for PySem.W.S.findZ by PySem.W.S.findZ_eq
name_quick tw6683783046931543321 for PySem.W.S.findZ by PySem.W.S.findZ_eq
open_top hd for PySem.Challenge.rw_sn0068_01
end Mine

-- El
set_option Elab.async false
set_option linter.all false
namespace Mine
theorem el_AE2ALLL {a0 : Sort _} {a1 : Sort _} {A0 : a0 → a1 → Prop} {A1 : a0 → a1 → Prop} {A2 : Prop} (h : (∃ v0, ∃ v1, (A0 v0 v1) ∧ (A1 v0 v1)) ∧ (A2)) {P : Prop} (k : ∀ v0, ∀ v1, A0 v0 v1 → A1 v0 v1 → A2 → P) : P := h.1.elim fun v0 e0 => e0.elim fun v1 e1 => k v0 v1 e1.1 e1.2 h.2
theorem el_ALALL {A0 : Prop} {A1 : Prop} {A2 : Prop} (h : (A0) ∧ ((A1) ∧ (A2))) {P : Prop} (k : A0 → A1 → A2 → P) : P := k h.1 h.2.1 h.2.2
theorem el_ALL {A0 : Prop} {A1 : Prop} (h : (A0) ∧ (A1)) {P : Prop} (k : A0 → A1 → P) : P := k h.1 h.2
theorem el_EALALL {a0 : Sort _} {A0 : a0 → Prop} {A1 : a0 → Prop} {A2 : a0 → Prop} (h : ∃ v0, (A0 v0) ∧ ((A1 v0) ∧ (A2 v0))) {P : Prop} (k : ∀ v0, A0 v0 → A1 v0 → A2 v0 → P) : P := h.elim fun v0 e0 => k v0 e0.1 e0.2.1 e0.2.2
theorem el_EALL {a0 : Sort _} {A0 : a0 → Prop} {A1 : a0 → Prop} (h : ∃ v0, (A0 v0) ∧ (A1 v0)) {P : Prop} (k : ∀ v0, A0 v0 → A1 v0 → P) : P := h.elim fun v0 e0 => k v0 e0.1 e0.2
theorem el_E2ALAE2LL {a0 : Sort _} {a1 : Sort _} {A0 : a0 → a1 → Prop} {a2 : Sort _} {a3 : Sort _} {A1 : a0 → a1 → a2 → a3 → Prop} {A2 : a0 → a1 → Prop} (h : ∃ v0, ∃ v1, (A0 v0 v1) ∧ ((∃ v2, ∃ v3, A1 v0 v1 v2 v3) ∧ (A2 v0 v1))) {P : Prop} (k : ∀ v0, ∀ v1, A0 v0 v1 → ∀ v2, ∀ v3, A1 v0 v1 v2 v3 → A2 v0 v1 → P) : P := h.elim fun v0 e0 => e0.elim fun v1 e1 => e1.2.1.elim fun v2 e2 => e2.elim fun v3 e3 => k v0 v1 e1.1 v2 v3 e3 e1.2.2
theorem el_E2ALALALL {a0 : Sort _} {a1 : Sort _} {A0 : a0 → a1 → Prop} {A1 : a0 → a1 → Prop} {A2 : a0 → a1 → Prop} {A3 : a0 → a1 → Prop} (h : ∃ v0, ∃ v1, (A0 v0 v1) ∧ ((A1 v0 v1) ∧ ((A2 v0 v1) ∧ (A3 v0 v1)))) {P : Prop} (k : ∀ v0, ∀ v1, A0 v0 v1 → A1 v0 v1 → A2 v0 v1 → A3 v0 v1 → P) : P := h.elim fun v0 e0 => e0.elim fun v1 e1 => k v0 v1 e1.1 e1.2.1 e1.2.2.1 e1.2.2.2
theorem el_E2ALL {a0 : Sort _} {a1 : Sort _} {A0 : a0 → a1 → Prop} {A1 : a0 → a1 → Prop} (h : ∃ v0, ∃ v1, (A0 v0 v1) ∧ (A1 v0 v1)) {P : Prop} (k : ∀ v0, ∀ v1, A0 v0 v1 → A1 v0 v1 → P) : P := h.elim fun v0 e0 => e0.elim fun v1 e1 => k v0 v1 e1.1 e1.2
theorem el_E3ALALALL {a0 : Sort _} {a1 : Sort _} {a2 : Sort _} {A0 : a0 → a1 → a2 → Prop} {A1 : a0 → a1 → a2 → Prop} {A2 : a0 → a1 → a2 → Prop} {A3 : a0 → a1 → a2 → Prop} (h : ∃ v0, ∃ v1, ∃ v2, (A0 v0 v1 v2) ∧ ((A1 v0 v1 v2) ∧ ((A2 v0 v1 v2) ∧ (A3 v0 v1 v2)))) {P : Prop} (k : ∀ v0, ∀ v1, ∀ v2, A0 v0 v1 v2 → A1 v0 v1 v2 → A2 v0 v1 v2 → A3 v0 v1 v2 → P) : P := h.elim fun v0 e0 => e0.elim fun v1 e1 => e1.elim fun v2 e2 => k v0 v1 v2 e2.1 e2.2.1 e2.2.2.1 e2.2.2.2
theorem el_E3ALALL {a0 : Sort _} {a1 : Sort _} {a2 : Sort _} {A0 : a0 → a1 → a2 → Prop} {A1 : a0 → a1 → a2 → Prop} {A2 : a0 → a1 → a2 → Prop} (h : ∃ v0, ∃ v1, ∃ v2, (A0 v0 v1 v2) ∧ ((A1 v0 v1 v2) ∧ (A2 v0 v1 v2))) {P : Prop} (k : ∀ v0, ∀ v1, ∀ v2, A0 v0 v1 v2 → A1 v0 v1 v2 → A2 v0 v1 v2 → P) : P := h.elim fun v0 e0 => e0.elim fun v1 e1 => e1.elim fun v2 e2 => k v0 v1 v2 e2.1 e2.2.1 e2.2.2
theorem el_E2ALALL {a0 : Sort _} {a1 : Sort _} {A0 : a0 → a1 → Prop} {A1 : a0 → a1 → Prop} {A2 : a0 → a1 → Prop} (h : ∃ v0, ∃ v1, (A0 v0 v1) ∧ ((A1 v0 v1) ∧ (A2 v0 v1))) {P : Prop} (k : ∀ v0, ∀ v1, A0 v0 v1 → A1 v0 v1 → A2 v0 v1 → P) : P := h.elim fun v0 e0 => e0.elim fun v1 e1 => k v0 v1 e1.1 e1.2.1 e1.2.2
theorem el_E4ALL {a0 : Sort _} {a1 : Sort _} {a2 : Sort _} {a3 : Sort _} {A0 : a0 → a1 → a2 → a3 → Prop} {A1 : a0 → a1 → a2 → a3 → Prop} (h : ∃ v0, ∃ v1, ∃ v2, ∃ v3, (A0 v0 v1 v2 v3) ∧ (A1 v0 v1 v2 v3)) {P : Prop} (k : ∀ v0, ∀ v1, ∀ v2, ∀ v3, A0 v0 v1 v2 v3 → A1 v0 v1 v2 v3 → P) : P := h.elim fun v0 e0 => e0.elim fun v1 e1 => e1.elim fun v2 e2 => e2.elim fun v3 e3 => k v0 v1 v2 v3 e3.1 e3.2
theorem el_EL {a0 : Sort _} {A0 : a0 → Prop} (h : ∃ v0, A0 v0) {P : Prop} (k : ∀ v0, A0 v0 → P) : P := h.elim fun v0 e0 => k v0 e0
theorem el_AALEALLALE2ALL {A0 : Prop} {a0 : Sort _} {A1 : a0 → Prop} {A2 : a0 → Prop} {A3 : Prop} {a1 : Sort _} {a2 : Sort _} {A4 : a1 → a2 → Prop} {A5 : a1 → a2 → Prop} (h : ((A0) ∧ (∃ v0, (A1 v0) ∧ (A2 v0))) ∧ ((A3) ∧ (∃ v1, ∃ v2, (A4 v1 v2) ∧ (A5 v1 v2)))) {P : Prop} (k : A0 → ∀ v0, A1 v0 → A2 v0 → A3 → ∀ v1, ∀ v2, A4 v1 v2 → A5 v1 v2 → P) : P := h.1.2.elim fun v0 e0 => h.2.2.elim fun v1 e1 => e1.elim fun v2 e2 => k h.1.1 v0 e0.1 e0.2 h.2.1 v1 v2 e2.1 e2.2
theorem el_AELL {a0 : Sort _} {A0 : a0 → Prop} {A1 : Prop} (h : (∃ v0, A0 v0) ∧ (A1)) {P : Prop} (k : ∀ v0, A0 v0 → A1 → P) : P := h.1.elim fun v0 e0 => k v0 e0 h.2
theorem el_AALEALLAE2ALLAE2ALLEALL {A0 : Prop} {a0 : Sort _} {A1 : a0 → Prop} {A2 : a0 → Prop} {a1 : Sort _} {a2 : Sort _} {A3 : a1 → a2 → Prop} {A4 : a1 → a2 → Prop} {a3 : Sort _} {a4 : Sort _} {A5 : a3 → a4 → Prop} {A6 : a3 → a4 → Prop} {a5 : Sort _} {A7 : a5 → Prop} {A8 : a5 → Prop} (h : ((A0) ∧ (∃ v0, (A1 v0) ∧ (A2 v0))) ∧ ((∃ v1, ∃ v2, (A3 v1 v2) ∧ (A4 v1 v2)) ∧ ((∃ v3, ∃ v4, (A5 v3 v4) ∧ (A6 v3 v4)) ∧ (∃ v5, (A7 v5) ∧ (A8 v5))))) {P : Prop} (k : A0 → ∀ v0, A1 v0 → A2 v0 → ∀ v1, ∀ v2, A3 v1 v2 → A4 v1 v2 → ∀ v3, ∀ v4, A5 v3 v4 → A6 v3 v4 → ∀ v5, A7 v5 → A8 v5 → P) : P := h.1.2.elim fun v0 e0 => h.2.1.elim fun v1 e1 => e1.elim fun v2 e2 => h.2.2.1.elim fun v3 e3 => e3.elim fun v4 e4 => h.2.2.2.elim fun v5 e5 => k h.1.1 v0 e0.1 e0.2 v1 v2 e2.1 e2.2 v3 v4 e4.1 e4.2 v5 e5.1 e5.2
theorem el_AALEALLL {A0 : Prop} {a0 : Sort _} {A1 : a0 → Prop} {A2 : a0 → Prop} {A3 : Prop} (h : ((A0) ∧ (∃ v0, (A1 v0) ∧ (A2 v0))) ∧ (A3)) {P : Prop} (k : A0 → ∀ v0, A1 v0 → A2 v0 → A3 → P) : P := h.1.2.elim fun v0 e0 => k h.1.1 v0 e0.1 e0.2 h.2
theorem el_E2L {a0 : Sort _} {a1 : Sort _} {A0 : a0 → a1 → Prop} (h : ∃ v0, ∃ v1, A0 v0 v1) {P : Prop} (k : ∀ v0, ∀ v1, A0 v0 v1 → P) : P := h.elim fun v0 e0 => e0.elim fun v1 e1 => k v0 v1 e1
theorem el_AEALALLL {a0 : Sort _} {A0 : a0 → Prop} {A1 : a0 → Prop} {A2 : a0 → Prop} {A3 : Prop} (h : (∃ v0, (A0 v0) ∧ ((A1 v0) ∧ (A2 v0))) ∧ (A3)) {P : Prop} (k : ∀ v0, A0 v0 → A1 v0 → A2 v0 → A3 → P) : P := h.1.elim fun v0 e0 => k v0 e0.1 e0.2.1 e0.2.2 h.2
theorem el_EALALALL {a0 : Sort _} {A0 : a0 → Prop} {A1 : a0 → Prop} {A2 : a0 → Prop} {A3 : a0 → Prop} (h : ∃ v0, (A0 v0) ∧ ((A1 v0) ∧ ((A2 v0) ∧ (A3 v0)))) {P : Prop} (k : ∀ v0, A0 v0 → A1 v0 → A2 v0 → A3 v0 → P) : P := h.elim fun v0 e0 => k v0 e0.1 e0.2.1 e0.2.2.1 e0.2.2.2
theorem el_ALE2ALL {A0 : Prop} {a0 : Sort _} {a1 : Sort _} {A1 : a0 → a1 → Prop} {A2 : a0 → a1 → Prop} (h : (A0) ∧ (∃ v0, ∃ v1, (A1 v0 v1) ∧ (A2 v0 v1))) {P : Prop} (k : A0 → ∀ v0, ∀ v1, A1 v0 v1 → A2 v0 v1 → P) : P := h.2.elim fun v0 e0 => e0.elim fun v1 e1 => k h.1 v0 v1 e1.1 e1.2
theorem el_EALALALALALALL {a0 : Sort _} {A0 : a0 → Prop} {A1 : a0 → Prop} {A2 : a0 → Prop} {A3 : a0 → Prop} {A4 : a0 → Prop} {A5 : a0 → Prop} {A6 : a0 → Prop} (h : ∃ v0, (A0 v0) ∧ ((A1 v0) ∧ ((A2 v0) ∧ ((A3 v0) ∧ ((A4 v0) ∧ ((A5 v0) ∧ (A6 v0))))))) {P : Prop} (k : ∀ v0, A0 v0 → A1 v0 → A2 v0 → A3 v0 → A4 v0 → A5 v0 → A6 v0 → P) : P := h.elim fun v0 e0 => k v0 e0.1 e0.2.1 e0.2.2.1 e0.2.2.2.1 e0.2.2.2.2.1 e0.2.2.2.2.2.1 e0.2.2.2.2.2.2
theorem el_ALAEALLAEALLE2ALL {A0 : Prop} {a0 : Sort _} {A1 : a0 → Prop} {A2 : a0 → Prop} {a1 : Sort _} {A3 : a1 → Prop} {A4 : a1 → Prop} {a2 : Sort _} {a3 : Sort _} {A5 : a2 → a3 → Prop} {A6 : a2 → a3 → Prop} (h : (A0) ∧ ((∃ v0, (A1 v0) ∧ (A2 v0)) ∧ ((∃ v1, (A3 v1) ∧ (A4 v1)) ∧ (∃ v2, ∃ v3, (A5 v2 v3) ∧ (A6 v2 v3))))) {P : Prop} (k : A0 → ∀ v0, A1 v0 → A2 v0 → ∀ v1, A3 v1 → A4 v1 → ∀ v2, ∀ v3, A5 v2 v3 → A6 v2 v3 → P) : P := h.2.1.elim fun v0 e0 => h.2.2.1.elim fun v1 e1 => h.2.2.2.elim fun v2 e2 => e2.elim fun v3 e3 => k h.1 v0 e0.1 e0.2 v1 e1.1 e1.2 v2 v3 e3.1 e3.2
theorem el_ALEALE3ALALL {A0 : Prop} {a0 : Sort _} {A1 : a0 → Prop} {a1 : Sort _} {a2 : Sort _} {a3 : Sort _} {A2 : a0 → a1 → a2 → a3 → Prop} {A3 : a0 → a1 → a2 → a3 → Prop} {A4 : a0 → a1 → a2 → a3 → Prop} (h : (A0) ∧ (∃ v0, (A1 v0) ∧ (∃ v1, ∃ v2, ∃ v3, (A2 v0 v1 v2 v3) ∧ ((A3 v0 v1 v2 v3) ∧ (A4 v0 v1 v2 v3))))) {P : Prop} (k : A0 → ∀ v0, A1 v0 → ∀ v1, ∀ v2, ∀ v3, A2 v0 v1 v2 v3 → A3 v0 v1 v2 v3 → A4 v0 v1 v2 v3 → P) : P := h.2.elim fun v0 e0 => e0.2.elim fun v1 e1 => e1.elim fun v2 e2 => e2.elim fun v3 e3 => k h.1 v0 e0.1 v1 v2 v3 e3.1 e3.2.1 e3.2.2
theorem el_EALALALALL {a0 : Sort _} {A0 : a0 → Prop} {A1 : a0 → Prop} {A2 : a0 → Prop} {A3 : a0 → Prop} {A4 : a0 → Prop} (h : ∃ v0, (A0 v0) ∧ ((A1 v0) ∧ ((A2 v0) ∧ ((A3 v0) ∧ (A4 v0))))) {P : Prop} (k : ∀ v0, A0 v0 → A1 v0 → A2 v0 → A3 v0 → A4 v0 → P) : P := h.elim fun v0 e0 => k v0 e0.1 e0.2.1 e0.2.2.1 e0.2.2.2.1 e0.2.2.2.2
theorem el_E21ALALALALL {a0 : Sort _} {a1 : Sort _} {a2 : Sort _} {a3 : Sort _} {a4 : Sort _} {a5 : Sort _} {a6 : Sort _} {a7 : Sort _} {a8 : Sort _} {a9 : Sort _} {a10 : Sort _} {a11 : Sort _} {a12 : Sort _} {a13 : Sort _} {a14 : Sort _} {a15 : Sort _} {a16 : Sort _} {a17 : Sort _} {a18 : Sort _} {a19 : Sort _} {a20 : Sort _} {A0 : a0 → a1 → a2 → a3 → a4 → a5 → a6 → a7 → a8 → a9 → a10 → a11 → a12 → a13 → a14 → a15 → a16 → a17 → a18 → a19 → a20 → Prop} {A1 : a0 → a1 → a2 → a3 → a4 → a5 → a6 → a7 → a8 → a9 → a10 → a11 → a12 → a13 → a14 → a15 → a16 → a17 → a18 → a19 → a20 → Prop} {A2 : a0 → a1 → a2 → a3 → a4 → a5 → a6 → a7 → a8 → a9 → a10 → a11 → a12 → a13 → a14 → a15 → a16 → a17 → a18 → a19 → a20 → Prop} {A3 : a0 → a1 → a2 → a3 → a4 → a5 → a6 → a7 → a8 → a9 → a10 → a11 → a12 → a13 → a14 → a15 → a16 → a17 → a18 → a19 → a20 → Prop} {A4 : a0 → a1 → a2 → a3 → a4 → a5 → a6 → a7 → a8 → a9 → a10 → a11 → a12 → a13 → a14 → a15 → a16 → a17 → a18 → a19 → a20 → Prop} (h : ∃ v0, ∃ v1, ∃ v2, ∃ v3, ∃ v4, ∃ v5, ∃ v6, ∃ v7, ∃ v8, ∃ v9, ∃ v10, ∃ v11, ∃ v12, ∃ v13, ∃ v14, ∃ v15, ∃ v16, ∃ v17, ∃ v18, ∃ v19, ∃ v20, (A0 v0 v1 v2 v3 v4 v5 v6 v7 v8 v9 v10 v11 v12 v13 v14 v15 v16 v17 v18 v19 v20) ∧ ((A1 v0 v1 v2 v3 v4 v5 v6 v7 v8 v9 v10 v11 v12 v13 v14 v15 v16 v17 v18 v19 v20) ∧ ((A2 v0 v1 v2 v3 v4 v5 v6 v7 v8 v9 v10 v11 v12 v13 v14 v15 v16 v17 v18 v19 v20) ∧ ((A3 v0 v1 v2 v3 v4 v5 v6 v7 v8 v9 v10 v11 v12 v13 v14 v15 v16 v17 v18 v19 v20) ∧ (A4 v0 v1 v2 v3 v4 v5 v6 v7 v8 v9 v10 v11 v12 v13 v14 v15 v16 v17 v18 v19 v20))))) {P : Prop} (k : ∀ v0, ∀ v1, ∀ v2, ∀ v3, ∀ v4, ∀ v5, ∀ v6, ∀ v7, ∀ v8, ∀ v9, ∀ v10, ∀ v11, ∀ v12, ∀ v13, ∀ v14, ∀ v15, ∀ v16, ∀ v17, ∀ v18, ∀ v19, ∀ v20, A0 v0 v1 v2 v3 v4 v5 v6 v7 v8 v9 v10 v11 v12 v13 v14 v15 v16 v17 v18 v19 v20 → A1 v0 v1 v2 v3 v4 v5 v6 v7 v8 v9 v10 v11 v12 v13 v14 v15 v16 v17 v18 v19 v20 → A2 v0 v1 v2 v3 v4 v5 v6 v7 v8 v9 v10 v11 v12 v13 v14 v15 v16 v17 v18 v19 v20 → A3 v0 v1 v2 v3 v4 v5 v6 v7 v8 v9 v10 v11 v12 v13 v14 v15 v16 v17 v18 v19 v20 → A4 v0 v1 v2 v3 v4 v5 v6 v7 v8 v9 v10 v11 v12 v13 v14 v15 v16 v17 v18 v19 v20 → P) : P := h.elim fun v0 e0 => e0.elim fun v1 e1 => e1.elim fun v2 e2 => e2.elim fun v3 e3 => e3.elim fun v4 e4 => e4.elim fun v5 e5 => e5.elim fun v6 e6 => e6.elim fun v7 e7 => e7.elim fun v8 e8 => e8.elim fun v9 e9 => e9.elim fun v10 e10 => e10.elim fun v11 e11 => e11.elim fun v12 e12 => e12.elim fun v13 e13 => e13.elim fun v14 e14 => e14.elim fun v15 e15 => e15.elim fun v16 e16 => e16.elim fun v17 e17 => e17.elim fun v18 e18 => e18.elim fun v19 e19 => e19.elim fun v20 e20 => k v0 v1 v2 v3 v4 v5 v6 v7 v8 v9 v10 v11 v12 v13 v14 v15 v16 v17 v18 v19 v20 e20.1 e20.2.1 e20.2.2.1 e20.2.2.2.1 e20.2.2.2.2
theorem el_ALAEALLALE2ALL {A0 : Prop} {a0 : Sort _} {A1 : a0 → Prop} {A2 : a0 → Prop} {A3 : Prop} {a1 : Sort _} {a2 : Sort _} {A4 : a1 → a2 → Prop} {A5 : a1 → a2 → Prop} (h : (A0) ∧ ((∃ v0, (A1 v0) ∧ (A2 v0)) ∧ ((A3) ∧ (∃ v1, ∃ v2, (A4 v1 v2) ∧ (A5 v1 v2))))) {P : Prop} (k : A0 → ∀ v0, A1 v0 → A2 v0 → A3 → ∀ v1, ∀ v2, A4 v1 v2 → A5 v1 v2 → P) : P := h.2.1.elim fun v0 e0 => h.2.2.2.elim fun v1 e1 => e1.elim fun v2 e2 => k h.1 v0 e0.1 e0.2 h.2.2.1 v1 v2 e2.1 e2.2
theorem el_ALEALE2ALL {A0 : Prop} {a0 : Sort _} {A1 : a0 → Prop} {a1 : Sort _} {a2 : Sort _} {A2 : a0 → a1 → a2 → Prop} {A3 : a0 → a1 → a2 → Prop} (h : (A0) ∧ (∃ v0, (A1 v0) ∧ (∃ v1, ∃ v2, (A2 v0 v1 v2) ∧ (A3 v0 v1 v2)))) {P : Prop} (k : A0 → ∀ v0, A1 v0 → ∀ v1, ∀ v2, A2 v0 v1 v2 → A3 v0 v1 v2 → P) : P := h.2.elim fun v0 e0 => e0.2.elim fun v1 e1 => e1.elim fun v2 e2 => k h.1 v0 e0.1 v1 v2 e2.1 e2.2
theorem el_EALALALALALL {a0 : Sort _} {A0 : a0 → Prop} {A1 : a0 → Prop} {A2 : a0 → Prop} {A3 : a0 → Prop} {A4 : a0 → Prop} {A5 : a0 → Prop} (h : ∃ v0, (A0 v0) ∧ ((A1 v0) ∧ ((A2 v0) ∧ ((A3 v0) ∧ ((A4 v0) ∧ (A5 v0)))))) {P : Prop} (k : ∀ v0, A0 v0 → A1 v0 → A2 v0 → A3 v0 → A4 v0 → A5 v0 → P) : P := h.elim fun v0 e0 => k v0 e0.1 e0.2.1 e0.2.2.1 e0.2.2.2.1 e0.2.2.2.2.1 e0.2.2.2.2.2
theorem el_E4ALALALALALALALALL {a0 : Sort _} {a1 : Sort _} {a2 : Sort _} {a3 : Sort _} {A0 : a0 → a1 → a2 → a3 → Prop} {A1 : a0 → a1 → a2 → a3 → Prop} {A2 : a0 → a1 → a2 → a3 → Prop} {A3 : a0 → a1 → a2 → a3 → Prop} {A4 : a0 → a1 → a2 → a3 → Prop} {A5 : a0 → a1 → a2 → a3 → Prop} {A6 : a0 → a1 → a2 → a3 → Prop} {A7 : a0 → a1 → a2 → a3 → Prop} {A8 : a0 → a1 → a2 → a3 → Prop} (h : ∃ v0, ∃ v1, ∃ v2, ∃ v3, (A0 v0 v1 v2 v3) ∧ ((A1 v0 v1 v2 v3) ∧ ((A2 v0 v1 v2 v3) ∧ ((A3 v0 v1 v2 v3) ∧ ((A4 v0 v1 v2 v3) ∧ ((A5 v0 v1 v2 v3) ∧ ((A6 v0 v1 v2 v3) ∧ ((A7 v0 v1 v2 v3) ∧ (A8 v0 v1 v2 v3))))))))) {P : Prop} (k : ∀ v0, ∀ v1, ∀ v2, ∀ v3, A0 v0 v1 v2 v3 → A1 v0 v1 v2 v3 → A2 v0 v1 v2 v3 → A3 v0 v1 v2 v3 → A4 v0 v1 v2 v3 → A5 v0 v1 v2 v3 → A6 v0 v1 v2 v3 → A7 v0 v1 v2 v3 → A8 v0 v1 v2 v3 → P) : P := h.elim fun v0 e0 => e0.elim fun v1 e1 => e1.elim fun v2 e2 => e2.elim fun v3 e3 => k v0 v1 v2 v3 e3.1 e3.2.1 e3.2.2.1 e3.2.2.2.1 e3.2.2.2.2.1 e3.2.2.2.2.2.1 e3.2.2.2.2.2.2.1 e3.2.2.2.2.2.2.2.1 e3.2.2.2.2.2.2.2.2
theorem el_E4ALALALALALL {a0 : Sort _} {a1 : Sort _} {a2 : Sort _} {a3 : Sort _} {A0 : a0 → a1 → a2 → a3 → Prop} {A1 : a0 → a1 → a2 → a3 → Prop} {A2 : a0 → a1 → a2 → a3 → Prop} {A3 : a0 → a1 → a2 → a3 → Prop} {A4 : a0 → a1 → a2 → a3 → Prop} {A5 : a0 → a1 → a2 → a3 → Prop} (h : ∃ v0, ∃ v1, ∃ v2, ∃ v3, (A0 v0 v1 v2 v3) ∧ ((A1 v0 v1 v2 v3) ∧ ((A2 v0 v1 v2 v3) ∧ ((A3 v0 v1 v2 v3) ∧ ((A4 v0 v1 v2 v3) ∧ (A5 v0 v1 v2 v3)))))) {P : Prop} (k : ∀ v0, ∀ v1, ∀ v2, ∀ v3, A0 v0 v1 v2 v3 → A1 v0 v1 v2 v3 → A2 v0 v1 v2 v3 → A3 v0 v1 v2 v3 → A4 v0 v1 v2 v3 → A5 v0 v1 v2 v3 → P) : P := h.elim fun v0 e0 => e0.elim fun v1 e1 => e1.elim fun v2 e2 => e2.elim fun v3 e3 => k v0 v1 v2 v3 e3.1 e3.2.1 e3.2.2.1 e3.2.2.2.1 e3.2.2.2.2.1 e3.2.2.2.2.2
theorem el_AE2ALLE2ALL {a0 : Sort _} {a1 : Sort _} {A0 : a0 → a1 → Prop} {A1 : a0 → a1 → Prop} {a2 : Sort _} {a3 : Sort _} {A2 : a2 → a3 → Prop} {A3 : a2 → a3 → Prop} (h : (∃ v0, ∃ v1, (A0 v0 v1) ∧ (A1 v0 v1)) ∧ (∃ v2, ∃ v3, (A2 v2 v3) ∧ (A3 v2 v3))) {P : Prop} (k : ∀ v0, ∀ v1, A0 v0 v1 → A1 v0 v1 → ∀ v2, ∀ v3, A2 v2 v3 → A3 v2 v3 → P) : P := h.1.elim fun v0 e0 => e0.elim fun v1 e1 => h.2.elim fun v2 e2 => e2.elim fun v3 e3 => k v0 v1 e1.1 e1.2 v2 v3 e3.1 e3.2
theorem el_E3ALL {a0 : Sort _} {a1 : Sort _} {a2 : Sort _} {A0 : a0 → a1 → a2 → Prop} {A1 : a0 → a1 → a2 → Prop} (h : ∃ v0, ∃ v1, ∃ v2, (A0 v0 v1 v2) ∧ (A1 v0 v1 v2)) {P : Prop} (k : ∀ v0, ∀ v1, ∀ v2, A0 v0 v1 v2 → A1 v0 v1 v2 → P) : P := h.elim fun v0 e0 => e0.elim fun v1 e1 => e1.elim fun v2 e2 => k v0 v1 v2 e2.1 e2.2
theorem el_AEALLAELE8ALALALALALALALALL {a0 : Sort _} {A0 : a0 → Prop} {A1 : a0 → Prop} {a1 : Sort _} {A2 : a1 → Prop} {a2 : Sort _} {a3 : Sort _} {a4 : Sort _} {a5 : Sort _} {a6 : Sort _} {a7 : Sort _} {a8 : Sort _} {a9 : Sort _} {A3 : a2 → a3 → a4 → a5 → a6 → a7 → a8 → a9 → Prop} {A4 : a2 → a3 → a4 → a5 → a6 → a7 → a8 → a9 → Prop} {A5 : a2 → a3 → a4 → a5 → a6 → a7 → a8 → a9 → Prop} {A6 : a2 → a3 → a4 → a5 → a6 → a7 → a8 → a9 → Prop} {A7 : a2 → a3 → a4 → a5 → a6 → a7 → a8 → a9 → Prop} {A8 : a2 → a3 → a4 → a5 → a6 → a7 → a8 → a9 → Prop} {A9 : a2 → a3 → a4 → a5 → a6 → a7 → a8 → a9 → Prop} {A10 : a2 → a3 → a4 → a5 → a6 → a7 → a8 → a9 → Prop} {A11 : a2 → a3 → a4 → a5 → a6 → a7 → a8 → a9 → Prop} (h : (∃ v0, (A0 v0) ∧ (A1 v0)) ∧ ((∃ v1, A2 v1) ∧ (∃ v2, ∃ v3, ∃ v4, ∃ v5, ∃ v6, ∃ v7, ∃ v8, ∃ v9, (A3 v2 v3 v4 v5 v6 v7 v8 v9) ∧ ((A4 v2 v3 v4 v5 v6 v7 v8 v9) ∧ ((A5 v2 v3 v4 v5 v6 v7 v8 v9) ∧ ((A6 v2 v3 v4 v5 v6 v7 v8 v9) ∧ ((A7 v2 v3 v4 v5 v6 v7 v8 v9) ∧ ((A8 v2 v3 v4 v5 v6 v7 v8 v9) ∧ ((A9 v2 v3 v4 v5 v6 v7 v8 v9) ∧ ((A10 v2 v3 v4 v5 v6 v7 v8 v9) ∧ (A11 v2 v3 v4 v5 v6 v7 v8 v9))))))))))) {P : Prop} (k : ∀ v0, A0 v0 → A1 v0 → ∀ v1, A2 v1 → ∀ v2, ∀ v3, ∀ v4, ∀ v5, ∀ v6, ∀ v7, ∀ v8, ∀ v9, A3 v2 v3 v4 v5 v6 v7 v8 v9 → A4 v2 v3 v4 v5 v6 v7 v8 v9 → A5 v2 v3 v4 v5 v6 v7 v8 v9 → A6 v2 v3 v4 v5 v6 v7 v8 v9 → A7 v2 v3 v4 v5 v6 v7 v8 v9 → A8 v2 v3 v4 v5 v6 v7 v8 v9 → A9 v2 v3 v4 v5 v6 v7 v8 v9 → A10 v2 v3 v4 v5 v6 v7 v8 v9 → A11 v2 v3 v4 v5 v6 v7 v8 v9 → P) : P := h.1.elim fun v0 e0 => h.2.1.elim fun v1 e1 => h.2.2.elim fun v2 e2 => e2.elim fun v3 e3 => e3.elim fun v4 e4 => e4.elim fun v5 e5 => e5.elim fun v6 e6 => e6.elim fun v7 e7 => e7.elim fun v8 e8 => e8.elim fun v9 e9 => k v0 e0.1 e0.2 v1 e1 v2 v3 v4 v5 v6 v7 v8 v9 e9.1 e9.2.1 e9.2.2.1 e9.2.2.2.1 e9.2.2.2.2.1 e9.2.2.2.2.2.1 e9.2.2.2.2.2.2.1 e9.2.2.2.2.2.2.2.1 e9.2.2.2.2.2.2.2.2
theorem el_AEALLE3ALALALL {a0 : Sort _} {A0 : a0 → Prop} {A1 : a0 → Prop} {a1 : Sort _} {a2 : Sort _} {a3 : Sort _} {A2 : a1 → a2 → a3 → Prop} {A3 : a1 → a2 → a3 → Prop} {A4 : a1 → a2 → a3 → Prop} {A5 : a1 → a2 → a3 → Prop} (h : (∃ v0, (A0 v0) ∧ (A1 v0)) ∧ (∃ v1, ∃ v2, ∃ v3, (A2 v1 v2 v3) ∧ ((A3 v1 v2 v3) ∧ ((A4 v1 v2 v3) ∧ (A5 v1 v2 v3))))) {P : Prop} (k : ∀ v0, A0 v0 → A1 v0 → ∀ v1, ∀ v2, ∀ v3, A2 v1 v2 v3 → A3 v1 v2 v3 → A4 v1 v2 v3 → A5 v1 v2 v3 → P) : P := h.1.elim fun v0 e0 => h.2.elim fun v1 e1 => e1.elim fun v2 e2 => e2.elim fun v3 e3 => k v0 e0.1 e0.2 v1 v2 v3 e3.1 e3.2.1 e3.2.2.1 e3.2.2.2
theorem el_AE3ALALLALALL {a0 : Sort _} {a1 : Sort _} {a2 : Sort _} {A0 : a0 → a1 → a2 → Prop} {A1 : a0 → a1 → a2 → Prop} {A2 : a0 → a1 → a2 → Prop} {A3 : Prop} {A4 : Prop} {A5 : Prop} (h : (∃ v0, ∃ v1, ∃ v2, (A0 v0 v1 v2) ∧ ((A1 v0 v1 v2) ∧ (A2 v0 v1 v2))) ∧ ((A3) ∧ ((A4) ∧ (A5)))) {P : Prop} (k : ∀ v0, ∀ v1, ∀ v2, A0 v0 v1 v2 → A1 v0 v1 v2 → A2 v0 v1 v2 → A3 → A4 → A5 → P) : P := h.1.elim fun v0 e0 => e0.elim fun v1 e1 => e1.elim fun v2 e2 => k v0 v1 v2 e2.1 e2.2.1 e2.2.2 h.2.1 h.2.2.1 h.2.2.2
theorem el_AELEL {a0 : Sort _} {A0 : a0 → Prop} {a1 : Sort _} {A1 : a1 → Prop} (h : (∃ v0, A0 v0) ∧ (∃ v1, A1 v1)) {P : Prop} (k : ∀ v0, A0 v0 → ∀ v1, A1 v1 → P) : P := h.1.elim fun v0 e0 => h.2.elim fun v1 e1 => k v0 e0 v1 e1
theorem el_E2ALALALALL {a0 : Sort _} {a1 : Sort _} {A0 : a0 → a1 → Prop} {A1 : a0 → a1 → Prop} {A2 : a0 → a1 → Prop} {A3 : a0 → a1 → Prop} {A4 : a0 → a1 → Prop} (h : ∃ v0, ∃ v1, (A0 v0 v1) ∧ ((A1 v0 v1) ∧ ((A2 v0 v1) ∧ ((A3 v0 v1) ∧ (A4 v0 v1))))) {P : Prop} (k : ∀ v0, ∀ v1, A0 v0 v1 → A1 v0 v1 → A2 v0 v1 → A3 v0 v1 → A4 v0 v1 → P) : P := h.elim fun v0 e0 => e0.elim fun v1 e1 => k v0 v1 e1.1 e1.2.1 e1.2.2.1 e1.2.2.2.1 e1.2.2.2.2
theorem el_E4ALALALALALALL {a0 : Sort _} {a1 : Sort _} {a2 : Sort _} {a3 : Sort _} {A0 : a0 → a1 → a2 → a3 → Prop} {A1 : a0 → a1 → a2 → a3 → Prop} {A2 : a0 → a1 → a2 → a3 → Prop} {A3 : a0 → a1 → a2 → a3 → Prop} {A4 : a0 → a1 → a2 → a3 → Prop} {A5 : a0 → a1 → a2 → a3 → Prop} {A6 : a0 → a1 → a2 → a3 → Prop} (h : ∃ v0, ∃ v1, ∃ v2, ∃ v3, (A0 v0 v1 v2 v3) ∧ ((A1 v0 v1 v2 v3) ∧ ((A2 v0 v1 v2 v3) ∧ ((A3 v0 v1 v2 v3) ∧ ((A4 v0 v1 v2 v3) ∧ ((A5 v0 v1 v2 v3) ∧ (A6 v0 v1 v2 v3))))))) {P : Prop} (k : ∀ v0, ∀ v1, ∀ v2, ∀ v3, A0 v0 v1 v2 v3 → A1 v0 v1 v2 v3 → A2 v0 v1 v2 v3 → A3 v0 v1 v2 v3 → A4 v0 v1 v2 v3 → A5 v0 v1 v2 v3 → A6 v0 v1 v2 v3 → P) : P := h.elim fun v0 e0 => e0.elim fun v1 e1 => e1.elim fun v2 e2 => e2.elim fun v3 e3 => k v0 v1 v2 v3 e3.1 e3.2.1 e3.2.2.1 e3.2.2.2.1 e3.2.2.2.2.1 e3.2.2.2.2.2.1 e3.2.2.2.2.2.2
theorem el_E4ALALALALL {a0 : Sort _} {a1 : Sort _} {a2 : Sort _} {a3 : Sort _} {A0 : a0 → a1 → a2 → a3 → Prop} {A1 : a0 → a1 → a2 → a3 → Prop} {A2 : a0 → a1 → a2 → a3 → Prop} {A3 : a0 → a1 → a2 → a3 → Prop} {A4 : a0 → a1 → a2 → a3 → Prop} (h : ∃ v0, ∃ v1, ∃ v2, ∃ v3, (A0 v0 v1 v2 v3) ∧ ((A1 v0 v1 v2 v3) ∧ ((A2 v0 v1 v2 v3) ∧ ((A3 v0 v1 v2 v3) ∧ (A4 v0 v1 v2 v3))))) {P : Prop} (k : ∀ v0, ∀ v1, ∀ v2, ∀ v3, A0 v0 v1 v2 v3 → A1 v0 v1 v2 v3 → A2 v0 v1 v2 v3 → A3 v0 v1 v2 v3 → A4 v0 v1 v2 v3 → P) : P := h.elim fun v0 e0 => e0.elim fun v1 e1 => e1.elim fun v2 e2 => e2.elim fun v3 e3 => k v0 v1 v2 v3 e3.1 e3.2.1 e3.2.2.1 e3.2.2.2.1 e3.2.2.2.2
theorem el_AALEALLAE2ALLEALL {A0 : Prop} {a0 : Sort _} {A1 : a0 → Prop} {A2 : a0 → Prop} {a1 : Sort _} {a2 : Sort _} {A3 : a1 → a2 → Prop} {A4 : a1 → a2 → Prop} {a3 : Sort _} {A5 : a3 → Prop} {A6 : a3 → Prop} (h : ((A0) ∧ (∃ v0, (A1 v0) ∧ (A2 v0))) ∧ ((∃ v1, ∃ v2, (A3 v1 v2) ∧ (A4 v1 v2)) ∧ (∃ v3, (A5 v3) ∧ (A6 v3)))) {P : Prop} (k : A0 → ∀ v0, A1 v0 → A2 v0 → ∀ v1, ∀ v2, A3 v1 v2 → A4 v1 v2 → ∀ v3, A5 v3 → A6 v3 → P) : P := h.1.2.elim fun v0 e0 => h.2.1.elim fun v1 e1 => e1.elim fun v2 e2 => h.2.2.elim fun v3 e3 => k h.1.1 v0 e0.1 e0.2 v1 v2 e2.1 e2.2 v3 e3.1 e3.2
theorem el_ALALEALL {A0 : Prop} {A1 : Prop} {a0 : Sort _} {A2 : a0 → Prop} {A3 : a0 → Prop} (h : (A0) ∧ ((A1) ∧ (∃ v0, (A2 v0) ∧ (A3 v0)))) {P : Prop} (k : A0 → A1 → ∀ v0, A2 v0 → A3 v0 → P) : P := h.2.2.elim fun v0 e0 => k h.1 h.2.1 v0 e0.1 e0.2
theorem el_ALE2ALE2ALALL {A0 : Prop} {a0 : Sort _} {a1 : Sort _} {A1 : a0 → a1 → Prop} {a2 : Sort _} {a3 : Sort _} {A2 : a0 → a1 → a2 → a3 → Prop} {A3 : a0 → a1 → a2 → a3 → Prop} {A4 : a0 → a1 → a2 → a3 → Prop} (h : (A0) ∧ (∃ v0, ∃ v1, (A1 v0 v1) ∧ (∃ v2, ∃ v3, (A2 v0 v1 v2 v3) ∧ ((A3 v0 v1 v2 v3) ∧ (A4 v0 v1 v2 v3))))) {P : Prop} (k : A0 → ∀ v0, ∀ v1, A1 v0 v1 → ∀ v2, ∀ v3, A2 v0 v1 v2 v3 → A3 v0 v1 v2 v3 → A4 v0 v1 v2 v3 → P) : P := h.2.elim fun v0 e0 => e0.elim fun v1 e1 => e1.2.elim fun v2 e2 => e2.elim fun v3 e3 => k h.1 v0 v1 e1.1 v2 v3 e3.1 e3.2.1 e3.2.2
theorem el_EALALAE2ALLAE2ALLAALEALLEALL {a0 : Sort _} {A0 : a0 → Prop} {A1 : a0 → Prop} {a1 : Sort _} {a2 : Sort _} {A2 : a0 → a1 → a2 → Prop} {A3 : a0 → a1 → a2 → Prop} {a3 : Sort _} {a4 : Sort _} {A4 : a0 → a3 → a4 → Prop} {A5 : a0 → a3 → a4 → Prop} {A6 : a0 → Prop} {a5 : Sort _} {A7 : a0 → a5 → Prop} {A8 : a0 → a5 → Prop} {a6 : Sort _} {A9 : a0 → a6 → Prop} {A10 : a0 → a6 → Prop} (h : ∃ v0, (A0 v0) ∧ ((A1 v0) ∧ ((∃ v1, ∃ v2, (A2 v0 v1 v2) ∧ (A3 v0 v1 v2)) ∧ ((∃ v3, ∃ v4, (A4 v0 v3 v4) ∧ (A5 v0 v3 v4)) ∧ (((A6 v0) ∧ (∃ v5, (A7 v0 v5) ∧ (A8 v0 v5))) ∧ (∃ v6, (A9 v0 v6) ∧ (A10 v0 v6))))))) {P : Prop} (k : ∀ v0, A0 v0 → A1 v0 → ∀ v1, ∀ v2, A2 v0 v1 v2 → A3 v0 v1 v2 → ∀ v3, ∀ v4, A4 v0 v3 v4 → A5 v0 v3 v4 → A6 v0 → ∀ v5, A7 v0 v5 → A8 v0 v5 → ∀ v6, A9 v0 v6 → A10 v0 v6 → P) : P := h.elim fun v0 e0 => e0.2.2.1.elim fun v1 e1 => e1.elim fun v2 e2 => e0.2.2.2.1.elim fun v3 e3 => e3.elim fun v4 e4 => e0.2.2.2.2.1.2.elim fun v5 e5 => e0.2.2.2.2.2.elim fun v6 e6 => k v0 e0.1 e0.2.1 v1 v2 e2.1 e2.2 v3 v4 e4.1 e4.2 e0.2.2.2.2.1.1 v5 e5.1 e5.2 v6 e6.1 e6.2
theorem el_E5ALALALALALALAELL {a0 : Sort _} {a1 : Sort _} {a2 : Sort _} {a3 : Sort _} {a4 : Sort _} {A0 : a0 → a1 → a2 → a3 → a4 → Prop} {A1 : a0 → a1 → a2 → a3 → a4 → Prop} {A2 : a0 → a1 → a2 → a3 → a4 → Prop} {A3 : a0 → a1 → a2 → a3 → a4 → Prop} {A4 : a0 → a1 → a2 → a3 → a4 → Prop} {A5 : a0 → a1 → a2 → a3 → a4 → Prop} {a5 : Sort _} {A6 : a0 → a1 → a2 → a3 → a4 → a5 → Prop} {A7 : a0 → a1 → a2 → a3 → a4 → Prop} (h : ∃ v0, ∃ v1, ∃ v2, ∃ v3, ∃ v4, (A0 v0 v1 v2 v3 v4) ∧ ((A1 v0 v1 v2 v3 v4) ∧ ((A2 v0 v1 v2 v3 v4) ∧ ((A3 v0 v1 v2 v3 v4) ∧ ((A4 v0 v1 v2 v3 v4) ∧ ((A5 v0 v1 v2 v3 v4) ∧ ((∃ v5, A6 v0 v1 v2 v3 v4 v5) ∧ (A7 v0 v1 v2 v3 v4)))))))) {P : Prop} (k : ∀ v0, ∀ v1, ∀ v2, ∀ v3, ∀ v4, A0 v0 v1 v2 v3 v4 → A1 v0 v1 v2 v3 v4 → A2 v0 v1 v2 v3 v4 → A3 v0 v1 v2 v3 v4 → A4 v0 v1 v2 v3 v4 → A5 v0 v1 v2 v3 v4 → ∀ v5, A6 v0 v1 v2 v3 v4 v5 → A7 v0 v1 v2 v3 v4 → P) : P := h.elim fun v0 e0 => e0.elim fun v1 e1 => e1.elim fun v2 e2 => e2.elim fun v3 e3 => e3.elim fun v4 e4 => e4.2.2.2.2.2.2.1.elim fun v5 e5 => k v0 v1 v2 v3 v4 e4.1 e4.2.1 e4.2.2.1 e4.2.2.2.1 e4.2.2.2.2.1 e4.2.2.2.2.2.1 v5 e5 e4.2.2.2.2.2.2.2
theorem el_E5ALALALALALALL {a0 : Sort _} {a1 : Sort _} {a2 : Sort _} {a3 : Sort _} {a4 : Sort _} {A0 : a0 → a1 → a2 → a3 → a4 → Prop} {A1 : a0 → a1 → a2 → a3 → a4 → Prop} {A2 : a0 → a1 → a2 → a3 → a4 → Prop} {A3 : a0 → a1 → a2 → a3 → a4 → Prop} {A4 : a0 → a1 → a2 → a3 → a4 → Prop} {A5 : a0 → a1 → a2 → a3 → a4 → Prop} {A6 : a0 → a1 → a2 → a3 → a4 → Prop} (h : ∃ v0, ∃ v1, ∃ v2, ∃ v3, ∃ v4, (A0 v0 v1 v2 v3 v4) ∧ ((A1 v0 v1 v2 v3 v4) ∧ ((A2 v0 v1 v2 v3 v4) ∧ ((A3 v0 v1 v2 v3 v4) ∧ ((A4 v0 v1 v2 v3 v4) ∧ ((A5 v0 v1 v2 v3 v4) ∧ (A6 v0 v1 v2 v3 v4))))))) {P : Prop} (k : ∀ v0, ∀ v1, ∀ v2, ∀ v3, ∀ v4, A0 v0 v1 v2 v3 v4 → A1 v0 v1 v2 v3 v4 → A2 v0 v1 v2 v3 v4 → A3 v0 v1 v2 v3 v4 → A4 v0 v1 v2 v3 v4 → A5 v0 v1 v2 v3 v4 → A6 v0 v1 v2 v3 v4 → P) : P := h.elim fun v0 e0 => e0.elim fun v1 e1 => e1.elim fun v2 e2 => e2.elim fun v3 e3 => e3.elim fun v4 e4 => k v0 v1 v2 v3 v4 e4.1 e4.2.1 e4.2.2.1 e4.2.2.2.1 e4.2.2.2.2.1 e4.2.2.2.2.2.1 e4.2.2.2.2.2.2
theorem el_E5ALL {a0 : Sort _} {a1 : Sort _} {a2 : Sort _} {a3 : Sort _} {a4 : Sort _} {A0 : a0 → a1 → a2 → a3 → a4 → Prop} {A1 : a0 → a1 → a2 → a3 → a4 → Prop} (h : ∃ v0, ∃ v1, ∃ v2, ∃ v3, ∃ v4, (A0 v0 v1 v2 v3 v4) ∧ (A1 v0 v1 v2 v3 v4)) {P : Prop} (k : ∀ v0, ∀ v1, ∀ v2, ∀ v3, ∀ v4, A0 v0 v1 v2 v3 v4 → A1 v0 v1 v2 v3 v4 → P) : P := h.elim fun v0 e0 => e0.elim fun v1 e1 => e1.elim fun v2 e2 => e2.elim fun v3 e3 => e3.elim fun v4 e4 => k v0 v1 v2 v3 v4 e4.1 e4.2
theorem el_E6ALALALALALL {a0 : Sort _} {a1 : Sort _} {a2 : Sort _} {a3 : Sort _} {a4 : Sort _} {a5 : Sort _} {A0 : a0 → a1 → a2 → a3 → a4 → a5 → Prop} {A1 : a0 → a1 → a2 → a3 → a4 → a5 → Prop} {A2 : a0 → a1 → a2 → a3 → a4 → a5 → Prop} {A3 : a0 → a1 → a2 → a3 → a4 → a5 → Prop} {A4 : a0 → a1 → a2 → a3 → a4 → a5 → Prop} {A5 : a0 → a1 → a2 → a3 → a4 → a5 → Prop} (h : ∃ v0, ∃ v1, ∃ v2, ∃ v3, ∃ v4, ∃ v5, (A0 v0 v1 v2 v3 v4 v5) ∧ ((A1 v0 v1 v2 v3 v4 v5) ∧ ((A2 v0 v1 v2 v3 v4 v5) ∧ ((A3 v0 v1 v2 v3 v4 v5) ∧ ((A4 v0 v1 v2 v3 v4 v5) ∧ (A5 v0 v1 v2 v3 v4 v5)))))) {P : Prop} (k : ∀ v0, ∀ v1, ∀ v2, ∀ v3, ∀ v4, ∀ v5, A0 v0 v1 v2 v3 v4 v5 → A1 v0 v1 v2 v3 v4 v5 → A2 v0 v1 v2 v3 v4 v5 → A3 v0 v1 v2 v3 v4 v5 → A4 v0 v1 v2 v3 v4 v5 → A5 v0 v1 v2 v3 v4 v5 → P) : P := h.elim fun v0 e0 => e0.elim fun v1 e1 => e1.elim fun v2 e2 => e2.elim fun v3 e3 => e3.elim fun v4 e4 => e4.elim fun v5 e5 => k v0 v1 v2 v3 v4 v5 e5.1 e5.2.1 e5.2.2.1 e5.2.2.2.1 e5.2.2.2.2.1 e5.2.2.2.2.2
theorem el_E6ALALALALALALALL {a0 : Sort _} {a1 : Sort _} {a2 : Sort _} {a3 : Sort _} {a4 : Sort _} {a5 : Sort _} {A0 : a0 → a1 → a2 → a3 → a4 → a5 → Prop} {A1 : a0 → a1 → a2 → a3 → a4 → a5 → Prop} {A2 : a0 → a1 → a2 → a3 → a4 → a5 → Prop} {A3 : a0 → a1 → a2 → a3 → a4 → a5 → Prop} {A4 : a0 → a1 → a2 → a3 → a4 → a5 → Prop} {A5 : a0 → a1 → a2 → a3 → a4 → a5 → Prop} {A6 : a0 → a1 → a2 → a3 → a4 → a5 → Prop} {A7 : a0 → a1 → a2 → a3 → a4 → a5 → Prop} (h : ∃ v0, ∃ v1, ∃ v2, ∃ v3, ∃ v4, ∃ v5, (A0 v0 v1 v2 v3 v4 v5) ∧ ((A1 v0 v1 v2 v3 v4 v5) ∧ ((A2 v0 v1 v2 v3 v4 v5) ∧ ((A3 v0 v1 v2 v3 v4 v5) ∧ ((A4 v0 v1 v2 v3 v4 v5) ∧ ((A5 v0 v1 v2 v3 v4 v5) ∧ ((A6 v0 v1 v2 v3 v4 v5) ∧ (A7 v0 v1 v2 v3 v4 v5)))))))) {P : Prop} (k : ∀ v0, ∀ v1, ∀ v2, ∀ v3, ∀ v4, ∀ v5, A0 v0 v1 v2 v3 v4 v5 → A1 v0 v1 v2 v3 v4 v5 → A2 v0 v1 v2 v3 v4 v5 → A3 v0 v1 v2 v3 v4 v5 → A4 v0 v1 v2 v3 v4 v5 → A5 v0 v1 v2 v3 v4 v5 → A6 v0 v1 v2 v3 v4 v5 → A7 v0 v1 v2 v3 v4 v5 → P) : P := h.elim fun v0 e0 => e0.elim fun v1 e1 => e1.elim fun v2 e2 => e2.elim fun v3 e3 => e3.elim fun v4 e4 => e4.elim fun v5 e5 => k v0 v1 v2 v3 v4 v5 e5.1 e5.2.1 e5.2.2.1 e5.2.2.2.1 e5.2.2.2.2.1 e5.2.2.2.2.2.1 e5.2.2.2.2.2.2.1 e5.2.2.2.2.2.2.2
theorem el_ALAELL {A0 : Prop} {a0 : Sort _} {A1 : a0 → Prop} {A2 : Prop} (h : (A0) ∧ ((∃ v0, A1 v0) ∧ (A2))) {P : Prop} (k : A0 → ∀ v0, A1 v0 → A2 → P) : P := h.2.1.elim fun v0 e0 => k h.1 v0 e0 h.2.2
theorem el_ALE2ALALL {A0 : Prop} {a0 : Sort _} {a1 : Sort _} {A1 : a0 → a1 → Prop} {A2 : a0 → a1 → Prop} {A3 : a0 → a1 → Prop} (h : (A0) ∧ (∃ v0, ∃ v1, (A1 v0 v1) ∧ ((A2 v0 v1) ∧ (A3 v0 v1)))) {P : Prop} (k : A0 → ∀ v0, ∀ v1, A1 v0 v1 → A2 v0 v1 → A3 v0 v1 → P) : P := h.2.elim fun v0 e0 => e0.elim fun v1 e1 => k h.1 v0 v1 e1.1 e1.2.1 e1.2.2
theorem el_EALALAE2ALLALAALEALE2ALLL {a0 : Sort _} {A0 : a0 → Prop} {A1 : a0 → Prop} {a1 : Sort _} {a2 : Sort _} {A2 : a0 → a1 → a2 → Prop} {A3 : a0 → a1 → a2 → Prop} {A4 : a0 → Prop} {A5 : a0 → Prop} {a3 : Sort _} {A6 : a0 → a3 → Prop} {a4 : Sort _} {a5 : Sort _} {A7 : a0 → a3 → a4 → a5 → Prop} {A8 : a0 → a3 → a4 → a5 → Prop} {A9 : a0 → Prop} (h : ∃ v0, (A0 v0) ∧ ((A1 v0) ∧ ((∃ v1, ∃ v2, (A2 v0 v1 v2) ∧ (A3 v0 v1 v2)) ∧ ((A4 v0) ∧ (((A5 v0) ∧ (∃ v3, (A6 v0 v3) ∧ (∃ v4, ∃ v5, (A7 v0 v3 v4 v5) ∧ (A8 v0 v3 v4 v5)))) ∧ (A9 v0)))))) {P : Prop} (k : ∀ v0, A0 v0 → A1 v0 → ∀ v1, ∀ v2, A2 v0 v1 v2 → A3 v0 v1 v2 → A4 v0 → A5 v0 → ∀ v3, A6 v0 v3 → ∀ v4, ∀ v5, A7 v0 v3 v4 v5 → A8 v0 v3 v4 v5 → A9 v0 → P) : P := h.elim fun v0 e0 => e0.2.2.1.elim fun v1 e1 => e1.elim fun v2 e2 => e0.2.2.2.2.1.2.elim fun v3 e3 => e3.2.elim fun v4 e4 => e4.elim fun v5 e5 => k v0 e0.1 e0.2.1 v1 v2 e2.1 e2.2 e0.2.2.2.1 e0.2.2.2.2.1.1 v3 e3.1 v4 v5 e5.1 e5.2 e0.2.2.2.2.2
theorem el_AEALE2ALLL {a0 : Sort _} {A0 : a0 → Prop} {a1 : Sort _} {a2 : Sort _} {A1 : a0 → a1 → a2 → Prop} {A2 : a0 → a1 → a2 → Prop} {A3 : Prop} (h : (∃ v0, (A0 v0) ∧ (∃ v1, ∃ v2, (A1 v0 v1 v2) ∧ (A2 v0 v1 v2))) ∧ (A3)) {P : Prop} (k : ∀ v0, A0 v0 → ∀ v1, ∀ v2, A1 v0 v1 v2 → A2 v0 v1 v2 → A3 → P) : P := h.1.elim fun v0 e0 => e0.2.elim fun v1 e1 => e1.elim fun v2 e2 => k v0 e0.1 v1 v2 e2.1 e2.2 h.2
theorem el_ALEALALL {A0 : Prop} {a0 : Sort _} {A1 : a0 → Prop} {A2 : a0 → Prop} {A3 : a0 → Prop} (h : (A0) ∧ (∃ v0, (A1 v0) ∧ ((A2 v0) ∧ (A3 v0)))) {P : Prop} (k : A0 → ∀ v0, A1 v0 → A2 v0 → A3 v0 → P) : P := h.2.elim fun v0 e0 => k h.1 v0 e0.1 e0.2.1 e0.2.2
theorem el_EALALAE2ALLALAALEALE3ALALLL {a0 : Sort _} {A0 : a0 → Prop} {A1 : a0 → Prop} {a1 : Sort _} {a2 : Sort _} {A2 : a0 → a1 → a2 → Prop} {A3 : a0 → a1 → a2 → Prop} {A4 : a0 → Prop} {A5 : a0 → Prop} {a3 : Sort _} {A6 : a0 → a3 → Prop} {a4 : Sort _} {a5 : Sort _} {a6 : Sort _} {A7 : a0 → a3 → a4 → a5 → a6 → Prop} {A8 : a0 → a3 → a4 → a5 → a6 → Prop} {A9 : a0 → a3 → a4 → a5 → a6 → Prop} {A10 : a0 → Prop} (h : ∃ v0, (A0 v0) ∧ ((A1 v0) ∧ ((∃ v1, ∃ v2, (A2 v0 v1 v2) ∧ (A3 v0 v1 v2)) ∧ ((A4 v0) ∧ (((A5 v0) ∧ (∃ v3, (A6 v0 v3) ∧ (∃ v4, ∃ v5, ∃ v6, (A7 v0 v3 v4 v5 v6) ∧ ((A8 v0 v3 v4 v5 v6) ∧ (A9 v0 v3 v4 v5 v6))))) ∧ (A10 v0)))))) {P : Prop} (k : ∀ v0, A0 v0 → A1 v0 → ∀ v1, ∀ v2, A2 v0 v1 v2 → A3 v0 v1 v2 → A4 v0 → A5 v0 → ∀ v3, A6 v0 v3 → ∀ v4, ∀ v5, ∀ v6, A7 v0 v3 v4 v5 v6 → A8 v0 v3 v4 v5 v6 → A9 v0 v3 v4 v5 v6 → A10 v0 → P) : P := h.elim fun v0 e0 => e0.2.2.1.elim fun v1 e1 => e1.elim fun v2 e2 => e0.2.2.2.2.1.2.elim fun v3 e3 => e3.2.elim fun v4 e4 => e4.elim fun v5 e5 => e5.elim fun v6 e6 => k v0 e0.1 e0.2.1 v1 v2 e2.1 e2.2 e0.2.2.2.1 e0.2.2.2.2.1.1 v3 e3.1 v4 v5 v6 e6.1 e6.2.1 e6.2.2 e0.2.2.2.2.2
theorem el_AE6ALALALALALLL {a0 : Sort _} {a1 : Sort _} {a2 : Sort _} {a3 : Sort _} {a4 : Sort _} {a5 : Sort _} {A0 : a0 → a1 → a2 → a3 → a4 → a5 → Prop} {A1 : a0 → a1 → a2 → a3 → a4 → a5 → Prop} {A2 : a0 → a1 → a2 → a3 → a4 → a5 → Prop} {A3 : a0 → a1 → a2 → a3 → a4 → a5 → Prop} {A4 : a0 → a1 → a2 → a3 → a4 → a5 → Prop} {A5 : a0 → a1 → a2 → a3 → a4 → a5 → Prop} {A6 : Prop} (h : (∃ v0, ∃ v1, ∃ v2, ∃ v3, ∃ v4, ∃ v5, (A0 v0 v1 v2 v3 v4 v5) ∧ ((A1 v0 v1 v2 v3 v4 v5) ∧ ((A2 v0 v1 v2 v3 v4 v5) ∧ ((A3 v0 v1 v2 v3 v4 v5) ∧ ((A4 v0 v1 v2 v3 v4 v5) ∧ (A5 v0 v1 v2 v3 v4 v5)))))) ∧ (A6)) {P : Prop} (k : ∀ v0, ∀ v1, ∀ v2, ∀ v3, ∀ v4, ∀ v5, A0 v0 v1 v2 v3 v4 v5 → A1 v0 v1 v2 v3 v4 v5 → A2 v0 v1 v2 v3 v4 v5 → A3 v0 v1 v2 v3 v4 v5 → A4 v0 v1 v2 v3 v4 v5 → A5 v0 v1 v2 v3 v4 v5 → A6 → P) : P := h.1.elim fun v0 e0 => e0.elim fun v1 e1 => e1.elim fun v2 e2 => e2.elim fun v3 e3 => e3.elim fun v4 e4 => e4.elim fun v5 e5 => k v0 v1 v2 v3 v4 v5 e5.1 e5.2.1 e5.2.2.1 e5.2.2.2.1 e5.2.2.2.2.1 e5.2.2.2.2.2 h.2
theorem el_ALE2ALALALALL {A0 : Prop} {a0 : Sort _} {a1 : Sort _} {A1 : a0 → a1 → Prop} {A2 : a0 → a1 → Prop} {A3 : a0 → a1 → Prop} {A4 : a0 → a1 → Prop} {A5 : a0 → a1 → Prop} (h : (A0) ∧ (∃ v0, ∃ v1, (A1 v0 v1) ∧ ((A2 v0 v1) ∧ ((A3 v0 v1) ∧ ((A4 v0 v1) ∧ (A5 v0 v1)))))) {P : Prop} (k : A0 → ∀ v0, ∀ v1, A1 v0 v1 → A2 v0 v1 → A3 v0 v1 → A4 v0 v1 → A5 v0 v1 → P) : P := h.2.elim fun v0 e0 => e0.elim fun v1 e1 => k h.1 v0 v1 e1.1 e1.2.1 e1.2.2.1 e1.2.2.2.1 e1.2.2.2.2
theorem el_E4ALALAAELAELLALALALL {a0 : Sort _} {a1 : Sort _} {a2 : Sort _} {a3 : Sort _} {A0 : a0 → a1 → a2 → a3 → Prop} {A1 : a0 → a1 → a2 → a3 → Prop} {a4 : Sort _} {A2 : a0 → a1 → a2 → a3 → a4 → Prop} {a5 : Sort _} {A3 : a0 → a1 → a2 → a3 → a5 → Prop} {A4 : a0 → a1 → a2 → a3 → Prop} {A5 : a0 → a1 → a2 → a3 → Prop} {A6 : a0 → a1 → a2 → a3 → Prop} {A7 : a0 → a1 → a2 → a3 → Prop} {A8 : a0 → a1 → a2 → a3 → Prop} (h : ∃ v0, ∃ v1, ∃ v2, ∃ v3, (A0 v0 v1 v2 v3) ∧ ((A1 v0 v1 v2 v3) ∧ (((∃ v4, A2 v0 v1 v2 v3 v4) ∧ ((∃ v5, A3 v0 v1 v2 v3 v5) ∧ (A4 v0 v1 v2 v3))) ∧ ((A5 v0 v1 v2 v3) ∧ ((A6 v0 v1 v2 v3) ∧ ((A7 v0 v1 v2 v3) ∧ (A8 v0 v1 v2 v3))))))) {P : Prop} (k : ∀ v0, ∀ v1, ∀ v2, ∀ v3, A0 v0 v1 v2 v3 → A1 v0 v1 v2 v3 → ∀ v4, A2 v0 v1 v2 v3 v4 → ∀ v5, A3 v0 v1 v2 v3 v5 → A4 v0 v1 v2 v3 → A5 v0 v1 v2 v3 → A6 v0 v1 v2 v3 → A7 v0 v1 v2 v3 → A8 v0 v1 v2 v3 → P) : P := h.elim fun v0 e0 => e0.elim fun v1 e1 => e1.elim fun v2 e2 => e2.elim fun v3 e3 => e3.2.2.1.1.elim fun v4 e4 => e3.2.2.1.2.1.elim fun v5 e5 => k v0 v1 v2 v3 e3.1 e3.2.1 v4 e4 v5 e5 e3.2.2.1.2.2 e3.2.2.2.1 e3.2.2.2.2.1 e3.2.2.2.2.2.1 e3.2.2.2.2.2.2
theorem el_AELALEALL {a0 : Sort _} {A0 : a0 → Prop} {A1 : Prop} {a1 : Sort _} {A2 : a1 → Prop} {A3 : a1 → Prop} (h : (∃ v0, A0 v0) ∧ ((A1) ∧ (∃ v1, (A2 v1) ∧ (A3 v1)))) {P : Prop} (k : ∀ v0, A0 v0 → A1 → ∀ v1, A2 v1 → A3 v1 → P) : P := h.1.elim fun v0 e0 => h.2.2.elim fun v1 e1 => k v0 e0 h.2.1 v1 e1.1 e1.2
theorem el_AALEALLE2ALL {A0 : Prop} {a0 : Sort _} {A1 : a0 → Prop} {A2 : a0 → Prop} {a1 : Sort _} {a2 : Sort _} {A3 : a1 → a2 → Prop} {A4 : a1 → a2 → Prop} (h : ((A0) ∧ (∃ v0, (A1 v0) ∧ (A2 v0))) ∧ (∃ v1, ∃ v2, (A3 v1 v2) ∧ (A4 v1 v2))) {P : Prop} (k : A0 → ∀ v0, A1 v0 → A2 v0 → ∀ v1, ∀ v2, A3 v1 v2 → A4 v1 v2 → P) : P := h.1.2.elim fun v0 e0 => h.2.elim fun v1 e1 => e1.elim fun v2 e2 => k h.1.1 v0 e0.1 e0.2 v1 v2 e2.1 e2.2
theorem el_ALEL {A0 : Prop} {a0 : Sort _} {A1 : a0 → Prop} (h : (A0) ∧ (∃ v0, A1 v0)) {P : Prop} (k : A0 → ∀ v0, A1 v0 → P) : P := h.2.elim fun v0 e0 => k h.1 v0 e0
theorem el_E7ALALALALALALALALALALL {a0 : Sort _} {a1 : Sort _} {a2 : Sort _} {a3 : Sort _} {a4 : Sort _} {a5 : Sort _} {a6 : Sort _} {A0 : a0 → a1 → a2 → a3 → a4 → a5 → a6 → Prop} {A1 : a0 → a1 → a2 → a3 → a4 → a5 → a6 → Prop} {A2 : a0 → a1 → a2 → a3 → a4 → a5 → a6 → Prop} {A3 : a0 → a1 → a2 → a3 → a4 → a5 → a6 → Prop} {A4 : a0 → a1 → a2 → a3 → a4 → a5 → a6 → Prop} {A5 : a0 → a1 → a2 → a3 → a4 → a5 → a6 → Prop} {A6 : a0 → a1 → a2 → a3 → a4 → a5 → a6 → Prop} {A7 : a0 → a1 → a2 → a3 → a4 → a5 → a6 → Prop} {A8 : a0 → a1 → a2 → a3 → a4 → a5 → a6 → Prop} {A9 : a0 → a1 → a2 → a3 → a4 → a5 → a6 → Prop} {A10 : a0 → a1 → a2 → a3 → a4 → a5 → a6 → Prop} (h : ∃ v0, ∃ v1, ∃ v2, ∃ v3, ∃ v4, ∃ v5, ∃ v6, (A0 v0 v1 v2 v3 v4 v5 v6) ∧ ((A1 v0 v1 v2 v3 v4 v5 v6) ∧ ((A2 v0 v1 v2 v3 v4 v5 v6) ∧ ((A3 v0 v1 v2 v3 v4 v5 v6) ∧ ((A4 v0 v1 v2 v3 v4 v5 v6) ∧ ((A5 v0 v1 v2 v3 v4 v5 v6) ∧ ((A6 v0 v1 v2 v3 v4 v5 v6) ∧ ((A7 v0 v1 v2 v3 v4 v5 v6) ∧ ((A8 v0 v1 v2 v3 v4 v5 v6) ∧ ((A9 v0 v1 v2 v3 v4 v5 v6) ∧ (A10 v0 v1 v2 v3 v4 v5 v6))))))))))) {P : Prop} (k : ∀ v0, ∀ v1, ∀ v2, ∀ v3, ∀ v4, ∀ v5, ∀ v6, A0 v0 v1 v2 v3 v4 v5 v6 → A1 v0 v1 v2 v3 v4 v5 v6 → A2 v0 v1 v2 v3 v4 v5 v6 → A3 v0 v1 v2 v3 v4 v5 v6 → A4 v0 v1 v2 v3 v4 v5 v6 → A5 v0 v1 v2 v3 v4 v5 v6 → A6 v0 v1 v2 v3 v4 v5 v6 → A7 v0 v1 v2 v3 v4 v5 v6 → A8 v0 v1 v2 v3 v4 v5 v6 → A9 v0 v1 v2 v3 v4 v5 v6 → A10 v0 v1 v2 v3 v4 v5 v6 → P) : P := h.elim fun v0 e0 => e0.elim fun v1 e1 => e1.elim fun v2 e2 => e2.elim fun v3 e3 => e3.elim fun v4 e4 => e4.elim fun v5 e5 => e5.elim fun v6 e6 => k v0 v1 v2 v3 v4 v5 v6 e6.1 e6.2.1 e6.2.2.1 e6.2.2.2.1 e6.2.2.2.2.1 e6.2.2.2.2.2.1 e6.2.2.2.2.2.2.1 e6.2.2.2.2.2.2.2.1 e6.2.2.2.2.2.2.2.2.1 e6.2.2.2.2.2.2.2.2.2.1 e6.2.2.2.2.2.2.2.2.2.2
theorem el_L {A0 : Prop} (h : A0) {P : Prop} (k : A0 → P) : P := k h
end Mine

-- Om
set_option Elab.async false
set_option linter.all false
namespace Mine
theorem hb_lt {a b : Nat} (h : a < b) : (a + b) / 2 < b := by omega
theorem hb_ge {a b : Nat} (h : a ≤ b) : a ≤ (a + b) / 2 := by omega
theorem hb_le {a b : Nat} (h : a ≤ b) : (a + b) / 2 ≤ b := by omega
theorem hb_gt {a b : Nat} (h : a < b) (k : (↑a : Int) + 1 ≠ ↑b) : a < (a + b) / 2 := by omega
theorem hb_gas {a n : Nat} (h : a < n) (k : n ≤ 60) : 900 - 3 * n + 1 ≤ 900 - 3 * a := by omega
theorem hb_gas' {a n : Nat} (h : a < n) (k : n ≤ 60) : 9000 - 30 * n + 3 ≤ 9000 - 30 * a := by omega
theorem hb_93 {a b : Nat} (h : a < b / 2) : 2 * a + 1 < b := Nat.lt_of_lt_of_le (Nat.lt_succ_self (2 * a + 1)) (Nat.le_trans (Nat.mul_le_mul_left 2 h) (Nat.mul_div_le b 2))
theorem hb_92 {a b : Nat} (h : a < b / 2) : 2 * a < b := Nat.lt_of_succ_lt (hb_93 h)
theorem hb_two {a : Nat} : a / 2 + a / 2 ≤ a := Nat.le_trans (Nat.le_of_eq (Nat.two_mul _).symm) (Nat.mul_div_le a 2)
theorem hb_60 {m a b c : Nat} (h0 : a < m - b) (h1 : c < a) : m - 1 - c ≠ m - 1 - a ∧ b ≤ m - 1 - c ∧ m - 1 - c < m := by omega
theorem hb_59 {m a b : Nat} (h0 : a < m - b) : b ≤ m - 1 - a ∧ m - 1 - a < m := by omega
theorem hb_101 {m a b : Nat} (h0 : a < m - b) (h1 : 0 < b) : 0 < m - 1 - a := by omega
theorem hb_100 {m a b : Nat} (h0 : a < m) (h1 : m ≤ b) : m - 1 - a < b := Nat.lt_of_le_of_lt (Nat.sub_le _ _) (Nat.lt_of_lt_of_le (Nat.sub_lt (Nat.lt_of_le_of_lt (Nat.zero_le _) h0) (by decide)) h1)
theorem hb_102 {m a b c : Nat} (h0 : a < m - b) (h2 : c < b) : c < m ∧ c ≠ m - 1 - a := by omega
theorem hb_pre {a n : Nat} (h : a < n) : a + (n - (a + 1)) = n - 1 := by omega
theorem hb_131 {a b c : Nat} (h0 : a ≤ b) (h1 : b ≤ c) : c - a = (b - a) + (c - b) := ((Nat.add_comm _ _).trans (Nat.sub_add_sub_cancel h1 h0)).symm
theorem hb_toN {a : Int} {n : Nat} (h0 : a < 256 + (↑n : Int)) (h1 : 256 ≤ a) : Int.toNat (a - 256) < n := (Int.toNat_lt (Int.sub_nonneg_of_le h1)).mpr (Int.sub_left_lt_of_lt_add h0)
theorem hb_mpos {a : Nat} : (-(2 : Int) ^ 62) ≤ (↑a : Int) - 1 := Int.le_trans (b := 0 - 1) (by decide) (Int.sub_le_sub_right (Int.natCast_nonneg _) 1)
theorem om1 {x0 : Int} (h0 : ¬ (x0 < (256 : Int))) (h1 : (x0 - (256 : Int)) < (↑(0 : Nat) : Int)) : False := h0 (Int.lt_of_sub_neg h1)
theorem om2 {x0 : Int} {x1 : Nat} (h0 : x0 < ((256 : Int) + (↑x1 : Int))) (h1 : ¬ (x0 < (256 : Int))) : (Int.toNat (x0 - (256 : Int))) < x1 := hb_toN h0 (Int.not_lt.mp h1)
theorem om3 {x0 : Int} {x1 : Nat} {x2 : Int} (h0 : (Int.toNat (x0 - (256 : Int))) < x1) (h1 : x2 < ((256 : Int) + (↑(Int.toNat (x0 - (256 : Int))) : Int))) : x2 < ((256 : Int) + (↑x1 : Int)) := (Int.lt_trans h1 (Int.add_lt_add_left (Int.ofNat_lt.mpr h0) _))
theorem om4 {x0 : Int} {x1 : Nat} {x2 : Int} (h0 : (x0 - (256 : Int)) < (↑(x1 + (1 : Nat)) : Int)) (h1 : x2 < ((256 : Int) + (↑(Int.toNat (x0 - (256 : Int))) : Int))) : (x2 - (256 : Int)) < (↑x1 : Int) := by omega
theorem om5 {x0 : Int} {x1 : Nat} {x2 : Int} {x3 : Int} (h0 : (Int.toNat (x0 - (256 : Int))) < x1) (h1 : x1 = (0 : Nat)) : x2 = x3 := (Nat.lt_irrefl _ (Nat.lt_of_lt_of_le h0 (Nat.le_trans (Nat.le_of_eq h1) (Nat.zero_le _)))).elim
theorem om6 {x0 : Int} (h0 : (0 : Int) ≤ x0) : (0 : Int) ≤ x0 := h0
theorem om7 {x0 : Int} {x1 : Nat} {x2 : Int} {x3 : Nat} (h0 : (Int.toNat (x0 - (256 : Int))) < x1) (h1 : x2 < ((256 : Int) + (↑(Int.toNat (x0 - (256 : Int))) : Int))) (h2 : x1 = (x3 + (1 : Nat))) : (x2 - (256 : Int)) < (↑x3 : Int) := by subst h2; exact Int.lt_of_lt_of_le (Int.sub_left_lt_of_lt_add h1) (Int.ofNat_le.mpr (Nat.le_of_lt_succ h0))
theorem om8 {x0 : Int} {x1 : Nat} {x2 : Int} {x3 : Nat} (h0 : (Int.toNat (x0 - (256 : Int))) < x1) (h1 : x2 < ((256 : Int) + (↑(Int.toNat (x0 - (256 : Int))) : Int))) (h2 : x1 = (x3 + (1 : Nat))) : (x2 - (256 : Int)) < (↑(x3 + (1 : Nat)) : Int) := by subst h2; exact Int.lt_trans (Int.sub_left_lt_of_lt_add h1) (Int.ofNat_lt.mpr h0)
theorem om9 {x0 : Int} {x1 : Nat} (h0 : x0 < ((256 : Int) + (↑x1 : Int))) (h1 : (256 : Int) ≤ x0) : (Int.toNat (x0 - (256 : Int))) < x1 := hb_toN h0 h1
theorem om10 {x0 : Int} (h0 : (256 : Int) ≤ x0) : (0 : Int) ≤ (x0 - (256 : Int)) := (Int.sub_nonneg_of_le h0)
theorem om11 {x0 : Nat} {x1 : Int} (h0 : x0 < (1000 : Nat)) (h1 : x1 < ((256 : Int) + (↑x0 : Int))) : (x1 - (256 : Int)) < ((2 : Int) ^ (63 : Nat)) := Int.lt_trans (Int.sub_left_lt_of_lt_add h1) (Int.lt_trans (Int.ofNat_lt.mpr h0) (by decide))
theorem om12 {x0 : Int} {x1 : Int} (h0 : (256 : Int) ≤ x0) (h1 : x1 < ((256 : Int) + (↑(Int.toNat (x0 - (256 : Int))) : Int))) : (Int.toNat x1) < (Int.toNat x0) := by omega
theorem om13 {x0 : Int} (h0 : (256 : Int) ≤ x0) : ¬ (x0 < (256 : Int)) := (Int.not_lt_of_ge h0)
theorem om14 {x0 : Int} (h0 : ¬ ((256 : Int) ≤ x0)) : x0 < (256 : Int) := (Int.lt_of_not_ge h0)
theorem om15 {x0 : Nat} {x1 : Nat} (h0 : (x0 - x1) ≤ (0 : Nat)) : ¬ (x1 < x0) := Nat.not_lt.mpr (Nat.le_of_sub_eq_zero (Nat.le_zero.mp h0))
theorem om16 {x0 : Nat} {x1 : Nat} (h0 : x0 < x1) (h1 : (x1 - x0) ≤ (0 : Nat)) : False := Nat.not_lt.mpr h1 (Nat.sub_pos_of_lt h0)
theorem om17 {x0 : Nat} {x1 : Nat} {x2 : Nat} (h0 : (x0 - x1) ≤ (x2 + (1 : Nat))) : (x0 - (((x1 + x0) / (2 : Nat)) + (1 : Nat))) ≤ x2 := by omega
theorem om18 {x0 : Nat} {x1 : Nat} {x2 : Nat} (h0 : (x0 - x1) ≤ (x2 + (1 : Nat))) : (((x1 + x0) / (2 : Nat)) - x1) ≤ x2 := Nat.sub_le_iff_le_add'.mpr (Nat.le_of_lt_succ (by omega))
theorem om19 {x0 : Nat} {x1 : Nat} (h0 : x0 < x1) : (((x0 + x1) / (2 : Nat)) + (1 : Nat)) ≤ x1 := hb_lt h0
theorem om20 {x0 : Nat} {x1 : Nat} (h0 : x0 < x1) : x0 ≤ ((x0 + x1) / (2 : Nat)) := hb_ge (Nat.le_of_lt h0)
theorem om21 {x0 : Nat} {x1 : Nat} (h0 : x0 < x1) : ((x0 + x1) / (2 : Nat)) ≤ x1 := Nat.le_of_lt (hb_lt h0)
theorem om22 {x0 : Nat} : (0 : Nat) ≤ x0 := (Nat.zero_le _)
theorem om23 {x0 : Nat} : x0 ≤ x0 := (Nat.le_refl x0)
theorem om24 {x0 : Nat} : (x0 - (0 : Nat)) ≤ x0 := (Nat.sub_le x0 0)
theorem om25 {x0 : Nat} {x1 : Nat} : (Int.toNat (((↑x0 : Int) + (↑x1 : Int)) / (2 : Int))) = ((x0 + x1) / (2 : Nat)) := by intros; rfl
theorem om26 {x0 : Nat} {x1 : Nat} (h0 : (↑x0 : Int) < (↑x1 : Int)) : x0 < x1 := (Int.ofNat_lt.mp h0)
theorem om27 {x0 : Nat} {x1 : Nat} {x2 : Nat} (h0 : (x0 - x1) ≤ x2) (h1 : (↑x1 : Int) < (↑x0 : Int)) : x2 = ((x2 - (1 : Nat)) + (1 : Nat)) := (Nat.sub_add_cancel (Nat.le_trans (Nat.sub_pos_of_lt (Int.ofNat_lt.mp h1)) h0)).symm
theorem om28 {x0 : Nat} {x1 : Nat} {x2 : Nat} {x3 : Nat} (h0 : x0 ≤ x1) (h1 : x2 ≤ x0) (h2 : x3 < x2) : ((x3 + x2) / (2 : Nat)) < x1 := Nat.lt_of_lt_of_le (hb_lt h2) (Nat.le_trans h1 h0)
theorem om29 {x0 : Nat} {x1 : Nat} : (((↑x0 : Int) + (↑x1 : Int)) / (2 : Int)) = (↑((x0 + x1) / (2 : Nat)) : Int) := by intros; rfl
theorem om30 {x0 : Nat} {x1 : Nat} {x2 : Nat} (h0 : x0 ≤ x1) (h1 : x1 ≤ x2) : ((x0 + x1) / (2 : Nat)) ≤ x2 := Nat.le_trans (hb_le h0) h1
theorem om31 {x0 : Nat} {x1 : Nat} (h0 : ¬ ((↑x0 : Int) < (↑x1 : Int))) : ¬ (x0 < x1) := (Nat.not_lt.mpr (Int.ofNat_le.mp (Int.not_lt.mp h0)))
theorem om32 {x0 : Nat} {x1 : Nat} {x2 : Nat} (h0 : x0 ≤ x1) (h1 : x1 < (1000 : Nat)) (h2 : x2 ≤ x0) : (((-((2 : Int) ^ (63 : Nat))) ≤ (↑x2 : Int)) ∧ ((↑x2 : Int) < ((2 : Int) ^ (63 : Nat)))) := ⟨(Int.le_trans (by decide) (Int.natCast_nonneg _)), (Int.lt_trans (Int.ofNat_lt.mpr (Nat.lt_of_le_of_lt (Nat.le_trans h2 h0) h1)) (by decide))⟩
theorem om33 {x0 : Nat} : ¬ ((↑x0 : Int) < (0 : Int)) := (Int.not_ofNat_neg x0)
theorem om34 {x0 : Nat} {x1 : Nat} {x2 : Nat} {x3 : Nat} (h0 : x0 ≤ x1) (h1 : x2 ≤ x0) (h2 : x3 = x1) : (min (Int.toNat (↑x2 : Int)) x3) = x2 := by subst h2; exact Nat.min_eq_left (Nat.le_trans h1 h0)
theorem om35 {x0 : Nat} {x1 : Nat} (h0 : x0 < x1) : ((((x1 + (1 : Nat)) + (1 : Nat)) + (1 : Nat)) + (1 : Nat)) ≠ x0 := Nat.ne_of_gt (Nat.lt_of_lt_of_le h0 (Nat.le_add_right x1 4))
theorem om36 {x0 : Nat} {x1 : Nat} (h0 : x0 < x1) : (((x1 + (1 : Nat)) + (1 : Nat)) + (1 : Nat)) ≠ x0 := Nat.ne_of_gt (Nat.lt_of_lt_of_le h0 (Nat.le_add_right x1 3))
theorem om37 {x0 : Nat} {x1 : Nat} (h0 : x0 < x1) : ((x1 + (1 : Nat)) + (1 : Nat)) ≠ x0 := (Nat.ne_of_gt (Nat.lt_trans h0 (Nat.lt_succ_of_le (Nat.le_add_right _ _))))
theorem om38 {x0 : Int} {x1 : Nat} {x2 : Nat} (h0 : x0 < ((256 : Int) + (↑x1 : Int))) : x0 < ((256 : Int) + ((↑x1 : Int) + (↑x2 : Int))) := (Int.lt_of_lt_of_le h0 (Int.add_le_add_left (Int.le_add_of_nonneg_right (Int.natCast_nonneg _)) _))
theorem om39 {x0 : Int} {x1 : Nat} {x2 : Nat} (h0 : x0 < ((256 : Int) + (↑x1 : Int))) : (x0 - (256 : Int)) < ((↑x1 : Int) + (↑x2 : Int)) := Int.sub_left_lt_of_lt_add (Int.lt_of_lt_of_le h0 (Int.add_le_add_left (Int.le_add_of_nonneg_right (Int.natCast_nonneg _)) _))
theorem om40 {x0 : Int} {x1 : Nat} (h0 : x0 < ((256 : Int) + (↑x1 : Int))) : (x0 - (256 : Int)) < (↑x1 : Int) := (Int.sub_left_lt_of_lt_add h0)
theorem om41 {x0 : Nat} {x1 : Nat} {x2 : Nat} {x3 : Nat} (h0 : x0 ≤ (x1 / (2 : Nat))) (h1 : (x2 - x3) < x0) : ((2 : Nat) * (x2 - x3)) < x1 := hb_92 (Nat.lt_of_lt_of_le h1 h0)
theorem om42 {x0 : Nat} {x1 : Nat} {x2 : Nat} {x3 : Nat} (h0 : x0 ≤ (x1 / (2 : Nat))) (h1 : (x2 - x3) < x0) : (((2 : Nat) * (x2 - x3)) + (1 : Nat)) < x1 := hb_93 (Nat.lt_of_lt_of_le h1 h0)
theorem om43 {x0 : Nat} {x1 : Nat} {x2 : Int} {x3 : Int} (h0 : ¬ (x0 < x1)) (h1 : (0 : Int) ≤ x2) (h2 : x2 < ((256 : Int) + (↑x1 : Int))) (h3 : (0 : Int) ≤ x3) (h4 : x3 < ((256 : Int) + (↑x1 : Int))) : (((0 : Int) ≤ x2) ∧ (((x2 < ((256 : Int) + (↑x0 : Int))) ∧ ((((0 : Int) ≤ x3) ∧ (x3 < ((256 : Int) + (↑x0 : Int)))))))) := ⟨h1, ⟨(Int.lt_of_lt_of_le h2 (Int.add_le_add_left (Int.ofNat_le.mpr (Nat.not_lt.mp h0)) _)), ⟨h3, (Int.lt_of_lt_of_le h4 (Int.add_le_add_left (Int.ofNat_le.mpr (Nat.not_lt.mp h0)) _))⟩⟩⟩
theorem om44 {x0 : Nat} {x1 : Nat} {x2 : Int} {x3 : Int} (h0 : ¬ (x0 < x1)) (h1 : (0 : Int) ≤ x2) (h2 : x2 < ((256 : Int) + (↑x1 : Int))) (h3 : (0 : Int) ≤ x3) (h4 : x3 < ((256 : Int) + (↑x1 : Int))) : (((0 : Int) ≤ x3) ∧ (((x3 < ((256 : Int) + (↑x0 : Int))) ∧ ((((0 : Int) ≤ x2) ∧ (x2 < ((256 : Int) + (↑x0 : Int)))))))) := ⟨h3, ⟨(Int.lt_of_lt_of_le h4 (Int.add_le_add_left (Int.ofNat_le.mpr (Nat.not_lt.mp h0)) _)), ⟨h1, (Int.lt_of_lt_of_le h2 (Int.add_le_add_left (Int.ofNat_le.mpr (Nat.not_lt.mp h0)) _))⟩⟩⟩
theorem om45 {x0 : Nat} {x1 : Nat} (h0 : x0 < x1) : (x0 + (1 : Nat)) ≤ x1 := (Nat.succ_le_of_lt h0)
theorem om46 {x0 : Nat} {x1 : Nat} (h0 : ¬ ((x0 - x1) = (0 : Nat))) : (1 : Nat) ≤ (x0 - x1) := (Nat.one_le_iff_ne_zero.mpr h0)
theorem om47 {x0 : Int} {x1 : Int} (h0 : x0 < x1) : x0 ≤ x1 := (Int.le_of_lt h0)
theorem om48 {x0 : Int} {x1 : Int} (h0 : ¬ (x0 < x1)) : x1 ≤ x0 := (Int.not_lt.mp h0)
theorem om49 {x0 : Nat} {x1 : Nat} : (Int.toNat ((((256 : Int) + (↑x0 : Int)) + (↑x1 : Int)) - (256 : Int))) = (x0 + x1) := by rw [Int.add_assoc, Int.add_comm, Int.add_sub_cancel]; rfl
theorem om50 {x0 : Nat} {x1 : Nat} : x0 ≤ (x0 + x1) := (Nat.le_add_right _ _)
theorem om51 {x0 : Nat} {x1 : Nat} : ¬ ((((256 : Int) + (↑x0 : Int)) + (↑x1 : Int)) < (256 : Int)) := (Int.not_lt.mpr (Int.le_trans (Int.le_add_of_nonneg_right (Int.natCast_nonneg _)) (Int.le_add_of_nonneg_right (Int.natCast_nonneg _))))
theorem om52 {x0 : Nat} {x1 : Nat} {x2 : Nat} {x3 : Nat} (h0 : x0 < (x1 / (2 : Nat))) (h1 : ((((x2 = ((2 : Nat) * x0)) ∧ (x3 = (((2 : Nat) * x0) + (1 : Nat))))) ∨ (((x2 = (((2 : Nat) * x0) + (1 : Nat))) ∧ (x3 = ((2 : Nat) * x0)))))) : x3 < x1 := h1.elim (fun h => h.2.symm ▸ hb_93 h0) (fun h => h.2.symm ▸ hb_92 h0)
theorem om53 {x0 : Nat} {x1 : Nat} : (0 : Int) ≤ (((256 : Int) + (↑x0 : Int)) + (↑x1 : Int)) := (Int.zero_le_ofNat (256 + x0 + x1))
theorem om54 {x0 : Nat} {x1 : Nat} {x2 : Nat} (h0 : x0 < (x1 / (2 : Nat))) : (((256 : Int) + (↑x2 : Int)) + (↑x0 : Int)) < ((256 : Int) + ((↑x2 : Int) + ((↑x1 : Int) / (2 : Int)))) := Int.lt_of_lt_of_le (Int.add_lt_add_left (Int.ofNat_lt.mpr h0) _) (Int.le_of_eq (Int.add_assoc 256 _ _))
theorem om55 {x0 : Nat} {x1 : Nat} {x2 : Nat} {x3 : Nat} {x4 : Nat} {x5 : Nat} (h0 : ((((x0 = ((2 : Nat) * x1)) ∧ (x2 = (((2 : Nat) * x1) + (1 : Nat))))) ∨ (((x0 = (((2 : Nat) * x1) + (1 : Nat))) ∧ (x2 = ((2 : Nat) * x1)))))) (h1 : ((((x3 = ((2 : Nat) * x4)) ∧ (x5 = (((2 : Nat) * x4) + (1 : Nat))))) ∨ (((x3 = (((2 : Nat) * x4) + (1 : Nat))) ∧ (x5 = ((2 : Nat) * x4)))))) (h2 : x2 = x5) : x1 = x4 := by omega
theorem om56 {x0 : Int} {x1 : Nat} (h0 : (256 : Int) ≤ x0) (h1 : x0 < ((256 : Int) + (↑x1 : Int))) : (Int.toNat (x0 - (256 : Int))) < x1 := hb_toN h1 h0
theorem om57 {x0 : Nat} (h0 : (x0 % (2 : Nat)) = (1 : Nat)) : (1 : Nat) = (x0 % (2 : Nat)) := h0.symm
theorem om58 {x0 : Nat} (h0 : ¬ ((x0 % (2 : Nat)) = (1 : Nat))) : (x0 % (2 : Nat)) = (0 : Nat) := (Nat.mod_two_ne_one.mp h0)
theorem om59 {x0 : Nat} {x1 : Nat} {x2 : Nat} {x3 : Nat} (h0 : x0 < ((min (x1 + x2) x3) - x1)) : ((x1 ≤ (((min (x1 + x2) x3) - (1 : Nat)) - x0)) ∧ ((((min (x1 + x2) x3) - (1 : Nat)) - x0) < (min (x1 + x2) x3))) := hb_59 h0
theorem om60 {x0 : Nat} {x1 : Nat} {x2 : Nat} {x3 : Nat} {x4 : Nat} (h0 : x0 < ((min (x1 + x2) x3) - x1)) (h1 : x4 < (min x0 ((min (x1 + x2) x3) - x1))) : (((((min (x1 + x2) x3) - (1 : Nat)) - x4) ≠ (((min (x1 + x2) x3) - (1 : Nat)) - x0)) ∧ (((x1 ≤ (((min (x1 + x2) x3) - (1 : Nat)) - x4)) ∧ ((((min (x1 + x2) x3) - (1 : Nat)) - x4) < (min (x1 + x2) x3))))) := hb_60 h0 (Nat.lt_of_lt_of_le h1 (Nat.min_le_left _ _))
theorem om61 {x0 : Nat} {x1 : Nat} (h0 : (1 : Nat) ≤ x0) (h1 : x0 < (min ((1 : Nat) + (2 : Nat)) x1)) : (((0 : Nat) < x0) ∧ (((x0 < (3 : Nat)) ∧ (x0 < x1)))) := ⟨(Nat.lt_of_succ_le h0), ⟨(Nat.lt_of_lt_of_le h1 (Nat.le_trans (Nat.min_le_left _ _) (by decide))), (Nat.lt_of_lt_of_le h1 (Nat.min_le_right _ _))⟩⟩
theorem om62 {x0 : Nat} {x1 : Nat} (h0 : (1 : Nat) ≤ x0) (h1 : x0 < (min ((1 : Nat) + (2 : Nat)) x1)) : (((0 : Nat) < x0) ∧ (((x0 < (5 : Nat)) ∧ (x0 < x1)))) := ⟨(Nat.lt_of_succ_le h0), ⟨(Nat.lt_of_lt_of_le h1 (Nat.le_trans (Nat.min_le_left _ _) (by decide))), (Nat.lt_of_lt_of_le h1 (Nat.min_le_right _ _))⟩⟩
theorem om63 {x0 : Nat} {x1 : Nat} (h0 : (3 : Nat) ≤ x0) (h1 : x0 < (min ((3 : Nat) + (2 : Nat)) x1)) : (((0 : Nat) < x0) ∧ (((x0 < (5 : Nat)) ∧ (x0 < x1)))) := ⟨(Nat.lt_of_lt_of_le (by decide) h0), ⟨(Nat.lt_of_lt_of_le h1 (Nat.le_trans (Nat.min_le_left _ _) (by decide))), (Nat.lt_of_lt_of_le h1 (Nat.min_le_right _ _))⟩⟩
theorem om64 {x0 : Nat} {x1 : Nat} {x2 : Nat} (h0 : x0 ≤ (50 : Nat)) (h1 : x1 ≤ x2) (h2 : x2 ≤ (11 : Nat)) : ((x1 + x0) + (1 : Nat)) < (100 : Nat) := by omega
theorem om65 {x0 : Nat} : (min (3 : Nat) x0) ≤ (21 : Nat) := (Nat.le_trans (Nat.min_le_left _ _) (by decide))
theorem om66 {x0 : Nat} : (((min (3 : Nat) x0) - (1 : Nat)) + ((min (5 : Nat) x0) - (3 : Nat))) ≤ (20 : Nat) := Nat.le_trans (Nat.add_le_add (Nat.le_trans (Nat.sub_le _ _) (Nat.min_le_left _ _)) (Nat.le_trans (Nat.sub_le _ _) (Nat.min_le_left _ _))) (by decide)
theorem om67 {x0 : Nat} {x1 : Nat} {x2 : Nat} {x3 : Nat} {x4 : Nat} (h0 : x0 ≤ (6 : Nat)) (h1 : x1 ≤ (20 : Nat)) : (x1 + (min x2 ((min (x3 + x0) x4) - x3))) ≤ (50 : Nat) := Nat.le_trans (Nat.add_le_add h1 (Nat.le_trans (Nat.min_le_right _ _) (Nat.le_trans (Nat.sub_le_iff_le_add'.mpr (Nat.min_le_left _ _)) h0))) (by decide)
theorem om68 {x0 : Nat} (h0 : (2 : Nat) ≤ x0) : (1 : Int) < (↑x0 : Int) := (Int.lt_of_toNat_lt h0)
theorem om69 {x0 : Nat} : (((((↑x0 : Int) - (1 : Int)) - (1 : Int)) / (2 : Int)) + (1 : Int)) = (↑(x0 / (2 : Nat)) : Int) := by omega
theorem om70 {x0 : Int} (h0 : x0 = (1 : Int)) : (((-((2 : Int) ^ (63 : Nat))) ≤ x0) ∧ (x0 < ((2 : Int) ^ (63 : Nat)))) := by subst h0; exact ⟨(by decide), (by decide)⟩
theorem om71 {x0 : Nat} {x1 : Int} (h0 : x0 ≤ (100 : Nat)) (h1 : x1 = (↑x0 : Int)) : (((-((2 : Int) ^ (63 : Nat))) ≤ x1) ∧ (x1 < ((2 : Int) ^ (63 : Nat)))) := ⟨(Int.le_trans (Int.le_trans (by decide) (Int.natCast_nonneg _)) (Int.le_of_eq h1.symm)), (Int.lt_of_le_of_lt (Int.le_trans (Int.le_of_eq h1) (Int.ofNat_le.mpr h0)) (by decide))⟩
theorem om72 {x0 : Nat} {x1 : Int} (h0 : x0 ≤ (100 : Nat)) (h1 : x1 = (↑(x0 / (2 : Nat)) : Int)) : (((-((2 : Int) ^ (63 : Nat))) ≤ x1) ∧ (x1 < ((2 : Int) ^ (63 : Nat)))) := by subst h1; exact ⟨(Int.le_trans (by decide) (Int.natCast_nonneg _)), (Int.lt_of_le_of_lt (Int.ofNat_le.mpr (Nat.le_trans (Nat.div_le_self _ _) h0)) (by decide))⟩
theorem om73 {x0 : Nat} {x1 : Int} (h0 : x0 ≤ (100 : Nat)) (h1 : x1 = (↑x0 : Int)) : (((-((2 : Int) ^ (63 : Nat))) ≤ (x1 + ((2 : Int) - (1 : Int)))) ∧ ((x1 + ((2 : Int) - (1 : Int))) < ((2 : Int) ^ (63 : Nat)))) := ⟨(Int.le_trans (Int.le_trans (by decide) (Int.natCast_nonneg _)) (Int.le_of_lt (Int.lt_add_one_of_le (Int.le_of_eq h1.symm)))), (Int.lt_of_le_of_lt (Int.add_le_add_right (Int.le_trans (Int.le_of_eq h1) (Int.ofNat_le.mpr h0)) _) (by decide))⟩
theorem om74 {x0 : Nat} {x1 : Nat} (h0 : ((2 : Nat) * (x0 + (1 : Nat))) ≤ x1) : ((2 : Nat) * x0) ≤ x1 := (Nat.le_of_add_right_le h0)
theorem om75 {x0 : Nat} : ((2 : Nat) * (x0 + (1 : Nat))) = ((((2 : Nat) * x0) + (1 : Nat)) + (1 : Nat)) := rfl
theorem om76 {x0 : Nat} {x1 : Nat} (h0 : ((2 : Nat) * (x0 + (1 : Nat))) ≤ x1) : ((2 : Nat) * x0) < x1 := (Nat.lt_of_succ_lt h0)
theorem om77 {x0 : Nat} {x1 : Nat} (h0 : ((2 : Nat) * (x0 + (1 : Nat))) ≤ x1) : (((2 : Nat) * x0) + (1 : Nat)) < x1 := (Nat.lt_of_succ_le h0)
theorem om78 {x0 : Nat} : ((2 : Nat) * (x0 / (2 : Nat))) ≤ x0 := (Nat.mul_div_le _ _)
theorem om79 {x0 : Nat} (h0 : (x0 % (2 : Nat)) = (1 : Nat)) : ((2 : Nat) * (x0 / (2 : Nat))) = (x0 - (1 : Nat)) := by omega
theorem om80 {x0 : Nat} (h0 : (x0 % (2 : Nat)) = (1 : Nat)) : (x0 - (1 : Nat)) < x0 := by omega
theorem om81 {x0 : Nat} : x0 ≤ ((x0 - (1 : Nat)) + (1 : Nat)) := Nat.sub_le_iff_le_add.mp (Nat.le_refl _)
theorem om82 {x0 : Nat} (h0 : ¬ ((x0 % (2 : Nat)) = (1 : Nat))) : x0 ≤ ((2 : Nat) * (x0 / (2 : Nat))) := by omega
theorem om83 {x0 : Nat} {x1 : Nat} {x2 : Nat} {x3 : Nat} (h0 : x0 = (x1 / (2 : Nat))) (h1 : x2 = ((x1 / (2 : Nat)) + (x1 % (2 : Nat)))) (h2 : x3 = x0) : x3 ≤ x2 := (Nat.le_trans (Nat.le_trans (Nat.le_trans (Nat.le_of_eq h2) (Nat.le_of_eq h0)) (Nat.le_add_right _ _)) (Nat.le_of_eq h1.symm))
theorem om84 {x0 : Nat} {x1 : Nat} (h0 : x0 ≤ (20 : Nat)) (h1 : x1 = ((x0 / (2 : Nat)) + (x0 % (2 : Nat)))) : x1 ≤ (11 : Nat) := by omega
theorem om85 {x0 : Nat} {x1 : Nat} (h0 : (2 : Nat) ≤ x0) (h1 : x1 = ((x0 / (2 : Nat)) + (x0 % (2 : Nat)))) : (0 : Nat) < x1 := by omega
theorem om86 {x0 : Int} {x1 : Nat} {x2 : Nat} (h0 : x0 < ((256 : Int) + (↑x1 : Int))) : x0 < ((256 : Int) + (↑(x1 + x2) : Int)) := (Int.lt_of_lt_of_le h0 (Int.add_le_add_left (Int.ofNat_le.mpr (Nat.le_add_right _ _)) _))
theorem om87 {x0 : Nat} {x1 : Nat} (h0 : x0 ≤ (x1 + (1 : Nat))) : (x0 / (2 : Nat)) ≤ x1 := by omega
theorem om88 {x0 : Nat} (h0 : x0 ≤ (20 : Nat)) : (x0 / (2 : Nat)) ≤ (20 : Nat) := (Nat.le_trans (Nat.div_le_self _ _) h0)
theorem om89 {x0 : Nat} {x1 : Nat} (h0 : x0 ≤ (x1 / (2 : Nat))) : ((x1 / (2 : Nat)) + x0) ≤ x1 := Nat.le_trans (Nat.add_le_add_left h0 _) hb_two
theorem om90 {x0 : Nat} : (Int.toNat (((1 : Int) + ((↑x0 : Int) * (2 : Int))) - (1 : Int))) = ((2 : Nat) * x0) := by rw [Int.add_comm, Int.add_sub_cancel]; exact Nat.mul_comm _ _
theorem om91 {x0 : Nat} : (Int.toNat ((1 : Int) + ((↑x0 : Int) * (2 : Int)))) = (((2 : Nat) * x0) + (1 : Nat)) := Eq.trans (b := 1 + x0 * 2) rfl (Nat.mul_comm x0 2 ▸ Nat.add_comm _ _)
theorem om92 {x0 : Nat} {x1 : Nat} (h0 : x0 < (x1 / (2 : Nat))) : ((2 : Nat) * x0) < x1 := hb_92 h0
theorem om93 {x0 : Nat} {x1 : Nat} (h0 : x0 < (x1 / (2 : Nat))) : (((2 : Nat) * x0) + (1 : Nat)) < x1 := hb_93 h0
theorem om94 {x0 : Nat} {x1 : Nat} {x2 : Nat} {x3 : Nat} {x4 : Nat} (h0 : x0 = (x1 + x2)) (h1 : x2 < (x3 / (2 : Nat))) (h2 : (x1 + x3) < (100 : Nat)) (h3 : (100 : Nat) ≤ x4) : x0 < x4 := (Nat.lt_trans (Nat.lt_of_le_of_lt (Nat.le_of_eq h0) (Nat.add_lt_add_left (Nat.lt_of_lt_of_le h1 (Nat.div_le_self _ _)) _)) (Nat.lt_of_lt_of_le h2 h3))
theorem om95 {x0 : Nat} {x1 : Nat} {x2 : Nat} {x3 : Nat} {x4 : Nat} (h0 : x0 = ((x1 + (x2 / (2 : Nat))) + x3)) (h1 : x3 ≤ x4) (h2 : x4 = (x2 / (2 : Nat))) (h3 : (x1 + x2) < (100 : Nat)) : x0 < (120 : Nat) := by subst h2; exact Nat.lt_of_le_of_lt (h0 ▸ Nat.le_trans (Nat.add_le_add_left h1 _) (by rw [Nat.add_assoc]; exact Nat.add_le_add_left hb_two _)) (Nat.lt_trans h3 (by decide))
theorem om96 {x0 : Nat} {x1 : Nat} {x2 : Nat} (h0 : (↑x0 : Int) < ((↑x1 : Int) + (↑x2 : Int))) : (↑x0 : Int) = (↑(min (x1 + x2) x0) : Int) := (congrArg Nat.cast (Nat.min_eq_right (Nat.le_of_lt (Int.ofNat_lt.mp h0)))).symm
theorem om97 {x0 : Nat} {x1 : Nat} {x2 : Nat} (h0 : ¬ ((↑x0 : Int) < ((↑x1 : Int) + (↑x2 : Int)))) : ((↑x1 : Int) + (↑x2 : Int)) = (↑(min (x1 + x2) x0) : Int) := (congrArg Nat.cast (Nat.min_eq_left (Int.ofNat_le.mp (Int.not_lt.mp h0)))).symm
theorem om98 {x0 : Nat} {x1 : Nat} : (Int.toNat (((↑x0 : Int) - (1 : Int)) - ((↑x1 : Int) - (1 : Int)))) = (x0 - x1) := by omega
theorem om99 {x0 : Nat} {x1 : Nat} (h0 : x0 < x1) : (((↑x1 : Int) - (1 : Int)) + ((↑x0 : Int) * (-(1 : Int)))) = (↑((x1 - (1 : Nat)) - x0) : Int) := by omega
theorem om100 {x0 : Nat} {x1 : Nat} {x2 : Nat} (h0 : x0 < (min x1 x2)) : (((min x1 x2) - (1 : Nat)) - x0) < x2 := hb_100 h0 (Nat.min_le_right _ _)
theorem om101 {x0 : Nat} {x1 : Nat} {x2 : Nat} {x3 : Nat} (h0 : x0 < ((min x1 x2) - x3)) (h1 : (0 : Nat) < x3) : (0 : Nat) < (((min x1 x2) - (1 : Nat)) - x0) := hb_101 h0 h1
theorem om102 {x0 : Nat} {x1 : Nat} {x2 : Nat} {x3 : Nat} {x4 : Nat} (h0 : x0 < ((min x1 x2) - x3)) (h1 : (0 : Nat) < x4) (h2 : x4 < x3) : (((0 : Nat) < x4) ∧ (((x4 < x2) ∧ (x4 ≠ (((min x1 x2) - (1 : Nat)) - x0))))) := ⟨h1, Nat.lt_of_lt_of_le (hb_102 h0 h2).1 (Nat.min_le_right _ _), (hb_102 h0 h2).2⟩
theorem om103 {x0 : Nat} {x1 : Nat} {x2 : Nat} {x3 : Nat} {x4 : Nat} (h0 : (0 : Nat) < x0) (h1 : x1 ≠ (((min x2 x3) - (1 : Nat)) - x4)) (h2 : x0 ≤ x1) (h3 : x1 < (min x2 x3)) : (((0 : Nat) < x1) ∧ (((x1 < x3) ∧ (x1 ≠ (((min x2 x3) - (1 : Nat)) - x4))))) := ⟨(Nat.lt_of_lt_of_le h0 h2), ⟨(Nat.lt_of_lt_of_le h3 (Nat.min_le_right _ _)), h1⟩⟩
theorem om104 {x0 : Nat} {x1 : Nat} {x2 : Nat} (h0 : x0 < (x1 - x2)) : x0 < x1 := (Nat.lt_of_lt_of_le h0 (Nat.sub_le _ _))
theorem om105 {x0 : Nat} {x1 : Nat} {x2 : Nat} (h0 : x0 ≤ (x1 + (1 : Nat))) (h1 : x2 = (x0 / (2 : Nat))) : x2 ≤ x1 := by omega
theorem om106 {x0 : Nat} {x1 : Nat} (h0 : x0 ≤ (20 : Nat)) (h1 : x1 = (x0 / (2 : Nat))) : x1 ≤ (20 : Nat) := (Nat.le_trans (Nat.le_of_eq h1) (Nat.le_trans (Nat.div_le_self _ _) h0))
theorem om107 {x0 : Nat} {x1 : Nat} {x2 : Nat} {x3 : Nat} (h0 : x0 = (x1 + (x2 / (2 : Nat)))) (h1 : x3 = (x2 / (2 : Nat))) (h2 : (x1 + x2) < (100 : Nat)) : (x0 + x3) < (100 : Nat) := by subst h0; subst h1; exact Nat.lt_of_le_of_lt (by rw [Nat.add_assoc]; exact Nat.add_le_add_left hb_two _) h2
theorem om108 {x0 : Nat} : (Int.toNat ((-(1 : Int)) + (↑x0 : Int))) = (x0 - (1 : Nat)) := (congrArg Int.toNat (Int.add_comm _ _)).trans (Int.toNat_sub x0 1)
theorem om109 {x0 : Nat} {x1 : Nat} {x2 : Nat} {x3 : Int} (h0 : x0 = (x1 + x2)) (h1 : x3 < ((256 : Int) + (↑x1 : Int))) : x3 < ((256 : Int) + (↑x0 : Int)) := (Int.lt_of_lt_of_le h1 (Int.add_le_add_left (Int.ofNat_le.mpr (Nat.le_trans (Nat.le_add_right _ _) (Nat.le_of_eq h0.symm))) _))
theorem om110 {x0 : Nat} {x1 : Nat} {x2 : Nat} {x3 : Nat} (h0 : x0 = (x1 + x2)) (h1 : x2 < (x3 / (2 : Nat))) (h2 : (x1 + x3) < (100 : Nat)) : ((↑x0 : Int) + (1 : Int)) < (9223372036854775808 : Int) := (Int.lt_of_le_of_lt (Int.add_one_le_of_lt (Int.ofNat_lt.mpr (Nat.lt_trans (Nat.lt_of_le_of_lt (Nat.le_of_eq h0) (Nat.add_lt_add_left (Nat.lt_of_lt_of_le h1 (Nat.div_le_self _ _)) _)) h2))) (by decide))
theorem om111 {x0 : Nat} {x1 : Nat} {x2 : Nat} (h0 : x0 = (x1 + x2)) : (((256 : Int) + ((↑x0 : Int) + (1 : Int))) - (1 : Int)) = (((256 : Int) + (↑x1 : Int)) + (↑x2 : Int)) := by omega
theorem om112 {x0 : Nat} {x1 : Nat} (h0 : x0 ≤ (x1 + (1 : Nat))) (h1 : ¬ (x0 < (2 : Nat))) : (1 : Nat) ≤ x1 := (Nat.le_of_lt_succ (Nat.lt_of_succ_le (Nat.le_trans (Nat.not_lt.mp h1) h0)))
theorem om113 {x0 : Int} {x1 : Nat} (h0 : x0 < ((256 : Int) + (↑x1 : Int))) (h1 : x1 < (120 : Nat)) : (x0 - (256 : Int)) < ((2 : Int) ^ (63 : Nat)) := Int.lt_trans (Int.sub_left_lt_of_lt_add h0) (Int.lt_trans (Int.ofNat_lt.mpr h1) (by decide))
theorem om114 {x0 : Nat} (h0 : (↑x0 : Int) < (2 : Int)) : x0 < (2 : Nat) := (Int.ofNat_lt.mp h0)
theorem om115 {x0 : Nat} (h0 : ¬ ((↑x0 : Int) < (2 : Int))) : ¬ (x0 < (2 : Nat)) := (Nat.not_lt.mpr (Int.ofNat_le.mp (Int.not_lt.mp h0)))
theorem om116 {x0 : Nat} {x1 : Nat} {x2 : Nat} {x3 : Nat} {x4 : Nat} (h0 : x0 = ((x1 + (x2 / (2 : Nat))) + x3)) (h1 : x4 < (x2 / (2 : Nat))) : (((256 : Int) ≤ (((256 : Int) + (↑x1 : Int)) + (↑x4 : Int))) ∧ ((((256 : Int) + (↑x1 : Int)) + (↑x4 : Int)) < ((256 : Int) + (↑x0 : Int)))) := by subst h0; exact ⟨Int.le_trans (Int.le_add_of_nonneg_right (Int.natCast_nonneg x1)) (Int.le_add_of_nonneg_right (Int.natCast_nonneg x4)), Int.lt_of_lt_of_le (Int.add_lt_add_left (Int.ofNat_lt.mpr h1) _) (Int.le_trans (Int.le_of_eq (Int.add_assoc 256 _ _)) (Int.add_le_add_left (Int.ofNat_le.mpr (Nat.le_add_right _ _)) _))⟩
theorem om117 {x0 : Nat} (h0 : ((↑x0 : Int) % (2 : Int)) = (1 : Int)) : (x0 % (2 : Nat)) = (1 : Nat) := (Eq.symm ((fun {m n} => Int.ofNat_inj.mp) (id (Eq.symm h0))))
theorem om118 {x0 : Nat} (h0 : ((↑x0 : Int) % (2 : Int)) ≠ (1 : Int)) : ¬ ((x0 % (2 : Nat)) = (1 : Nat)) := (ne_of_apply_ne Int.ofNat h0)
theorem om119 {x0 : Nat} : (-((2 : Int) ^ (62 : Nat))) ≤ ((↑x0 : Int) - (1 : Int)) := hb_mpos
theorem om120 {x0 : Nat} {x1 : Nat} : (-((2 : Int) ^ (62 : Nat))) ≤ (((↑x0 : Int) + (↑x1 : Int)) - (1 : Int)) := hb_mpos (a := x0 + x1)
theorem om121 {x0 : Nat} (h0 : x0 ≤ (11 : Nat)) : ((↑x0 : Int) - (1 : Int)) < ((2 : Int) ^ (62 : Nat)) := (Int.lt_of_lt_of_le (Int.sub_lt_self _ (by decide)) (Int.le_trans (Int.ofNat_le.mpr h0) (by decide)))
theorem om122 {x0 : Nat} {x1 : Nat} {x2 : Nat} (h0 : x0 ≤ (11 : Nat)) (h1 : ¬ ((↑x0 : Int) < ((↑x1 : Int) + (↑x2 : Int)))) : (((↑x1 : Int) + (↑x2 : Int)) - (1 : Int)) < ((2 : Int) ^ (62 : Nat)) := (Int.lt_of_lt_of_le (Int.sub_lt_self _ (by decide)) (Int.le_trans (Int.not_lt.mp h1) (Int.le_trans (Int.ofNat_le.mpr h0) (by decide))))
theorem om123 {x0 : Nat} (h0 : x0 ≤ (5 : Nat)) : ((↑x0 : Int) - (1 : Int)) < ((2 : Int) ^ (62 : Nat)) := (Int.lt_of_lt_of_le (Int.sub_lt_self _ (by decide)) (Int.le_trans (Int.ofNat_le.mpr h0) (by decide)))
theorem om124 {x0 : Nat} {x1 : Nat} : ((↑x0 : Int) + (↑x1 : Int)) = (↑(x0 + x1) : Int) := (Int.ofNat_add_ofNat x0 x1)
theorem om125 {x0 : Nat} {x1 : Nat} (h0 : (x0 + (1 : Nat)) < x1) : x0 ≤ x1 := (Nat.le_of_lt (Nat.lt_of_succ_le (Nat.le_of_lt h0)))
theorem om126 {x0 : Nat} {x1 : Nat} (h0 : (x0 + ((5 : Nat) * (x1 + (1 : Nat)))) ≤ (790 : Nat)) : x0 ≤ (790 : Nat) := (Nat.le_of_add_right_le h0)
theorem om127 {x0 : Nat} {x1 : Nat} (h0 : (x0 + ((50 : Nat) * (x1 + (1 : Nat)))) ≤ (7900 : Nat)) : x0 ≤ (7900 : Nat) := (Nat.le_of_add_right_le h0)
theorem om128 {x0 : Nat} {x1 : Nat} (h0 : (x0 + ((5 : Nat) * (x1 + (1 : Nat)))) ≤ (790 : Nat)) : ((x0 + (5 : Nat)) + ((5 : Nat) * x1)) ≤ (790 : Nat) := by rw [Nat.add_assoc, Nat.add_comm 5]; exact h0
theorem om129 {x0 : Nat} {x1 : Nat} (h0 : (x0 + ((50 : Nat) * (x1 + (1 : Nat)))) ≤ (7900 : Nat)) : ((x0 + (50 : Nat)) + ((50 : Nat) * x1)) ≤ (7900 : Nat) := by rw [Nat.add_assoc, Nat.add_comm 50]; exact h0
theorem om130 {x0 : Int} {x1 : Int} {x2 : Int} (h0 : (0 : Int) ≤ x0) (h1 : x0 ≤ (1 : Int)) (h2 : (0 : Int) ≤ x1) (h3 : x1 < x2) : (((0 : Int) ≤ (x0 + ((2 : Int) * x1))) ∧ ((x0 + ((2 : Int) * x1)) < (x2 * (2 : Int)))) := by omega
theorem om131 {x0 : Nat} {x1 : Nat} {x2 : Nat} (h0 : x0 ≤ x1) (h1 : x1 ≤ x2) : (x2 - x0) = ((x1 - x0) + (x2 - x1)) := hb_131 h0 h1
theorem om132 {x0 : Nat} {x1 : Nat} (h0 : x0 ≤ x1) : (x0 + (x1 - x0)) = x1 := (Nat.add_sub_of_le h0)
theorem om133 {x0 : Nat} {x1 : Nat} {x2 : Nat} {x3 : Nat} (h0 : x0 ≤ x1) (h1 : x1 ≤ x2) : (x0 - x3) ≤ (x2 - x3) := (Nat.sub_le_sub_right (Nat.le_trans h0 h1) _)
theorem om134 {x0 : Nat} : ((900 : Nat) - ((3 : Nat) * x0)) < (1000 : Nat) := (Nat.lt_of_le_of_lt (Nat.sub_le _ _) (by decide))
theorem om135 {x0 : Nat} {x1 : Nat} {x2 : Nat} (h0 : x0 = ((x1 + x2) / (2 : Nat))) : (((↑x1 : Int) + (↑x2 : Int)) / (2 : Int)) = (↑x0 : Int) := by simp_all
theorem om136 {x0 : Nat} {x1 : Nat} (h0 : ((↑x0 : Int) + (1 : Int)) = (↑x1 : Int)) : (x1 - x0) = (1 : Nat) := by have h : x0 + 1 = x1 := Int.ofNat.inj h0; subst h; exact Nat.add_sub_cancel_left ..
theorem om137 {x0 : Nat} {x1 : Nat} {x2 : Nat} (h0 : x0 < x1) (h1 : x1 ≤ x2) : x0 < x2 := (Nat.lt_of_lt_of_le h0 h1)
theorem om138 {x0 : Nat} {x1 : Nat} {x2 : Nat} {x3 : Nat} (h0 : (x0 - x1) = x2) (h1 : x1 < x0) (h2 : x3 = ((x1 + x0) / (2 : Nat))) (h3 : ((↑x1 : Int) + (1 : Int)) ≠ (↑x0 : Int)) : (x0 - x3) < x2 := by subst h0; subst h2; exact Nat.sub_lt_sub_left h1 (hb_gt h1 h3)
theorem om139 {x0 : Nat} {x1 : Nat} {x2 : Nat} (h0 : x0 < x1) (h1 : x2 = ((x0 + x1) / (2 : Nat))) : x2 < x1 := by subst h1; exact hb_lt h0
theorem om140 {x0 : Nat} {x1 : Nat} {x2 : Nat} {x3 : Nat} {x4 : Nat} (h0 : x0 ≤ (60 : Nat)) (h1 : (x1 - x2) = x3) (h2 : x2 < x1) (h3 : x1 ≤ x0) (h4 : x4 = ((x2 + x1) / (2 : Nat))) (h5 : ((↑x2 : Int) + (1 : Int)) ≠ (↑x1 : Int)) : (((900 : Nat) - ((3 : Nat) * x3)) + (1 : Nat)) ≤ ((900 : Nat) - ((3 : Nat) * (x1 - x4))) := by subst h1; subst h4; exact hb_gas (Nat.sub_lt_sub_left h2 (hb_gt h2 h5)) (Nat.le_trans (Nat.sub_le _ _) (Nat.le_trans h3 h0))
theorem om141 {x0 : Nat} {x1 : Nat} {x2 : Nat} {x3 : Nat} {x4 : Nat} (h0 : x0 ≤ (60 : Nat)) (h1 : (x1 - x2) = x3) (h2 : x2 < x1) (h3 : x1 ≤ x0) (h4 : x4 = ((x2 + x1) / (2 : Nat))) (h5 : ((↑x2 : Int) + (1 : Int)) ≠ (↑x1 : Int)) : (((9000 : Nat) - ((30 : Nat) * x3)) + (3 : Nat)) ≤ ((9000 : Nat) - ((30 : Nat) * (x1 - x4))) := by subst h1; subst h4; exact hb_gas' (Nat.sub_lt_sub_left h2 (hb_gt h2 h5)) (Nat.le_trans (Nat.sub_le _ _) (Nat.le_trans h3 h0))
theorem om142 {x0 : Nat} {x1 : Nat} {x2 : Nat} (h0 : x0 < x1) (h1 : x2 = ((x0 + x1) / (2 : Nat))) : (((↑x2 : Int) - (↑x0 : Int)) * (1 : Int)) = (↑(x2 - x0) : Int) := by subst h1; exact (Int.mul_one _).trans (Int.ofNat_sub (hb_ge (Nat.le_of_lt h0))).symm
theorem om143 {x0 : Nat} {x1 : Nat} {x2 : Nat} (h0 : x0 ≤ (60 : Nat)) : (min (x1 - x2) (x0 - x2)) ≤ (60 : Nat) := (Nat.le_trans (Nat.min_le_right _ _) (Nat.le_trans (Nat.sub_le _ _) h0))
theorem om144 {x0 : Nat} {x1 : Nat} : (0 : Int) ≤ (↑(x0 - x1) : Int) := (Int.natCast_nonneg _)
theorem om145 {x0 : Nat} {x1 : Nat} {x2 : Nat} {x3 : Nat} (h0 : x0 ≤ (60 : Nat)) (h1 : x1 ≤ x0) (h2 : x2 = ((x3 + x1) / (2 : Nat))) : (↑(x2 - x3) : Int) ≤ (1000000 : Int) := by omega
theorem om146 {x0 : Nat} {x1 : Nat} {x2 : Nat} {x3 : Nat} (h0 : (x0 - x1) = x2) (h1 : x1 < x0) (h2 : x3 = ((x1 + x0) / (2 : Nat))) : (x3 - x1) < x2 := by subst h0; subst h2; exact Nat.sub_lt_sub_right (hb_ge (Nat.le_of_lt h1)) (hb_lt h1)
theorem om147 {x0 : Nat} {x1 : Nat} {x2 : Nat} (h0 : x0 < x1) (h1 : x2 = ((x0 + x1) / (2 : Nat))) (h2 : ((↑x0 : Int) + (1 : Int)) ≠ (↑x1 : Int)) : x0 < x2 := by subst h1; exact hb_gt h0 h2
theorem om148 {x0 : Nat} {x1 : Nat} {x2 : Nat} {x3 : Nat} (h0 : x0 < x1) (h1 : x1 ≤ x2) (h2 : x3 = ((x0 + x1) / (2 : Nat))) : x3 ≤ x2 := by subst h2; exact Nat.le_trans (Nat.le_of_lt (hb_lt h0)) h1
theorem om149 {x0 : Nat} {x1 : Nat} {x2 : Nat} {x3 : Nat} {x4 : Nat} (h0 : x0 ≤ (60 : Nat)) (h1 : (x1 - x2) = x3) (h2 : x2 < x1) (h3 : x1 ≤ x0) (h4 : x4 = ((x2 + x1) / (2 : Nat))) : (((900 : Nat) - ((3 : Nat) * x3)) + (1 : Nat)) ≤ ((900 : Nat) - ((3 : Nat) * (x4 - x2))) := by subst h1; subst h4; exact hb_gas (Nat.sub_lt_sub_right (hb_ge (Nat.le_of_lt h2)) (hb_lt h2)) (Nat.le_trans (Nat.sub_le _ _) (Nat.le_trans h3 h0))
theorem om150 {x0 : Nat} {x1 : Nat} {x2 : Nat} {x3 : Nat} {x4 : Nat} (h0 : x0 ≤ (60 : Nat)) (h1 : (x1 - x2) = x3) (h2 : x2 < x1) (h3 : x1 ≤ x0) (h4 : x4 = ((x2 + x1) / (2 : Nat))) : (((9000 : Nat) - ((30 : Nat) * x3)) + (3 : Nat)) ≤ ((9000 : Nat) - ((30 : Nat) * (x4 - x2))) := by subst h1; subst h4; exact hb_gas' (Nat.sub_lt_sub_right (hb_ge (Nat.le_of_lt h2)) (hb_lt h2)) (Nat.le_trans (Nat.sub_le _ _) (Nat.le_trans h3 h0))
theorem om151 {x0 : Nat} {x1 : Nat} {x2 : Nat} (h0 : x0 < x1) (h1 : x2 = ((x0 + x1) / (2 : Nat))) : x0 ≤ x2 := by subst h1; exact hb_ge (Nat.le_of_lt h0)
theorem om152 {x0 : Nat} {x1 : Nat} {x2 : Nat} (h0 : x0 < x1) (h1 : x2 = ((x0 + x1) / (2 : Nat))) : x2 ≤ x1 := by subst h1; exact Nat.le_of_lt (hb_lt h0)
theorem om153 {x0 : Nat} (h0 : x0 ≤ (60 : Nat)) : ((600 : Nat) + (1 : Nat)) ≤ ((900 : Nat) - ((3 : Nat) * (x0 - (0 : Nat)))) := Nat.le_trans (by decide : 601 ≤ 900 - 3 * 60) (Nat.sub_le_sub_left (Nat.mul_le_mul_left 3 h0) 900)
theorem om154 {x0 : Nat} (h0 : x0 ≤ (60 : Nat)) : ((6000 : Nat) + (3 : Nat)) ≤ ((9000 : Nat) - ((30 : Nat) * (x0 - (0 : Nat)))) := Nat.le_trans (by decide : 6003 ≤ 9000 - 30 * 60) (Nat.sub_le_sub_left (Nat.mul_le_mul_left 30 h0) 9000)
theorem om155 {x0 : Int} (h0 : (0 : Int) ≤ x0) : (-((2 : Int) ^ (63 : Nat))) ≤ x0 := (Int.le_trans (by decide) h0)
theorem om156 {x0 : Int} (h0 : x0 ≤ (1000 : Int)) : x0 < ((2 : Int) ^ (63 : Nat)) := (Int.lt_of_le_of_lt h0 (by decide))
theorem om157 {x0 : Int} (h0 : x0 ≤ (1000 : Int)) : x0 ≤ (16777216 : Int) := (Int.le_trans h0 (by decide))
theorem om158 {x0 : Nat} : (0 : Int) ≤ (↑x0 : Int) := (Int.natCast_nonneg x0)
theorem om159 {x0 : Nat} {x1 : Nat} {x2 : Nat} {x3 : Nat} (h0 : (x0 + x1) = x2) (h1 : x0 = x3) : (((↑x2 : Int) + (↑x3 : Int)) - ((2 : Int) * (↑x3 : Int))) = (↑x1 : Int) := by omega
theorem om160 {x0 : Nat} {x1 : Nat} (h0 : x0 < x1) : x1 = (x0 + (((x1 - x0) - (1 : Nat)) + (1 : Nat))) := ((congrArg (fun z => x0 + z) (Nat.sub_add_cancel (Nat.sub_pos_of_lt h0))).trans (Nat.add_sub_of_le (Nat.le_of_lt h0))).symm
theorem om161 {x0 : Int} {x1 : Int} : (x0 % (2 : Int)) = ((x0 - ((2 : Int) * x1)) % (2 : Int)) := (Eq.symm (Int.sub_mul_emod_self_left x0 2 x1))
theorem om162 {x0 : Int} (h0 : (0 : Int) ≤ x0) (h1 : x0 < (2 : Int)) : ((x0 = (0 : Int)) ∨ (x0 = (1 : Int))) := by omega
theorem om163 {x0 : Nat} {x1 : Nat} {x2 : Nat} (h0 : (x0 + x1) ≤ x2) : ((min x0 x2) + (x1 + (x2 - (x0 + x1)))) = x2 := by rw [Nat.min_eq_left (Nat.le_trans (Nat.le_add_right _ _) h0), ← Nat.add_assoc, Nat.add_sub_of_le h0]
theorem om164 {x0 : Nat} {x1 : Nat} {x2 : Nat} {x3 : Nat} (h0 : ((x0 + x1) + x2) ≤ x3) : (min x0 x3) = x0 := Nat.min_eq_left (Nat.le_trans (Nat.le_add_right _ _) (Nat.le_trans (Nat.le_add_right _ _) h0))
theorem om165 {x0 : Nat} : (((↑x0 : Int) + (1 : Int)) - (1 : Int)) = (↑x0 : Int) := (Int.add_sub_cancel (↑x0) 1)
theorem om166 {x0 : Nat} (h0 : x0 ≤ (60 : Nat)) : (↑x0 : Int) ≤ (1000 : Int) := (Int.le_trans (Int.ofNat_le.mpr h0) (by decide))
theorem om167 {x0 : Nat} {x1 : Nat} {x2 : Nat} {x3 : Nat} (h0 : x0 < x1) (h1 : x1 ≤ x2) (h2 : x3 = x2) : x0 < x3 := (Nat.lt_of_lt_of_le h0 (Nat.le_trans h1 (Nat.le_of_eq h2.symm)))
theorem om168 {x0 : Nat} {x1 : Nat} {x2 : Nat} (h0 : x0 = ((x1 + x2) / (2 : Nat))) : (x2 - x1) = ((x0 - x1) + (x2 - x0)) := by subst h0; exact (Nat.le_total x1 x2).elim (fun h => hb_131 (hb_ge h) (hb_le h)) (fun h => by rw [Nat.add_comm x1 x2, Nat.sub_eq_zero_of_le h, Nat.sub_eq_zero_of_le (hb_le h), Nat.sub_eq_zero_of_le (hb_ge h)])
theorem om169 {x0 : Nat} {x1 : Nat} {x2 : Nat} (h0 : x0 ≤ (60 : Nat)) (h1 : x1 ≤ x0) : (x1 - x2) ≤ (60 : Nat) := (Nat.le_trans (Nat.sub_le _ _) (Nat.le_trans h1 h0))
theorem om170 {x0 : Nat} {x1 : Nat} {x2 : Nat} {x3 : Nat} {x4 : Nat} (h0 : x0 < x1) (h1 : x1 ≤ x2) (h2 : x3 = x2) (h3 : x4 = ((x0 + x1) / (2 : Nat))) : (x0 + (x4 - x0)) ≤ x3 := by subst h3; exact Nat.le_trans (Nat.le_of_eq (Nat.add_sub_of_le (hb_ge (Nat.le_of_lt h0)))) (Nat.le_trans (Nat.le_of_lt (hb_lt h0)) (h2.symm ▸ h1))
theorem om171 {x0 : Nat} {x1 : Nat} {x2 : Nat} (h0 : x0 < x1) (h1 : x2 = ((x0 + x1) / (2 : Nat))) : (x0 + (x2 - x0)) = x2 := by subst h1; exact Nat.add_sub_of_le (hb_ge (Nat.le_of_lt h0))
theorem om172 {x0 : Nat} {x1 : Nat} {x2 : Nat} {x3 : Nat} {x4 : Nat} (h0 : x0 < x1) (h1 : x1 ≤ x2) (h2 : x3 = x2) (h3 : x4 = ((x0 + x1) / (2 : Nat))) : ((x0 + (x4 - x0)) + (x1 - x4)) ≤ x3 := by subst h3; exact Nat.le_trans (Nat.le_of_eq (Eq.trans (congrArg (fun z => z + _) (Nat.add_sub_of_le (hb_ge (Nat.le_of_lt h0)))) (Nat.add_sub_of_le (Nat.le_of_lt (hb_lt h0))))) (h2.symm ▸ h1)
theorem om173 {x0 : Nat} (h0 : x0 ≤ (60 : Nat)) : (↑x0 : Int) < (9223372036854775808 : Int) := (Int.lt_of_le_of_lt (Int.ofNat_le.mpr h0) (by decide))
theorem om174 {x0 : Int} (h0 : (0 : Int) ≤ x0) (h1 : x0 < (1 : Int)) : x0 = (0 : Int) := Int.le_antisymm (Int.le_of_lt_add_one h1) h0
theorem om175 {x0 : Nat} (h0 : x0 ≤ (60 : Nat)) : ((600 : Nat) + (1 : Nat)) ≤ ((900 : Nat) - ((3 : Nat) * x0)) := (Nat.le_trans (by decide) (Nat.sub_le_sub_left (Nat.mul_le_mul_left _ h0) _))
theorem om176 {x0 : Nat} (h0 : ((600 : Nat) + (1 : Nat)) ≤ ((900 : Nat) - ((3 : Nat) * x0))) : ((6000 : Nat) + (3 : Nat)) ≤ ((9000 : Nat) - ((30 : Nat) * x0)) := by omega
theorem om177 {x0 : Nat} (h0 : (41 : Nat) < x0) : (x0 + (1 : Nat)) ≠ (41 : Nat) := (Nat.ne_of_gt (Nat.lt_succ_of_le (Nat.le_of_lt h0)))
theorem om178 {x0 : Nat} {x1 : Nat} (h0 : x0 ≤ (60 : Nat)) (h1 : x1 = x0) : x1 ≤ (61 : Nat) := (Nat.le_trans (Nat.le_trans (Nat.le_of_eq h1) h0) (by decide))
theorem om179 {x0 : Nat} (h0 : x0 ≤ (61 : Nat)) : x0 ≤ (16777216 : Nat) := (Nat.le_trans h0 (by decide))
theorem om180 {x0 : Nat} {x1 : Nat} {x2 : Nat} {x3 : Nat} (h0 : x0 ≤ (60 : Nat)) (h1 : x0 = (x1 + (1 : Nat))) (h2 : x1 = (x2 + (x3 + (1 : Nat)))) : x3 ≤ (16777214 : Nat) := (Nat.le_trans (Nat.le_of_lt (Nat.lt_trans (Nat.lt_of_succ_le (Nat.le_add_left _ _)) (Nat.lt_succ_of_le (Nat.le_of_eq h2.symm)))) (Nat.le_trans (Nat.le_trans (Nat.le_of_eq h1.symm) h0) (by decide)))
theorem om181 {x0 : Nat} {x1 : Nat} {x2 : Nat} (h0 : (x0 + (1 : Nat)) < x1) (h1 : x2 < x0) : x2 ≠ x1 := (Nat.ne_of_lt (Nat.lt_trans h1 (Nat.lt_of_succ_le (Nat.le_of_lt h0))))
theorem om182 {x0 : Nat} (h0 : x0 ≤ (20 : Nat)) : ((501 : Nat) + ((5 : Nat) * x0)) ≤ (790 : Nat) := (Nat.le_trans (Nat.add_le_add_left (Nat.mul_le_mul_left _ h0) _) (by decide))
theorem om183 {x0 : Nat} (h0 : x0 ≤ (20 : Nat)) : ((5003 : Nat) + ((50 : Nat) * x0)) ≤ (7900 : Nat) := (Nat.le_trans (Nat.add_le_add_left (Nat.mul_le_mul_left _ h0) _) (by decide))
theorem om184 {x0 : Nat} {x1 : Nat} (h0 : x0 ≤ x1) (h1 : x1 ≤ (20 : Nat)) : x0 ≤ (20 : Nat) := (Nat.le_trans h0 h1)
theorem om185 {x0 : Nat} {x1 : Nat} (h0 : x0 ≤ x1) (h1 : x1 ≤ (20 : Nat)) : x0 < (100 : Nat) := (Nat.lt_of_le_of_lt (Nat.le_trans h0 h1) (by decide))
theorem om186 {x0 : Nat} (h0 : (162 : Nat) < x0) : (x0 + (1 : Nat)) ≠ (162 : Nat) := (Nat.ne_of_gt (Nat.lt_succ_of_le (Nat.le_of_lt h0)))
theorem om187 {x0 : Nat} (h0 : x0 = (1 : Nat)) : (↑x0 : Int) < (9223372036854775808 : Int) := by subst h0; exact (by decide)
theorem om188 {x0 : Nat} {x1 : Nat} {x2 : Nat} (h0 : x0 < x1) (h1 : x1 < x2) : x0 < x2 := (Nat.lt_trans h0 h1)
theorem om189 {x0 : Nat} {x1 : Nat} {x2 : Nat} (h0 : x0 < x1) (h1 : (x1 - x0) = (0 : Nat)) : x2 ≤ (0 : Nat) := absurd h1 (Nat.sub_ne_zero_of_lt h0)
theorem om190 {x0 : Nat} {x1 : Nat} {x2 : Nat} (h0 : (x0 - x1) < (x2 * (2 : Nat))) : (x0 - (((x1 + x0) / (2 : Nat)) + (1 : Nat))) < x2 := by omega
theorem om191 {x0 : Nat} {x1 : Nat} (h0 : x0 ≤ x1) : (x0 + (1 : Nat)) ≤ (x1 + (1 : Nat)) := (Nat.add_le_add_right h0 _)
theorem om192 {x0 : Nat} {x1 : Nat} {x2 : Nat} (h0 : (x0 - x1) < (x2 * (2 : Nat))) : (((x1 + x0) / (2 : Nat)) - x1) < x2 := by omega
theorem om193 {x0 : Nat} {x1 : Nat} (h0 : (x0 - x1) ≤ (0 : Nat)) (h1 : x1 ≤ x0) : x1 = x0 := Nat.le_antisymm h1 (Nat.le_of_sub_eq_zero (Nat.le_zero.mp h0))
theorem om194 {x0 : Nat} {x1 : Nat} {x2 : Nat} (h0 : x0 < (((x1 + x2) / (2 : Nat)) + (1 : Nat))) (h1 : ¬ (x0 = ((x1 + x2) / (2 : Nat)))) : x0 < ((x1 + x2) / (2 : Nat)) := (Nat.lt_of_le_of_ne (Nat.le_of_lt_succ h0) h1)
theorem om195 {x0 : Int} {x1 : Int} {x2 : Int} (h0 : x0 < x1) (h1 : x1 < x2) : x0 < x2 := (Int.lt_trans h0 h1)
theorem om196 {x0 : Nat} {x1 : Nat} {x2 : Nat} (h0 : x0 ≤ x1) (h1 : x2 < x0) : ((x2 + x0) / (2 : Nat)) ≤ x1 := Nat.le_trans (Nat.le_of_lt (hb_lt h1)) h0
theorem om197 {x0 : Nat} {x1 : Nat} {x2 : Nat} (h0 : ((x0 + x1) / (2 : Nat)) ≤ x2) (h1 : ¬ (x2 = ((x0 + x1) / (2 : Nat)))) : ((x0 + x1) / (2 : Nat)) < x2 := (Nat.lt_of_le_of_ne h0 (Ne.symm h1))
theorem om198 {x0 : Nat} {x1 : Nat} {x2 : Nat} (h0 : x0 ≤ x1) (h1 : x2 < x0) : x2 < x1 := (Nat.lt_of_lt_of_le h1 h0)
theorem om199 {x0 : Int} {x1 : Int} {x2 : Int} (h0 : x0 < x1) (h1 : ¬ (x0 < x2)) : ¬ (x1 < x2) := (Int.not_lt.mpr (Int.le_trans (Int.not_lt.mp h1) (Int.le_of_lt h0)))
theorem om200 {x0 : Nat} {x1 : Nat} (h0 : x0 ≤ x1) (h1 : ¬ (x0 < x1)) : x0 = x1 := (Nat.le_antisymm h0 (Nat.not_lt.mp h1))
theorem om201 {x0 : Nat} {x1 : Nat} {x2 : Nat} (h0 : x0 < (min x1 x2)) : x0 < x2 := (Nat.lt_of_lt_of_le h0 (Nat.min_le_right _ _))
theorem om202 {x0 : Nat} {x1 : Nat} {x2 : Nat} (h0 : x0 < (min x1 x2)) : x0 < x1 := (Nat.lt_of_lt_of_le h0 (Nat.min_le_left _ _))
theorem om203 {x0 : Nat} {x1 : Nat} {x2 : Nat} (h0 : x0 < (x1 - x2)) : (x2 + x0) < x1 := (Nat.add_lt_of_lt_sub' h0)
theorem om204 {x0 : Int} {x1 : Int} (h0 : x0 < x1) : ¬ (x1 ≤ x0) := (Int.not_le.mpr h0)
theorem om205 {x0 : Nat} {x1 : Nat} {x2 : Nat} {x3 : Nat} (h0 : x0 = (0 : Nat)) (h1 : x1 ≤ (x2 - x3)) : (x0 + x1) ≤ (x2 - x3) := by simp_all
theorem om206 {x0 : Nat} {x1 : Nat} (h0 : x0 > (0 : Nat)) : x1 < (x1 + x0) := (Nat.lt_add_of_pos_right h0)
theorem om207 {x0 : Nat} {x1 : Nat} {x2 : Nat} {x3 : Nat} : (x0 - x1) ≤ ((x2 + (x0 - x1)) + x3) := (Nat.le_trans (Nat.le_add_left _ _) (Nat.le_add_right _ _))
theorem om208 {x0 : Nat} {x1 : Nat} {x2 : Nat} {x3 : Nat} {x4 : Nat} (h0 : x0 < x1) (h1 : x2 ≤ (x1 - x0)) (h2 : (x3 - x4) ≤ x2) : (x0 + (x3 - x4)) ≤ x1 := Nat.le_trans (Nat.add_le_add_left (Nat.le_trans h2 h1) _) (Nat.le_of_eq (Nat.add_sub_of_le (Nat.le_of_lt h0)))
theorem om209 {x0 : Nat} {x1 : Nat} (h0 : x0 < x1) : x0 ≤ x1 := (Nat.le_of_succ_le h0)
theorem om210 {x0 : Nat} {x1 : Nat} {x2 : Nat} {x3 : Nat} {x4 : Nat} (h0 : x0 = (x1 + x2)) (h1 : (x3 + (x1 - x4)) ≤ x0) : x3 ≤ (x2 + x4) := by omega
theorem om211 {x0 : Nat} {x1 : Nat} {x2 : Nat} {x3 : Nat} (h0 : x0 = (x1 + x2)) (h1 : ¬ (x3 < x1)) : x0 ≤ (x2 + x3) := by subst h0; exact Nat.add_comm x1 x2 ▸ Nat.add_le_add_left (Nat.not_lt.mp h1) x2
theorem om212 {x0 : Nat} {x1 : Nat} {x2 : Int} {x3 : Int} (h0 : x0 ≤ x1) (h1 : x1 < x0) : x2 < x3 := (Nat.lt_irrefl _ (Nat.lt_of_lt_of_le h1 h0)).elim
theorem om213 {x0 : Nat} {x1 : Nat} {x2 : Nat} {x3 : Nat} (h0 : x0 ≤ (x1 + x2)) (h1 : (x1 + x2) < x3) : (x0 - (0 : Nat)) < x3 := (Nat.lt_of_le_of_lt h0 h1)
theorem om214 {x0 : Int} {x1 : Int} (h0 : ¬ (x0 < x1)) (h1 : x0 ≠ x1) : x1 < x0 := by omega
theorem om215 {x0 : Nat} {x1 : Nat} (h0 : ¬ (x0 < x1)) : x1 ≤ x0 := (Nat.le_of_not_lt h0)
theorem om216 {x0 : Nat} {x1 : Nat} : (256 : Int) ≤ (((256 : Int) + (↑x0 : Int)) + (↑x1 : Int)) := (Int.le_trans (Int.le_add_of_nonneg_right (Int.natCast_nonneg _)) (Int.le_add_of_nonneg_right (Int.natCast_nonneg _)))
theorem om217 {x0 : Nat} {x1 : Nat} {x2 : Nat} {x3 : Nat} (h0 : x0 < (x1 / (2 : Nat))) (h1 : (x2 + (x1 / (2 : Nat))) ≤ x3) : (((256 : Int) + (↑x2 : Int)) + (↑x0 : Int)) < ((256 : Int) + (↑x3 : Int)) := Int.lt_of_lt_of_le (Int.add_lt_add_left (Int.ofNat_lt.mpr h0) _) (Int.le_trans (Int.le_of_eq (Int.add_assoc 256 _ _)) (Int.add_le_add_left (Int.ofNat_le.mpr h1) _))
theorem om218 {x0 : Nat} {x1 : Nat} {x2 : Nat} {x3 : Nat} (h0 : x0 = (x1 / (2 : Nat))) (h1 : x2 = ((x1 / (2 : Nat)) + (x1 % (2 : Nat)))) (h2 : x3 = x0) : x2 ≤ (x3 + (1 : Nat)) := by omega
theorem om219 {x0 : Nat} {x1 : Nat} {x2 : Nat} {x3 : Nat} (h0 : x0 < (x1 / (2 : Nat))) (h1 : ((((x2 = ((2 : Nat) * x0)) ∧ (x3 = (((2 : Nat) * x0) + (1 : Nat))))) ∨ (((x2 = (((2 : Nat) * x0) + (1 : Nat))) ∧ (x3 = ((2 : Nat) * x0)))))) : x2 < x1 := h1.elim (fun h => h.1.symm ▸ hb_92 h0) (fun h => h.1.symm ▸ hb_93 h0)
theorem om220 {x0 : Nat} {x1 : Nat} {x2 : Nat} (h0 : ((((x0 = ((2 : Nat) * x1)) ∧ (x2 = (((2 : Nat) * x1) + (1 : Nat))))) ∨ (((x0 = (((2 : Nat) * x1) + (1 : Nat))) ∧ (x2 = ((2 : Nat) * x1)))))) (h1 : x0 = x2) : False := by omega
theorem om221 {x0 : Int} {x1 : Int} (h0 : x0 ≤ x1) (h1 : x0 ≠ x1) : x0 < x1 := (Std.lt_of_le_of_ne h0 h1)
theorem om222 {x0 : Nat} (h0 : x0 ≤ (0 : Nat)) : x0 = (0 : Nat) := (Nat.eq_zero_of_le_zero h0)
theorem om223 {x0 : Nat} (h0 : ((x0 + (1 : Nat)) + (1 : Nat)) < (2 : Nat)) : False := (Nat.lt_irrefl _ (Nat.lt_of_succ_le (Nat.le_trans (Nat.le_of_lt_succ h0) (Nat.le_add_left _ _))))
theorem om224 {x0 : Nat} (h0 : ¬ (x0 < (2 : Nat))) : (2 : Nat) ≤ x0 := (Nat.le_of_not_lt h0)
theorem om225 {x0 : Int} {x1 : Int} (h0 : (0 : Int) ≤ x0) (h1 : (0 : Int) ≤ x1) : (0 : Int) ≤ (x0 + ((2 : Int) * x1)) := Int.add_nonneg h0 (Int.mul_nonneg (by decide) h1)
theorem om226 {x0 : Int} {x1 : Int} (h0 : (0 : Int) ≤ x0) (h1 : x0 ≤ (1 : Int)) : ((x0 + ((2 : Int) * x1)) % ((2 : Int) ^ (1 : Nat))) = x0 := by omega
theorem om227 {x0 : Int} {x1 : Int} {x2 : Int} (h0 : (x0 % ((2 : Int) ^ (1 : Nat))) = x1) : ((x1 + ((2 : Int) * x2)) / ((2 : Int) ^ (1 : Nat))) = x2 := by omega
theorem om228 {x0 : Int} {x1 : Int} (h0 : (x0 % ((2 : Int) ^ (1 : Nat))) = x1) : x1 < (2 : Int) := h0 ▸ Int.emod_lt_of_pos _ (by decide)
theorem om229 {x0 : Nat} {x1 : Nat} (h0 : (0 : Nat) < x0) : (↑(x1 + x0) : Int) ≠ (0 : Int) := (Int.ne_of_gt (Int.ofNat_lt.mpr (Nat.lt_of_lt_of_le h0 (Nat.le_add_left _ _))))
theorem om230 {x0 : Nat} {x1 : Nat} (h0 : (↑(x0 + x1) : Int) ≠ (0 : Int)) : (x0 + x1) ≠ (0 : Nat) := (Int.ofNat_ne_zero.mp h0)
theorem om231 {x0 : Nat} {x1 : Nat} : x0 ≤ (x1 + x0) := (Nat.le_add_left _ _)
theorem om232 {x0 : Nat} {x1 : Nat} (h0 : x0 < x1) : (x0 + x1) < (x1 * (2 : Nat)) := (Nat.mul_two x1).symm ▸ Nat.add_lt_add_right h0 x1
theorem om233 {x0 : Nat} {x1 : Nat} : x0 < (x1 + ((x0 - x1) + (1 : Nat))) := Nat.lt_succ_of_le (Nat.sub_le_iff_le_add'.mp (Nat.le_refl _))
theorem om234 {x0 : Nat} {x1 : Nat} (h0 : ¬ (x0 ≤ x1)) : x1 < x0 := (Nat.lt_of_not_le h0)
theorem om235 {x0 : Nat} : (x0 + (1 : Nat)) = ((1 : Nat) + x0) := (Nat.add_comm x0 1)
theorem om236 {x0 : Nat} {x1 : Nat} (h0 : x0 ≤ x1) : x0 ≤ (x1 + (1 : Nat)) := (Nat.le_add_right_of_le h0)
theorem om237 {x0 : Nat} {x1 : Nat} {x2 : Nat} (h0 : x0 ≤ x1) (h1 : x2 ≤ x0) : (x2 + ((x0 - x2) + (1 : Nat))) ≤ (x1 + (1 : Nat)) := Nat.succ_le_succ (Nat.le_trans (Nat.le_of_eq (Nat.add_sub_of_le h1)) h0)
theorem om238 {x0 : Nat} {x1 : Nat} : ((x0 + (1 : Nat)) + x1) = (x0 + (x1 + (1 : Nat))) := (Nat.succ_add_eq_add_succ x0 x1)
theorem om239 {x0 : Int} {x1 : Int} {x2 : Int} : (x0 + (x1 + x2)) = ((x0 + x1) + x2) := (Eq.symm (Int.add_assoc x0 x1 x2))
theorem om240 {x0 : Int} : (x0 + (0 : Int)) = x0 := (Int.add_zero x0)
theorem om241 {x0 : Int} {x1 : Int} {x2 : Int} : ((x0 + x1) + x2) = ((x0 + x2) + x1) := (Int.add_right_comm x0 x1 x2)
theorem om242 {x0 : Nat} {x1 : Nat} : (x0 + (x1 + (1 : Nat))) = ((x0 + (1 : Nat)) + x1) := (Eq.symm (Nat.succ_add_eq_add_succ x0 x1))
theorem om243 {x0 : Int} {x1 : Int} {x2 : Nat} : (x0 + (x1 + (↑x2 : Int))) = ((x0 + x1) + (↑x2 : Int)) := (Eq.symm (Int.add_assoc x0 x1 ↑x2))
theorem om244 {x0 : Nat} {x1 : Int} : ((↑x0 : Int) + x1) < (((↑x0 : Int) + (1 : Int)) + x1) := (Int.add_lt_add_right (Int.lt_add_one_of_le (Int.le_refl _)) _)
theorem om245 {x0 : Int} {x1 : Int} {x2 : Int} {x3 : Nat} : ((0 : Int) + ((x0 + x1) + (x2 + ((↑x3 : Int) * (1 : Int))))) = (((x0 + x2) + x1) + (↑x3 : Int)) := by omega
theorem om246 {x0 : Nat} {x1 : Nat} {x2 : Nat} {x3 : Nat} {x4 : Int} (h0 : (x0 + x1) = x2) (h1 : x1 < x3) : ((↑x2 : Int) + x4) < ((x4 + (↑x0 : Int)) + (↑x3 : Int)) := by omega
theorem om247 {x0 : Nat} : ((↑x0 : Int) + (0 : Int)) = (↑x0 : Int) := (Int.add_zero ↑x0)
theorem om248 {x0 : Int} (h0 : (0 : Int) ≤ x0) : (0 : Int) ≤ (x0 + (1 : Int)) := (Int.le_add_one h0)
theorem om249 {x0 : Int} {x1 : Int} : ((x0 + (1 : Int)) + x1) = ((x0 + x1) + (1 : Int)) := (Int.add_right_comm x0 1 x1)
theorem om250 {x0 : Int} {x1 : Int} {x2 : Int} (h0 : x0 = (x1 + (1 : Int))) : (x2 + x0) = ((x2 + x1) + (1 : Int)) := by subst h0; exact (Int.add_assoc _ _ _).symm
theorem om251 {x0 : Nat} {x1 : Nat} {x2 : Nat} (h0 : (x0 + (x1 + (1 : Nat))) ≤ x2) : ((x0 + (1 : Nat)) + x1) ≤ x2 := by rw [Nat.add_assoc, Nat.add_comm 1]; exact h0
theorem om252 {x0 : Nat} {x1 : Nat} {x2 : Nat} {x3 : Nat} (h0 : (x0 + (x1 + (1 : Nat))) ≤ x2) (h1 : x3 ≤ x0) : (↑x3 : Int) ≤ (↑x2 : Int) := (Int.ofNat_le.mpr (Nat.le_trans (Nat.le_trans h1 (Nat.le_add_right _ _)) h0))
theorem om253 {x0 : Int} {x1 : Int} {x2 : Int} {x3 : Int} (h0 : (0 : Int) ≤ x0) (h1 : x0 ≤ x1) (h2 : (0 : Int) ≤ x2) (h3 : x2 ≤ x3) : (((0 : Int) ≤ (x2 + x0)) ∧ ((x2 + x0) ≤ (x3 + x1))) := ⟨Int.add_nonneg h2 h0, Int.add_le_add h3 h1⟩
theorem om254 {x0 : Nat} {x1 : Nat} {x2 : Nat} (h0 : (x0 + (x1 + (1 : Nat))) ≤ x2) : x0 < x2 := (Nat.lt_of_add_right_lt h0)
theorem om255 {x0 : Nat} {x1 : Nat} (h0 : x0 < x1) : ((0 : Nat) + (min x0 x1)) = x0 := (Nat.zero_add _).trans (Nat.min_eq_left (Nat.le_of_lt h0))
theorem om256 {x0 : Nat} {x1 : Nat} (h0 : x0 ≤ (12 : Nat)) : (min x1 x0) ≤ (12 : Nat) := (Nat.le_trans (Nat.min_le_right _ _) h0)
theorem om257 {x0 : Nat} {x1 : Nat} {x2 : Nat} (h0 : x0 ≤ x1) (h1 : x2 = x0) (h2 : x1 ≤ (12 : Nat)) : (↑x2 : Int) < (9223372036854775808 : Int) := (Int.ofNat_lt.mpr (Nat.lt_of_le_of_lt (Nat.le_trans (Nat.le_trans (Nat.le_of_eq h1) h0) h2) (by decide)))
theorem om258 {x0 : Nat} {x1 : Nat} (h0 : x0 ≤ x1) : (0 : Int) ≤ (((↑x1 : Int) - (↑x0 : Int)) + (1 : Int)) := Int.add_nonneg (Int.sub_nonneg_of_le (Int.ofNat_le.mpr h0)) (by decide)
theorem om259 {x0 : Nat} {x1 : Nat} {x2 : Nat} (h0 : x0 ≤ x1) (h1 : x1 ≤ (12 : Nat)) : (((↑x0 : Int) - (↑x2 : Int)) + (1 : Int)) ≤ (1000 : Int) := by omega
theorem om260 {x0 : Nat} {x1 : Nat} {x2 : Nat} (h0 : x0 = x1) (h1 : x0 ≤ x2) : (Int.toNat (((↑x2 : Int) - (↑x0 : Int)) + (1 : Int))) = ((x2 - x1) + (1 : Nat)) := by subst h0; exact (congrArg (fun z => Int.toNat (z + 1)) (Int.ofNat_sub h1).symm).trans rfl
theorem om261 {x0 : Nat} {x1 : Nat} {x2 : Nat} (h0 : x0 ≤ x1) (h1 : x2 ≤ x1) (h2 : x1 ≤ (12 : Nat)) : (x2 + ((x0 - x2) + (1 : Nat))) ≤ (1000 : Nat) := by omega
theorem om262 {x0 : Nat} {x1 : Nat} {x2 : Nat} (h0 : x0 = x1) (h1 : x0 ≤ x2) : x1 ≤ x2 := by subst h0; exact h1
theorem om263 {x0 : Nat} {x1 : Nat} {x2 : Nat} (h0 : x0 < x1) (h1 : x2 = x1) : x0 < x2 := (Nat.lt_of_lt_of_le h0 (Nat.le_of_eq h1.symm))
theorem om264 {x0 : Nat} {x1 : Nat} (h0 : x0 < x1) : x1 ≠ x0 := (Nat.ne_of_gt h0)
theorem om265 {x0 : Nat} {x1 : Nat} {x2 : Nat} (h0 : x0 = x1) (h1 : x2 < x0) : ¬ (x1 ≤ x2) := (Nat.not_le.mpr (Nat.lt_of_lt_of_le h1 (Nat.le_of_eq h0)))
theorem om266 {x0 : Nat} {x1 : Nat} {x2 : Nat} (h0 : x0 ≤ (12 : Nat)) (h1 : x1 ≤ x0) (h2 : x2 = x1) : x2 ≤ (16384 : Nat) := (Nat.le_trans (Nat.le_trans (Nat.le_of_eq h2) (Nat.le_trans h1 h0)) (by decide))
theorem om267 {x0 : Nat} {x1 : Nat} (h0 : x0 = x1) : (((↑x0 : Int) ≤ (1 : Int)) ↔ (x1 ≤ (1 : Nat))) := by subst h0; exact Int.ofNat_le
theorem om268 {x0 : Nat} {x1 : Nat} {x2 : Nat} (h0 : x0 ≤ (12 : Nat)) (h1 : x1 ≤ x0) (h2 : x2 = x1) : (↑x2 : Int) < (9223372036854775808 : Int) := (Int.ofNat_lt.mpr (Nat.lt_of_le_of_lt (Nat.le_trans (Nat.le_of_eq h2) (Nat.le_trans h1 h0)) (by decide)))
theorem om269 {x0 : Nat} : (-((2 : Int) ^ (64 : Nat))) < (↑x0 : Int) := (Rat.intCast_lt_intCast.mp rfl)
theorem om270 {x0 : Nat} (h0 : x0 ≤ (1000 : Nat)) : (↑x0 : Int) < ((2 : Int) ^ (64 : Nat)) := (Int.lt_of_le_of_lt (Int.ofNat_le.mpr h0) (by decide))
theorem om271 {x0 : Nat} {x1 : Nat} (h0 : x0 ≤ (12 : Nat)) (h1 : x1 = x0) : (↑x1 : Int) < (9223372036854775808 : Int) := (Int.ofNat_lt.mpr (Nat.lt_of_le_of_lt (Nat.le_trans (Nat.le_of_eq h1) h0) (by decide)))
theorem om272 {x0 : Nat} {x1 : Nat} (h0 : (↑x0 : Int) > ((↑x1 : Int) - (1 : Int))) : (↑x0 : Int) = (max ((↑x1 : Int) - (1 : Int)) (↑x0 : Int)) := (Int.max_eq_right (Int.le_of_lt h0)).symm
theorem om273 {x0 : Nat} {x1 : Nat} (h0 : ¬ ((↑x0 : Int) > ((↑x1 : Int) - (1 : Int)))) : ((↑x1 : Int) - (1 : Int)) = (max ((↑x1 : Int) - (1 : Int)) (↑x0 : Int)) := (Int.max_eq_left (Int.not_lt.mp h0)).symm
theorem om274 {x0 : Nat} : (-((2 : Int) ^ (62 : Nat))) ≤ (↑x0 : Int) := by simp_all
theorem om275 {x0 : Nat} (h0 : x0 ≤ (20 : Nat)) : (↑x0 : Int) < ((2 : Int) ^ (62 : Nat)) := (Int.lt_of_le_of_lt (Int.ofNat_le.mpr h0) (by decide))
theorem om276 {x0 : Nat} {x1 : Nat} (h0 : x0 ≤ (12 : Nat)) (h1 : x1 ≤ x0) : (↑x1 : Int) < ((2 : Int) ^ (62 : Nat)) := (Int.lt_of_le_of_lt (Int.ofNat_le.mpr (Nat.le_trans h1 h0)) (by decide))
theorem om277 {x0 : Nat} {x1 : Nat} (h0 : (↑x0 : Int) < (↑x1 : Int)) : ((↑x1 : Int) - (↑x0 : Int)) = (↑(x1 - x0) : Int) := (Int.ofNat_sub (Nat.le_of_lt (Int.ofNat_lt.mp h0))).symm
theorem om278 {x0 : Nat} {x1 : Nat} (h0 : ¬ ((↑x0 : Int) < (↑x1 : Int))) : (0 : Int) = (↑(x1 - x0) : Int) := by simp_all
theorem om279 {x0 : Nat} {x1 : Nat} : ((0 : Nat) + (min (x0 + (0 : Nat)) x1)) ≤ x0 := Nat.le_trans (Nat.le_of_eq (Nat.zero_add _)) (Nat.min_le_left _ _)
theorem om280 {x0 : Nat} {x1 : Nat} : ((↑x0 : Int) + ((↑x1 : Int) * (1 : Int))) = (↑(x0 + x1) : Int) := by simp
theorem om281 {x0 : Nat} {x1 : Nat} : (-((2 : Int) ^ (63 : Nat))) ≤ (↑(x0 + x1) : Int) := (Int.neg_ofNat_le_natCast (2 ^ 63) (x0 + x1))
theorem om282 {x0 : Nat} {x1 : Nat} {x2 : Nat} {x3 : Nat} (h0 : x0 ≤ (12 : Nat)) (h1 : x1 ≤ x0) (h2 : (x2 + x3) < x1) : (↑(x2 + x3) : Int) < ((2 : Int) ^ (63 : Nat)) := (Int.lt_trans (Int.ofNat_lt.mpr (Nat.lt_of_lt_of_le h2 (Nat.le_trans h1 h0))) (by decide))
theorem om283 {x0 : Nat} {x1 : Nat} : (0 : Int) ≤ (↑(x0 + x1) : Int) := (Int.natCast_nonneg (x0 + x1))
theorem om284 {x0 : Nat} {x1 : Nat} {x2 : Nat} {x3 : Nat} (h0 : x0 = x1) (h1 : (x2 + x3) < x1) : (↑(x2 + x3) : Int) < (↑x0 : Int) := (Int.ofNat_lt.mpr (Nat.lt_of_lt_of_le h1 (Nat.le_of_eq h0.symm)))
theorem om285 {x0 : Nat} {x1 : Nat} {x2 : Nat} {x3 : Nat} {x4 : Nat} (h0 : x0 ≤ (12 : Nat)) (h1 : x1 ≤ x0) (h2 : (x2 + x3) < x1) (h3 : x4 ≤ (x2 + x3)) : x4 ≤ (1000 : Nat) := (Nat.le_trans (Nat.le_trans h3 (Nat.le_trans (Nat.le_of_lt h2) (Nat.le_trans h1 h0))) (by decide))
theorem om286 {x0 : Nat} {x1 : Nat} : x0 ≤ (x1 + (x0 - x1)) := Nat.sub_le_iff_le_add'.mp (Nat.le_refl _)
theorem om287 {x0 : Nat} (h0 : x0 ≤ (20 : Nat)) : x0 ≤ (1000 : Nat) := (Nat.le_trans h0 (by decide))
theorem om288 {x0 : Nat} {x1 : Nat} {x2 : Nat} {x3 : Nat} (h0 : x0 = x1) (h1 : x2 = x3) (h2 : (↑x2 : Int) ≤ (↑x0 : Int)) : ¬ (x1 < x3) := (Nat.not_lt.mpr (Nat.le_trans (Nat.le_trans (Nat.le_of_eq h1.symm) (Int.ofNat_le.mp h2)) (Nat.le_of_eq h0)))
theorem om289 {x0 : Nat} {x1 : Nat} {x2 : Nat} {x3 : Nat} (h0 : x0 = x1) (h1 : x2 = x3) (h2 : ¬ ((↑x2 : Int) ≤ (↑x0 : Int))) : x1 < x3 := by subst h0; subst h1; exact (Int.ofNat_lt.mp (Int.not_le.mp h2))
theorem om290 {x0 : Nat} {x1 : Nat} (h0 : (x0 + x1) < x0) : False := (Nat.lt_irrefl _ (Nat.lt_of_lt_of_le h0 (Nat.le_add_right _ _)))
theorem om291 {x0 : Nat} {x1 : Nat} (h0 : x0 ≤ x1) : (↑x0 : Int) ≤ (↑x1 : Int) := (Int.ofNat_le.mpr h0)
theorem om292 {x0 : Nat} {x1 : Nat} (h0 : x0 ≤ (12 : Nat)) (h1 : x1 ≤ x0) : x1 ≤ (12 : Nat) := (Nat.le_trans h1 h0)
theorem om293 {x0 : Nat} {x1 : Nat} {x2 : Nat} {x3 : Int} (h0 : x0 ≤ (12 : Nat)) (h1 : x1 ≤ x0) (h2 : x2 ≤ x0) (h3 : x3 = (max ((↑x2 : Int) - (1 : Int)) (↑x1 : Int))) : (((0 : Int) ≤ x3) ∧ (x3 ≤ (12 : Int))) := by omega
theorem om294 {x0 : Int} (h0 : (0 : Int) ≤ x0) (h1 : x0 ≤ (12 : Int)) : ((((x0 + (1 : Int)) + (1 : Int)) ≤ (14 : Int)) ∧ ((2 : Int) ≤ ((x0 + (1 : Int)) + (1 : Int)))) := ⟨Int.add_le_add_right (Int.add_le_add_right h1 1) 1, Int.add_le_add_right (Int.add_le_add_right h0 1) 1⟩
theorem om295 {x0 : Int} {x1 : Int} (h0 : x0 ≤ (12 : Int)) (h1 : (0 : Int) ≤ x1) (h2 : ¬ (x1 > x0)) : ((((x0 + (1 : Int)) + (1 : Int)) ≤ (14 : Int)) ∧ ((2 : Int) ≤ ((x0 + (1 : Int)) + (1 : Int)))) := ⟨Int.add_le_add_right (Int.add_le_add_right h0 1) 1, Int.add_le_add_right (Int.add_le_add_right (Int.le_trans h1 (Int.not_lt.mp h2)) 1) 1⟩
theorem om296 : (-((2 : Int) ^ (62 : Nat))) ≤ (2 : Int) := by simp_all
theorem om297 : (2 : Int) < ((2 : Int) ^ (62 : Nat)) := by simp_all
theorem om298 {x0 : Int} (h0 : (2 : Int) ≤ x0) : (-((2 : Int) ^ (62 : Nat))) ≤ x0 := (Int.le_trans (by decide) h0)
theorem om299 {x0 : Int} (h0 : x0 ≤ (14 : Int)) : x0 < ((2 : Int) ^ (62 : Nat)) := (Int.lt_of_le_of_lt h0 (by decide))
theorem om300 {x0 : Int} (h0 : (2 : Int) < x0) : (x0 - (2 : Int)) = (↑(Int.toNat (x0 - (2 : Int))) : Int) := (Int.toNat_of_nonneg (Int.sub_nonneg_of_le (Int.le_of_lt h0))).symm
theorem om301 {x0 : Int} (h0 : ¬ ((2 : Int) < x0)) : (0 : Int) = (↑(Int.toNat (x0 - (2 : Int))) : Int) := (congrArg Nat.cast (Int.toNat_eq_zero.mpr (Int.sub_nonpos_of_le (Int.not_lt.mp h0)))).symm
theorem om302 {x0 : Nat} : ((2 : Int) + ((↑x0 : Int) * (1 : Int))) = (↑((2 : Nat) + x0) : Int) := by simp
theorem om303 {x0 : Nat} : (2 : Nat) ≤ ((2 : Nat) + x0) := (Nat.le_add_right _ _)
theorem om304 {x0 : Int} {x1 : Nat} (h0 : x0 ≤ (14 : Int)) (h1 : x1 < (Int.toNat (x0 - (2 : Int)))) : ((2 : Nat) + x1) ≤ (20 : Nat) := by omega
theorem om305 {x0 : Nat} : (0 : Nat) < ((2 : Nat) + x0) := (Nat.pos_of_neZero (2 + x0))
theorem om306 {x0 : Nat} {x1 : Nat} (h0 : x0 < x1) : x0 ≠ x1 := (Nat.ne_of_lt h0)
theorem om307 {x0 : Nat} (h0 : (162 : Nat) < x0) : x0 ≠ (162 : Nat) := (Nat.ne_of_gt h0)
theorem om308 {x0 : Nat} {x1 : Nat} (h0 : ((x0 + (1 : Nat)) + (1 : Nat)) < x1) : ((x0 + (1 : Nat)) + (1 : Nat)) ≠ x1 := (Nat.ne_of_lt h0)
theorem om309 {x0 : Nat} (h0 : (162 : Nat) < x0) : ((x0 + (1 : Nat)) + (1 : Nat)) ≠ (162 : Nat) := (Nat.ne_of_gt (Nat.lt_trans h0 (Nat.lt_succ_of_le (Nat.le_add_right _ _))))
theorem om310 {x0 : Nat} {x1 : Nat} (h0 : (x0 + (1 : Nat)) < x1) : (x0 + (1 : Nat)) ≠ x1 := (Nat.ne_of_lt h0)
theorem om311 {x0 : Nat} {x1 : Int} (h0 : x0 ≤ (12 : Nat)) : (min (Int.toNat (x1 - (13 : Int))) x0) ≤ (12 : Nat) := (Nat.le_trans (Nat.min_le_right _ _) h0)
theorem om312 {x0 : Int} {x1 : Nat} {x2 : Int} (h0 : (14 : Int) ≤ x0) (h1 : x0 < ((14 : Int) + (↑x1 : Int))) : (((min (Int.toNat (x2 - (13 : Int))) x1) < (min (Int.toNat (x0 - (13 : Int))) x1)) ↔ (x2 < x0)) := by omega
theorem om313 {x0 : Nat} {x1 : Nat} {x2 : Nat} {x3 : Nat} (h0 : x0 ≤ (60 : Nat)) (h1 : x1 = x2) (h2 : x0 = (x2 + (x3 + (1 : Nat)))) : x1 ≤ (60 : Nat) := (Nat.le_trans (Nat.le_trans (Nat.le_of_eq h1) (Nat.le_add_right _ _)) (Nat.le_trans (Nat.le_of_eq h2.symm) h0))
theorem om314 {x0 : Nat} (h0 : x0 ≤ (60 : Nat)) : x0 ≤ (16777216 : Nat) := (Nat.le_trans h0 (by decide))
theorem om315 {x0 : Nat} {x1 : Int} (h0 : x0 ≤ (12 : Nat)) (h1 : x1 < ((14 : Int) + (↑x0 : Int))) : x1 < (256 : Int) := (Int.lt_of_lt_of_le h1 (Int.le_trans (Int.add_le_add_left (Int.ofNat_le.mpr h0) _) (by decide)))
theorem om316 {x0 : Int} (h0 : (14 : Int) ≤ x0) : (0 : Int) ≤ x0 := (Int.le_trans (by decide) h0)
theorem om317 {x0 : Nat} (h0 : x0 ≤ (20 : Nat)) : ((401 : Nat) + ((5 : Nat) * x0)) ≤ (790 : Nat) := (Nat.le_trans (Nat.add_le_add_left (Nat.mul_le_mul_left _ h0) _) (by decide))
theorem om318 {x0 : Nat} (h0 : x0 ≤ (20 : Nat)) : ((4003 : Nat) + ((50 : Nat) * x0)) ≤ (7900 : Nat) := (Nat.le_trans (Nat.add_le_add_left (Nat.mul_le_mul_left _ h0) _) (by decide))
theorem om319 {x0 : Nat} (h0 : (174 : Nat) < x0) : (174 : Nat) ≠ x0 := (Nat.ne_of_lt h0)
theorem om320 {x0 : Nat} (h0 : (174 : Nat) < x0) : x0 ≠ (174 : Nat) := (Nat.ne_of_gt h0)
theorem om321 {x0 : Nat} (h0 : (174 : Nat) < x0) : x0 ≠ (162 : Nat) := (Nat.ne_of_gt (Nat.lt_trans (by decide) h0))
theorem om322 {x0 : Nat} : ¬ (((x0 + (1 : Nat)) + (1 : Nat)) < (x0 + (1 : Nat))) := (Nat.not_succ_lt_self)
theorem om323 {x0 : Nat} : ¬ ((x0 + (1 : Nat)) = ((x0 + (1 : Nat)) + (1 : Nat))) := (Nat.ne_add_one (x0 + 1))
theorem om324 {x0 : Nat} : x0 ≠ ((x0 + (1 : Nat)) + (1 : Nat)) := (Nat.ne_of_lt (Nat.lt_succ_of_le (Nat.le_add_right _ _)))
theorem om325 {x0 : Nat} : x0 ≠ (x0 + (1 : Nat)) := (Nat.ne_add_one x0)
theorem om326 {x0 : Nat} : ((x0 + (1 : Nat)) + (1 : Nat)) ≠ (x0 + (1 : Nat)) := (Nat.ne_of_gt (Nat.lt_succ_self _))
theorem om327 {x0 : Nat} : x0 ≤ ((x0 + (1 : Nat)) + (1 : Nat)) := (Nat.le_of_lt (Nat.lt_succ_of_le (Nat.le_add_right _ _)))
theorem om328 {x0 : Nat} : x0 ≤ (x0 + (1 : Nat)) := (Nat.le_add_right x0 1)
theorem om329 {x0 : Nat} {x1 : Nat} {x2 : Nat} (h0 : x0 ≤ (1000 : Nat)) (h1 : x1 ≤ x2) (h2 : x2 < x0) : x1 ≤ (16777216 : Nat) := (Nat.le_trans (Nat.le_trans (Nat.le_trans h1 (Nat.le_of_lt h2)) h0) (by decide))
theorem om330 {x0 : Nat} {x1 : Nat} (h0 : x0 < x1) : ((x1 + (1 : Nat)) - (x0 + (1 : Nat))) < ((x1 + (1 : Nat)) - x0) := Nat.sub_lt_sub_left (Nat.lt_succ_of_lt h0) (Nat.lt_succ_self x0)
theorem om331 {x0 : Nat} {x1 : Nat} (h0 : x0 ≤ (11 : Nat)) (h1 : x1 = x0) : (↑x1 : Int) < (9223372036854775808 : Int) := (Int.ofNat_lt.mpr (Nat.lt_of_le_of_lt (Nat.le_trans (Nat.le_of_eq h1) h0) (by decide)))
theorem om332 : (-((2 : Int) ^ (62 : Nat))) ≤ (0 : Int) := by simp
theorem om333 : (0 : Int) < ((2 : Int) ^ (62 : Nat)) := by simp_all
theorem om334 {x0 : Nat} (h0 : x0 ≤ (11 : Nat)) : (↑x0 : Int) < ((2 : Int) ^ (62 : Nat)) := (Int.lt_of_le_of_lt (Int.ofNat_le.mpr h0) (by decide))
theorem om335 {x0 : Nat} : ((↑x0 : Int) - (0 : Int)) = (↑x0 : Int) := (Int.sub_zero ↑x0)
theorem om336 {x0 : Nat} (h0 : ¬ ((0 : Int) < (↑x0 : Int))) : (0 : Int) = (↑x0 : Int) := (Int.le_antisymm (Int.natCast_nonneg _) (Int.not_lt.mp h0))
theorem om337 {x0 : Nat} : ((0 : Int) + ((↑x0 : Int) * (1 : Int))) = (↑x0 : Int) := by simp
theorem om338 {x0 : Nat} {x1 : Nat} (h0 : x0 ≤ (11 : Nat)) (h1 : x1 < x0) : (↑x1 : Int) < ((2 : Int) ^ (63 : Nat)) := (Int.lt_trans (Int.ofNat_lt.mpr (Nat.lt_of_lt_of_le h1 h0)) (by decide))
theorem om339 {x0 : Nat} {x1 : Nat} {x2 : Nat} (h0 : x0 ≤ (11 : Nat)) (h1 : x1 < x0) : (min x1 x2) ≤ (11 : Nat) := (Nat.le_trans (Nat.min_le_left _ _) (Nat.le_trans (Nat.le_of_lt h1) h0))
theorem om340 {x0 : Nat} (h0 : x0 ≤ (11 : Nat)) : (x0 + (1 : Nat)) ≤ (16777216 : Nat) := (Nat.succ_le_of_lt (Nat.lt_of_le_of_lt h0 (by decide)))
theorem om341 {x0 : Nat} {x1 : Nat} (h0 : x0 ≤ (11 : Nat)) (h1 : x1 = x0) : x1 ≤ (1000 : Nat) := (Nat.le_trans (Nat.le_trans (Nat.le_of_eq h1) h0) (by decide))
theorem om342 {x0 : Nat} {x1 : Nat} {x2 : Nat} (h0 : x0 = x1) (h1 : x2 < x0) : x2 < x1 := (Nat.lt_of_lt_of_eq h1 h0)
theorem om343 {x0 : Nat} (h0 : x0 ≤ (11 : Nat)) : x0 ≤ (16777216 : Nat) := (Nat.le_trans h0 (by decide))
theorem om344 {x0 : Int} : (Int.toNat ((x0 - (14 : Int)) + (1 : Int))) = (Int.toNat (x0 - (13 : Int))) := congrArg Int.toNat (Int.add_assoc x0 (-14) 1)
theorem om345 {x0 : Int} (h0 : (14 : Int) ≤ x0) : (0 : Int) ≤ ((x0 - (14 : Int)) + (1 : Int)) := Int.add_nonneg (Int.sub_nonneg_of_le h0) (by decide)
theorem om346 {x0 : Int} {x1 : Nat} (h0 : x0 < ((14 : Int) + (↑x1 : Int))) : ((x0 - (14 : Int)) + (1 : Int)) ≤ (↑x1 : Int) := Int.add_one_le_of_lt (Int.sub_left_lt_of_lt_add h0)
theorem om347 {x0 : Nat} {x1 : Int} (h0 : x0 ≤ (11 : Nat)) : (min (Int.toNat (x1 - (13 : Int))) x0) ≤ (12 : Nat) := (Nat.le_trans (Nat.le_trans (Nat.min_le_right _ _) h0) (by decide))
theorem om348 {x0 : Nat} {x1 : Nat} (h0 : x0 < (x1 + (1 : Nat))) (h1 : ¬ (x0 = x1)) : x0 < x1 := (Nat.lt_of_le_of_ne (Nat.le_of_lt_succ h0) h1)
theorem om349 {x0 : Nat} {x1 : Nat} {x2 : Nat} (h0 : x0 < x1) (h1 : x2 < (x0 + (1 : Nat))) : x2 < x1 := (Nat.lt_of_lt_of_le h1 h0)
theorem om350 {x0 : Nat} {x1 : Nat} (h0 : x0 ≤ (11 : Nat)) : (min x0 x1) ≤ (16777216 : Nat) := (Nat.le_trans (Nat.le_trans (Nat.min_le_left _ _) h0) (by decide))
theorem om351 {x0 : Nat} (h0 : x0 ≤ (11 : Nat)) : (min x0 (11 : Nat)) = (x0 - (0 : Nat)) := (Nat.min_eq_left h0)
theorem om352 {x0 : Nat} {x1 : Nat} {x2 : Nat} {x3 : Nat} (h0 : x0 ≤ (11 : Nat)) (h1 : x1 = (x0 - x2)) (h2 : x3 = x1) : (↑x3 : Int) < (9223372036854775808 : Int) := (Int.ofNat_lt.mpr (Nat.lt_of_le_of_lt (Nat.le_trans (Nat.le_trans (Nat.le_of_eq h2) (Nat.le_of_eq h1)) (Nat.le_trans (Nat.sub_le _ _) h0)) (by decide)))
theorem om353 {x0 : Nat} {x1 : Nat} (h0 : x0 < x1) : (↑(x1 - x0) : Int) ≠ (0 : Int) := fun h => Nat.sub_ne_zero_of_lt h0 (Int.ofNat.inj h)
theorem om354 {x0 : Nat} {x1 : Nat} (h0 : x0 < x1) : (0 : Int) < (↑(x1 - x0) : Int) := Int.ofNat_lt.mpr (Nat.sub_pos_of_lt h0)
theorem om355 {x0 : Nat} {x1 : Nat} {x2 : Nat} {x3 : Nat} (h0 : x0 = (x1 - x2)) (h1 : (↑x3 : Int) < (↑(x1 - x2) : Int)) : x3 < x0 := by subst h0; exact (Int.ofNat_lt.mp h1)
theorem om356 {x0 : Nat} {x1 : Nat} {x2 : Nat} (h0 : x0 ≤ (11 : Nat)) (h1 : (↑x1 : Int) < (↑(x0 - x2) : Int)) : (↑x1 : Int) < (9223372036854775808 : Int) := (Int.lt_of_lt_of_le h1 (Int.ofNat_le.mpr (Nat.le_trans (Nat.le_trans (Nat.sub_le _ _) h0) (by decide))))
theorem om357 {x0 : Nat} {x1 : Nat} (h0 : x0 ≠ x1) : x1 ≠ x0 := h0.symm
theorem om358 {x0 : Nat} {x1 : Nat} {x2 : Nat} {x3 : Nat} (h0 : x0 ≤ (11 : Nat)) (h1 : x1 = (x0 - x2)) (h2 : x3 = x1) : x3 ≤ (16777216 : Nat) := (Nat.le_trans (Nat.le_trans (Nat.le_trans (Nat.le_of_eq h2) (Nat.le_of_eq h1)) (Nat.le_trans (Nat.sub_le _ _) h0)) (by decide))
theorem om359 {x0 : Nat} {x1 : Nat} {x2 : Nat} {x3 : Nat} (h0 : x0 ≤ (11 : Nat)) (h1 : (x1 + x2) = (min x0 x3)) (h2 : x3 = (11 : Nat)) : (x1 + x2) = x0 := by simp_all
theorem om360 {x0 : Nat} {x1 : Nat} {x2 : Nat} {x3 : Nat} (h0 : x0 ≤ (11 : Nat)) (h1 : (x1 + x2) = x0) (h2 : x3 = x1) : x3 ≤ (16777216 : Nat) := (Nat.le_trans (Nat.le_trans (Nat.le_trans (Nat.le_of_eq h2) (Nat.le_add_right _ _)) (Nat.le_trans (Nat.le_of_eq h1) h0)) (by decide))
theorem om361 {x0 : Nat} {x1 : Nat} {x2 : Nat} {x3 : Nat} (h0 : x0 = (x1 - x2)) (h1 : x3 < x0) : ((min x3 x0) + (x0 - (x3 + (1 : Nat)))) = (x1 - (x2 + (1 : Nat))) := by subst h0; rw [Nat.min_eq_left (Nat.le_of_lt h1)]; exact hb_pre h1
theorem om362 {x0 : Nat} {x1 : Nat} (h0 : x0 = (x1 - x1)) : x0 = (0 : Nat) := by simp_all
theorem om363 {x0 : Int} {x1 : Nat} (h0 : (0 : Int) ≤ x0) : (5 : Nat) ≤ (min (Int.toNat ((5 : Int) + x0)) (x1 + (11 : Nat))) := by omega
theorem om364 {x0 : Int} {x1 : Nat} (h0 : x0 < (7 : Int)) : (min (Int.toNat ((5 : Int) + x0)) (x1 + (11 : Nat))) ≤ (11 : Nat) := Nat.le_trans (Nat.min_le_left _ _) (Int.toNat_le.mpr (Int.le_of_lt_add_one (Int.add_lt_add_left h0 5)))
theorem om365 {x0 : Nat} {x1 : Nat} (h0 : ((14 : Int) + (↑x0 : Int)) = ((14 : Int) + (↑x1 : Int))) : x0 = x1 := Int.ofNat.inj (Int.add_left_cancel h0)
theorem om366 {x0 : Nat} {x1 : Nat} (h0 : x0 < x1) : (((14 : Int) ≤ ((14 : Int) + (↑x0 : Int))) ∧ (((14 : Int) + (↑x0 : Int)) < ((14 : Int) + (↑x1 : Int)))) := ⟨(Int.le_add_of_nonneg_right (Int.natCast_nonneg _)), (Int.add_lt_add_left (Int.ofNat_lt.mpr h0) _)⟩
theorem om367 {x0 : Nat} {x1 : Int} (h0 : x0 ≤ (11 : Nat)) (h1 : x1 < ((14 : Int) + (↑x0 : Int))) : x1 < (256 : Int) := (Int.lt_of_lt_of_le h1 (Int.le_trans (Int.add_le_add_left (Int.ofNat_le.mpr h0) _) (by decide)))
theorem om368 {x0 : Nat} {x1 : Nat} (h0 : x0 = (x1 + (1 : Nat))) : (1 : Int) ≤ (↑x0 : Int) := (Int.ofNat_le.mpr (Nat.le_trans (Nat.le_add_left _ _) (Nat.le_of_eq h0.symm)))
theorem om369 {x0 : Nat} {x1 : Nat} (h0 : x0 = (x1 + (1 : Nat))) : (Int.toNat ((-(1 : Int)) + (↑x0 : Int))) = x1 := by subst h0; exact (congrArg Int.toNat (Int.add_comm _ _)).trans (Int.toNat_sub (x1 + 1) 1)
theorem om370 {x0 : Nat} (h0 : ¬ ((↑(63 : Nat) : Int) < (↑x0 : Int))) : x0 ≤ (63 : Nat) := (Int.ofNat_le.mp (Int.not_lt.mp h0))
theorem om371 {x0 : Nat} {x1 : Nat} (h0 : x0 ≤ (11 : Nat)) (h1 : x1 = x0) : x1 ≤ (11 : Nat) := (le_of_eq_of_le h1 h0)
theorem om372 {x0 : Nat} {x1 : Nat} (h0 : x0 ≤ (11 : Nat)) (h1 : x1 = x0) : x1 ≤ (20 : Nat) := (Nat.le_trans (Nat.le_trans (Nat.le_of_eq h1) h0) (by decide))
theorem om373 {x0 : Nat} {x1 : Nat} (h0 : (5 : Nat) ≤ x0) (h1 : x1 = x0) : (5 : Nat) ≤ x1 := by subst h1; exact h0
theorem om374 {x0 : Nat} {x1 : Nat} (h0 : x0 ≤ (11 : Nat)) (h1 : x1 = x0) : x1 ≤ (12 : Nat) := (Nat.le_trans (Nat.le_trans (Nat.le_of_eq h1) h0) (by decide))
theorem om375 : (20 : Nat) ≤ (20 : Nat) := (Nat.le_refl _)
theorem om376 : (1 : Nat) ≤ (20 : Nat) := (Nat.le_of_ble_eq_true rfl)
theorem om377 {x0 : Nat} {x1 : Nat} (h0 : x0 ≤ (26 : Nat)) (h1 : x1 ≤ x0) : x1 ≤ (60 : Nat) := (Nat.le_trans (Nat.le_trans h1 h0) (by decide))
theorem om378 {x0 : Nat} {x1 : Nat} {x2 : Nat} (h0 : x0 ≤ (11 : Nat)) (h1 : x1 = x0) (h2 : x2 = x1) : (↑x2 : Int) < (9223372036854775808 : Int) := (Int.ofNat_lt.mpr (Nat.lt_of_le_of_lt (Nat.le_trans (Nat.le_of_eq h2) (Nat.le_trans (Nat.le_of_eq h1) h0)) (by decide)))
theorem om379 {x0 : Nat} {x1 : Nat} {x2 : Nat} (h0 : x0 = x1) (h1 : x2 = x0) : (↑x2 : Int) = (↑x1 : Int) := (Nat.ToInt.of_eq rfl (congrArg NatCast.natCast h0) h1)
theorem om380 {x0 : Nat} : (-((2 : Int) ^ (62 : Nat))) ≤ ((↑x0 : Int) + (1 : Int)) := (Int.neg_ofNat_le_ofNat (2 ^ 62) (x0 + 1))
theorem om381 {x0 : Nat} (h0 : x0 ≤ (11 : Nat)) : ((↑x0 : Int) + (1 : Int)) < ((2 : Int) ^ (62 : Nat)) := by omega
theorem om382 {x0 : Nat} (h0 : (2 : Int) < ((↑x0 : Int) + (1 : Int))) : (((↑x0 : Int) + (1 : Int)) - (2 : Int)) = (↑(x0 - (1 : Nat)) : Int) := by omega
theorem om383 {x0 : Nat} (h0 : ¬ ((2 : Int) < ((↑x0 : Int) + (1 : Int)))) : (0 : Int) = (↑(x0 - (1 : Nat)) : Int) := (Int.le_antisymm (Int.natCast_nonneg _) (Int.ofNat_le.mpr (Nat.le_trans (Nat.sub_le_sub_right (Nat.le_of_lt_succ (Int.ofNat_lt.mp (Int.lt_of_add_one_le (Int.not_lt.mp h0)))) _) (by decide))))
theorem om384 {x0 : Nat} : ((2 : Int) + ((↑x0 : Int) * (1 : Int))) = (↑(x0 + (2 : Nat)) : Int) := (congrArg (fun z => (2 : Int) + z) (Int.mul_one _)).trans (Int.add_comm _ _)
theorem om385 {x0 : Nat} {x1 : Nat} (h0 : x0 ≤ (11 : Nat)) (h1 : x1 < (x0 - (1 : Nat))) : x1 < (1000 : Nat) := (Nat.lt_of_lt_of_le h1 (Nat.le_trans (Nat.le_trans (Nat.sub_le _ _) h0) (by decide)))
theorem om386 {x0 : Nat} {x1 : Nat} (h0 : x0 ≤ (11 : Nat)) (h1 : x1 < (x0 - (1 : Nat))) : (x1 + (2 : Nat)) ≤ (1000 : Nat) := (Nat.le_trans (Nat.add_le_add_right (Nat.le_trans (Nat.le_of_lt h1) (Nat.le_trans (Nat.sub_le _ _) h0)) _) (by decide))
theorem om387 {x0 : Nat} {x1 : Nat} {x2 : Nat} (h0 : x0 ≤ (11 : Nat)) (h1 : x1 < (x0 - (1 : Nat))) (h2 : x2 = (x1 + (1 : Nat))) : x2 ≤ (16777216 : Nat) := (Nat.le_trans (Nat.le_of_eq h2) (Nat.le_trans (Nat.succ_le_of_lt h1) (Nat.le_trans (Nat.le_trans (Nat.sub_le _ _) h0) (by decide))))
theorem om388 {x0 : Nat} (h0 : (5 : Nat) ≤ x0) : ((x0 - (1 : Nat)) + (1 : Nat)) = x0 := Nat.sub_add_cancel (Nat.le_trans (by decide) h0)
theorem om389 {x0 : Nat} (h0 : ((x0 - (1 : Nat)) + (1 : Nat)) = x0) : x0 = ((x0 - (1 : Nat)) + (1 : Nat)) := h0.symm
theorem om390 {x0 : Nat} {x1 : Nat} {x2 : Nat} (h0 : x0 ≤ (26 : Nat)) (h1 : x1 ≤ x0) (h2 : x2 = x1) : (↑x2 : Int) < (9223372036854775808 : Int) := (Int.ofNat_lt.mpr (Nat.lt_of_le_of_lt (Nat.le_trans (Nat.le_of_eq h2) (Nat.le_trans h1 h0)) (by decide)))
theorem om391 {x0 : Nat} (h0 : ((x0 - (1 : Nat)) + (1 : Nat)) = x0) : (x0 - (1 : Nat)) < x0 := (Nat.lt_of_succ_le (Nat.le_of_eq h0))
theorem om392 {x0 : Nat} (h0 : x0 ≤ (11 : Nat)) : (x0 - (1 : Nat)) < (1000 : Nat) := (Nat.lt_of_le_of_lt (Nat.le_trans (Nat.sub_le _ _) h0) (by decide))
theorem om393 {x0 : Nat} (h0 : x0 ≤ (26 : Nat)) : x0 ≤ (60 : Nat) := (Nat.le_trans h0 (by decide))
theorem om394 {x0 : Nat} {x1 : Nat} (h0 : x0 ≤ (26 : Nat)) (h1 : x1 = x0) : (↑x1 : Int) < (9223372036854775808 : Int) := (Int.ofNat_lt.mpr (Nat.lt_of_le_of_lt (Nat.le_trans (Nat.le_of_eq h1) h0) (by decide)))
theorem om395 {x0 : Nat} {x1 : Nat} (h0 : x0 ≤ x1) : ¬ ((↑x1 : Int) < (↑x0 : Int)) := (Int.not_lt.mpr (Int.ofNat_le.mpr h0))
theorem om396 {x0 : Nat} {x1 : Nat} (h0 : x0 ≤ (11 : Nat)) (h1 : x1 = x0) : x1 < (64 : Nat) := (Nat.lt_of_le_of_lt (Nat.le_trans (Nat.le_of_eq h1) h0) (by decide))
theorem om397 {x0 : Nat} {x1 : Nat} (h0 : x0 ≤ (26 : Nat)) (h1 : ¬ ((↑x0 : Int) < (↑x1 : Int))) : x1 ≤ (999 : Nat) := (Nat.le_trans (Nat.le_trans (Int.ofNat_le.mp (Int.not_lt.mp h1)) h0) (by decide))
theorem om398 {x0 : Nat} {x1 : Nat} (h0 : x0 = (x1 + (1 : Nat))) : (0 : Nat) < x0 := (Nat.lt_of_sub_eq_succ h0)
theorem om399 {x0 : Nat} {x1 : Nat} {x2 : Nat} (h0 : x0 ≤ (26 : Nat)) (h1 : ¬ ((↑x0 : Int) < (↑x1 : Int))) (h2 : x2 = (x1 + (1 : Nat))) : x2 ≤ (60 : Nat) := (Nat.le_trans (Nat.le_of_eq h2) (Nat.succ_le_of_lt (Nat.lt_of_le_of_lt (Nat.le_trans (Int.ofNat_le.mp (Int.not_lt.mp h1)) h0) (by decide))))
theorem om400 {x0 : Nat} {x1 : Nat} (h0 : x0 ≤ (26 : Nat)) (h1 : ¬ ((↑x0 : Int) < (↑x1 : Int))) : (x1 + (1 : Nat)) ≤ (60 : Nat) := (Nat.succ_le_of_lt (Nat.lt_of_le_of_lt (Nat.le_trans (Int.ofNat_le.mp (Int.not_lt.mp h1)) h0) (by decide)))
end Mine

-- Base
open PySem PySem.W PyProof.Rows
set_option Elab.async false
set_option maxRecDepth 100000
set_option maxHeartbeats 8000000
namespace Mine
open PySem.Calls PySem.Spec

abbrev PP : Program := PySem.Challenge.rw_sn0068_01.row.prog

def Keeps (fp : List Addr) (h h' : Heap) : Prop := ∀ b o, h.get? b = some o → b ∉ fp → h'.get? b = some o

def Fin (g : Heap) (s : Shared) (P : Value → Heap → Prop) (v : Value) (s' : Shared) : Prop :=
  ∃ h' tk, s' = { s with heap := h', toks := tk } ∧ (∃ L m, Fr g L h' m) ∧ P v h'

theorem Fin.mk' {g : Heap} {s : Shared} {P : Value → Heap → Prop} {v : Value} {h' : Heap} {tk L : Nat} {m} (F : Fr g L h' m) (hp : P v h') : Fin g s P v { s with heap := h', toks := tk } :=
  ⟨h', tk, rfl, ⟨L, m, F⟩, hp⟩

abbrev AT (D U : Nat) (gd : Option (List Code)) (env : Env) (outer : List Env) : Around := { handled := none, depth := D, frames := some (env :: outer), guards := gd, units := U }

def Con (w : World) (dmax umax : Nat) (f : Value) (vs : List Value) (kw : List (Str × Value)) (fp : List Addr) (Pre : Heap → Prop) (Post : Heap → Value → Heap → Prop) : Prop :=
  ∀ (p : Program) (loose : List Str) (mean : ExcName → Option Value) (mg mb : Str → Option Value)
    (A : Around) (env : Env) (outer : List Env) (A₀ : Around) (base h₀ : Heap) (L : Addr) (m : Str → Option Value) (s : Shared) (Q : Value → Shared → Prop) (E : Value → Shared → Prop),
    Below A₀ base outer h₀ → Fr h₀ L s.heap m → (Mine.hd.heap_39 w.params).In h₀ → Top p loose mean mg mb h₀ →
    A.frames = some (env :: outer) → env.frame = some L → env.scope.kind = .function → A.handled = none →
    A.depth ≤ dmax → A.units ≤ umax → (∀ b ∈ fp, b ≠ L ∧ h₀.get? b = none) → Pre s.heap →
    (∀ r h' tk', Keeps fp s.heap h' → Post s.heap r h' → Q r { s with heap := h', toks := tk' }) →
    wpAny (model PP w) A (call f vs kw) Q E s

theorem wpAny_le {α : Type} {M : Model} {A A' : Around} {t : Sem α} {Q : α → Shared → Prop} {E : Value → Shared → Prop} {s : Shared}
    (hh : A'.handled = A.handled) (hd : A.depth ≤ A'.depth) (hf : A'.frames = A.frames) (hg : A'.guards = A.guards) (hu : A.units ≤ A'.units)
    (h : wpAny M A' t Q E s) : wpAny M A t Q E s :=
  fun Γ p hΓ => h Γ p ⟨hΓ.1.trans hh.symm, Nat.le_trans hΓ.2.1 hd, fun l hl => hΓ.2.2.1 l (hf ▸ hl), fun g hl => hΓ.2.2.2.1 g (hg ▸ hl), Nat.le_trans hΓ.2.2.2.2 hu⟩

theorem Con.of {w : World} {dmax umax : Nat} {f : Value} {vs : List Value} {kw : List (Str × Value)} {fp : List Addr} {Pre : Heap → Prop} {Post : Heap → Value → Heap → Prop}
    (h : ∀ (p : Program) (loose : List Str) (mean : ExcName → Option Value) (mg mb : Str → Option Value) (gd : Option (List Code)) (env : Env) (outer : List Env) (A₀ : Around) (base h₀ : Heap) (L : Addr) (m : Str → Option Value) (s : Shared) (Q : Value → Shared → Prop),
      Below A₀ base outer h₀ → Fr h₀ L s.heap m → (Mine.hd.heap_39 w.params).In h₀ → Top p loose mean mg mb h₀ →
      env.frame = some L → env.scope.kind = .function → (∀ b ∈ fp, b ≠ L ∧ h₀.get? b = none) → Pre s.heap →
      (∀ r h' tk', Keeps fp s.heap h' → Post s.heap r h' → Q r { s with heap := h', toks := tk' }) →
      wpAny (model PP w) (AT dmax umax gd env outer) (call f vs kw) Q (fun _ _ => False) s) : Con w dmax umax f vs kw fp Pre Post := by
  intro p loose mean mg mb A env outer A₀ base h₀ L m s Q E B F X T hA hf hk hh hd hu hfp hpre hret
  refine wpAny_le (A' := AT dmax umax A.guards env outer) hh.symm hd hA.symm rfl hu ?_
  exact wpAny_mono (h p loose mean mg mb A.guards env outer A₀ base h₀ L m s Q B F X T hf hk hfp hpre hret) (fun _ _ q => q) fun _ _ q => q.elim

/-- the ground of a callee: all of the heap but the footprint -/
theorem ground {A A₀ : Around} {base h₀ : Heap} {env : Env} {outer : List Env} {s : Shared} {L : Addr} {m : Str → Option Value} {fp : List Addr}
    (B : Below A₀ base outer h₀) (F : Fr h₀ L s.heap m) (hfp : ∀ b ∈ fp, b ≠ L ∧ h₀.get? b = none) (hA : A.frames = some (env :: outer)) (hf : env.frame = some L) (hke : env.scope.kind = .function) :
    Fr h₀ L (hideAll s.heap fp) m ∧ Below A base (env :: outer) (hideAll s.heap fp) ∧ h₀.StaysIn (hideAll s.heap fp) := by
  have nm : ∀ b o, h₀.get? b = some o → b ∉ fp := fun b o e q => by rw [(hfp b q).2] at e; cases e
  have st : h₀.StaysIn (hideAll s.heap fp) := fun b o e => hideAll_get _ (F.keep b o e) (nm b o e)
  (refine Mine.el_E3ALALALL (F.ns) ?_; intro oL es ep hL hLd hLk hLf)
  have nL : L ∉ fp := fun q => (hfp L q).1 rfl
  have hLg := hideAll_get fp hL nL
  have B₁ := pushX B F hf hke
  refine ⟨⟨⟨oL, es, ep, hLg, hLd, hLk, hLf⟩, st, F.above⟩, ⟨hA, fun b o e => st b o (B.stays b o e), funFrames_hideAll B₁.frames fun env' he b hb hf' => ?_⟩, st⟩
  cases he with
  | head => exact nL ((Option.some.inj (hf.symm.trans hf') : L = b) ▸ hb)
  | tail _ he =>
    (refine Mine.el_E2ALL (funFrames_in B.frames env' he) ?_; intro L₁ o₁ hf₁ ho₁)
    rw [hf₁] at hf'
    exact nm L₁ o₁ ho₁ ((Option.some.inj hf' : L₁ = b) ▸ hb)

/-- what a callee knows at its start -/
structure Enter (w : World) (fp : List Addr) (s : Shared) (g : Heap) (L' : Addr) (h₁ : Heap) : Prop where
  inn : ∀ b o, s.heap.get? b = some o → b ∉ fp → g.get? b = some o
  out : ∀ b o, g.get? b = some o → s.heap.get? b = some o ∧ b ∉ fp
  led : ∀ b o, s.heap.get? b = some o → b ∈ fp → h₁.get? b = some o ∧ b ≠ L' ∧ g.get? b = none
  now : L' = s.heap.objs.size
  X : (Mine.hd.heap_39 w.params).In g

theorem Enter.of {w : World} {fp : List Addr} {s : Shared} {h₁ : Heap} (hk : ∀ b o, s.heap.get? b = some o → h₁.get? b = some o) (X : (Mine.hd.heap_39 w.params).In (hideAll s.heap fp)) :
    Enter w fp s (hideAll s.heap fp) s.heap.objs.size h₁ where
  inn := fun b o e n => hideAll_get _ e n
  out := fun b o e => ⟨of_hideAll _ e, fun q => by rw [hideAll_none _ q] at e; cases e⟩
  led := fun b o e q => ⟨hk _ _ e, Nat.ne_of_lt (Heap.lt_size e), hideAll_none _ q⟩
  now := rfl
  X := X

theorem Fin.done {w : World} {fp : List Addr} {s : Shared} {g : Heap} {L' : Addr} {h₁ : Heap} {Post : Value → Heap → Prop} {Q : Value → Shared → Prop} (En : Enter w fp s g L' h₁)
    (hret : ∀ r h' tk', Keeps fp s.heap h' → Post r h' → Q r { s with heap := h', toks := tk' }) {tk₁ : Nat} {v : Value} {s' : Shared}
    (h : Fin g { s with heap := h₁, toks := tk₁ } Post v s') : Q v s' := by
  (refine Mine.el_E2ALAE2LL (h) ?_; intro h' tk rf2 L m F hp; subst rf2; try clear h)
  exact hret v h' tk (fun b o e n => F.keep b o (En.inn b o e n)) hp

section
variable {w : World} {dmax umax : Nat} {fp : List Addr} {Pre : Heap → Prop} {Post : Heap → Value → Heap → Prop} {name qual : Str} {params : Arguments} {body : List Stmt} {scope : Scope} {cl : List (Str × Addr)} {dV kV doc pm cdv ct oc : Value} {an od : Option Addr} {osl : Array (Option Value)} {f : Addr} {vs : List Value} {kw : List (Str × Value)} {binds : List (Str × Value)}

/-- a def that stands on the heap, no cell of its own -/
theorem Con.fn (hfn : ∀ h, Pre h → ∃ fo, h.get? f = some fo ∧ fo.data = .func (fnX name qual params body scope cl dV kV doc pm an cdv ct) ∧ h.CodeRec cdv qual)
    (hroom : dmax < recursionLimit)
    (hbind : ∀ s : Shared, (Mine.hd.heap_39 w.params).In s.heap → BindsTo s (fnX name qual params body scope cl dV kV doc pm an cdv ct) ⟨vs, kw⟩ binds) (hloc : ∀ y ∈ binds, scope.names.lookup y.1 = some .local)
    (hcell : ∀ x ∈ scope.names, x.2 ≠ .cell) (hco : scope.isCoroutine = false) (hgen : scope.isGenerator = false) (hk : scope.kind = .function)
    (hb : ∀ (p : Program) (loose : List Str) (mean : ExcName → Option Value) (mg mb : Str → Option Value) (gd : Option (List Code)) (env : Env) (outer : List Env) (base g : Heap) (L' : Addr) (h₁ : Heap) (s : Shared) (tk₁ : Nat),
      Pre s.heap → Enter w fp s g L' h₁ → Fr g L' h₁ (fun y => binds.reverse.lookup y) → Below (AT dmax umax gd env outer) base (env :: outer) g → (Mine.hd.heap_39 w.params).In g → Top p loose mean mg mb g →
      wpAny (model PP w) ((AT dmax umax gd env outer).deeper (envX qual scope L' f cdv cl)) (execs body (envX qual scope L' f cdv cl))
        (fun fl s' => Fin g { s with heap := h₁, toks := tk₁ } (Post s.heap) (match fl with | .ret v => v | _ => .none) s') (fun _ _ => False)
        { s with heap := h₁, toks := tk₁ }) : Con w dmax umax (.ref f) vs kw fp Pre Post := by
  refine Con.of fun p loose mean mg mb gd env outer A₀ base h₀ L m s Q B F X T hf hke hfp hpre hret => ?_
  (refine Mine.el_ALALL (ground (A := AT dmax umax gd env outer) B F hfp rfl hf hke) ?_; intro FG BG st)
  (refine Mine.el_EALALL (hfn _ hpre) ?_; intro fo ho hd hcd)
  refine wpAny_call ?_
  refine codeAny_call_def (fd := fnX name qual params body scope cl dV kV doc pm an cdv ct) (body := body) (binds := binds) hroom ho hd (T.nolimit.keeps F.keep) hcd rfl (hbind s (X.keeps F.keep)) hcell hloc (fun h₁ hns hk₁ => ?_) hco hgen hk
  have En : Enter w fp s (hideAll s.heap fp) s.heap.objs.size h₁ := Enter.of hk₁ (X.keeps st)
  have := hb p loose mean mg mb gd env outer base (hideAll s.heap fp) s.heap.objs.size h₁ s (s.toks + binds.length) hpre En ⟨hns, fun b o e => hk₁ b o (of_hideAll _ e), Nat.le_of_eq (hideAll_size _ _)⟩ BG (X.keeps st) (T.keeps st)
  exact wpAny_mono this (fun fl s' hl => hl.done En hret) fun _ _ q => q.elim
end

section
variable {w : World} {dmax umax : Nat} {fp : List Addr} {Pre : Heap → Prop} {Post : Heap → Value → Heap → Prop} {name qual : Str} {params : Arguments} {body : List Stmt} {scope : Scope} {dV kV doc pm cdv ct oc : Value} {an od : Option Addr} {osl : Array (Option Value)} {f : Addr} {vs : List Value} {kw : List (Str × Value)} {binds : List (Str × Value)}

/-- a def of the text, no cell of its own -/
theorem Con.fnK (ho : (Mine.hd.heap_39 w.params).lookup f = some ⟨oc, od, .func (fnOf name qual params body scope dV kV doc pm an cdv ct), osl⟩) (hcd : codeIn (Mine.hd.heap_39 w.params) cdv qual = true)
    (hroom : dmax < recursionLimit)
    (hbind : ∀ s : Shared, (Mine.hd.heap_39 w.params).In s.heap → BindsTo s (fnOf name qual params body scope dV kV doc pm an cdv ct) ⟨vs, kw⟩ binds) (hloc : (binds.all fun x => decide (scope.names.lookup x.1 = some .local)) = true)
    (hcell : ∀ x ∈ scope.names, x.2 ≠ .cell) (hco : scope.isCoroutine = false) (hgen : scope.isGenerator = false) (hk : scope.kind = .function)
    (hb : ∀ (p : Program) (loose : List Str) (mean : ExcName → Option Value) (mg mb : Str → Option Value) (gd : Option (List Code)) (env : Env) (outer : List Env) (base g : Heap) (L' : Addr) (h₁ : Heap) (s : Shared) (tk₁ : Nat),
      Pre s.heap → Enter w fp s g L' h₁ → Fr g L' h₁ (fun y => binds.reverse.lookup y) → Below (AT dmax umax gd env outer) base (env :: outer) g → (Mine.hd.heap_39 w.params).In g → Top p loose mean mg mb g →
      wpAny (model PySem.Challenge.rw_sn0068_01.row.prog w) ((AT dmax umax gd env outer).deeper (envOf qual scope L' f cdv)) (execs body (envOf qual scope L' f cdv))
        (fun fl s' => Fin g { s with heap := h₁, toks := tk₁ } (Post s.heap) (match fl with | .ret v => v | _ => .none) s') (fun _ _ => False)
        { s with heap := h₁, toks := tk₁ }) : Con w dmax umax (.ref f) vs kw fp Pre Post := by
  refine Con.of fun p loose mean mg mb gd env outer A₀ base h₀ L m s Q B F X T hf hke hfp hpre hret => ?_
  (refine Mine.el_ALALL (ground (A := AT dmax umax gd env outer) B F hfp rfl hf hke) ?_; intro FG BG st)
  refine wpAny_call ?_
  refine codeAny_call_def (fd := fnOf name qual params body scope dV kV doc pm an cdv ct) (body := body) (binds := binds) hroom ((X.keeps F.keep) _ _ ho) rfl (T.nolimit.keeps F.keep) (codeRec_of (X.keeps F.keep) hcd) rfl (hbind s (X.keeps F.keep)) hcell (locs hloc) (fun h₁ hns hk₁ => ?_) hco hgen hk
  have En : Enter w fp s (hideAll s.heap fp) s.heap.objs.size h₁ := Enter.of hk₁ (X.keeps st)
  have := hb p loose mean mg mb gd env outer base (hideAll s.heap fp) s.heap.objs.size h₁ s (s.toks + binds.length) hpre En ⟨hns, fun b o e => hk₁ b o (of_hideAll _ e), Nat.le_of_eq (hideAll_size _ _)⟩ BG (X.keeps st) (T.keeps st)
  exact wpAny_mono this (fun fl s' hl => hl.done En hret) fun _ _ q => q.elim
end

end Mine

namespace Mine
open PySem.Calls PySem.Spec
abbrev tupO (vs : List Value) (n : Nat) : Obj := { cls := .type "tuple", data := .seq vs.toArray n }
abbrev lstO (vs : List Value) (n : Nat) : Obj := { cls := .type "list", data := .seq vs.toArray n }

section
variable {prog : Program} {w : World} {A : Around} {E : Value → Shared → Prop} {s : Shared} {h₀ : Heap} {L q : Addr} {m : Str → Option Value} {vs : List Value} {n : Nat} {v : Value} {k : Int} {u : Tok} {Q : Value → Shared → Prop} {value slice : PySem.Expr}
/-- an item of a list that stands on the ground -/
theorem sub_list_g (F : Fr h₀ L s.heap m) (hl : h₀.get? q = some (lstO vs n)) (h0 : 0 ≤ k) (hhi : k < 2 ^ 63) (hx : vs[k.toNat]? = some v) (h : Q v s)
    (hs : subscripted slice false (.ref q) (.int k u) = operate [.ref q, .int k u] (getItem (.ref q) (.int k u)) := by with_unfolding_all rfl) :
    wpAny (model prog w) A (subscriptTail value slice (.ref q) (.int k u)) Q E s :=
  have hL : s.heap.IsList q vs.toArray := ⟨_, F.keep _ _ hl, rfl, n, rfl⟩
  tail_any hL.typeIs slot_list_getitem.lookup (wpAny_getItem_list hL h0 hhi (by simpa using hx) h) hs
/-- an item of a tuple that stands on the ground -/
theorem sub_tup_g {j : Nat} (F : Fr h₀ L s.heap m) (hl : h₀.get? q = some (tupO vs n)) (hlo : -(2 ^ 63) ≤ k) (hhi : k < 2 ^ 63) (hj : seqIndex? k vs.length = some j) (hx : vs[j]? = some v) (h : Q v s)
    (hs : subscripted slice false (.ref q) (.int k u) = operate [.ref q, .int k u] (getItem (.ref q) (.int k u)) := by with_unfolding_all rfl) :
    wpAny (model prog w) A (subscriptTail value slice (.ref q) (.int k u)) Q E s :=
  item_tupleT ⟨_, F.keep _ _ hl, rfl, n, rfl⟩ hlo hhi hj hx h hs
end
theorem upd_upd {x : Str} {a b : Option Value} {f : Str → Option Value} : (fun y => if y = x then a else (if y = x then b else f y)) = fun y => if y = x then a else f y := by
  funext y; split <;> rfl
theorem upd_self {x : Str} {a : Option Value} {f : Str → Option Value} (h : f x = a) : f = fun y => if y = x then a else f y := by
  funext y; split
  · next e => rw [e, h]
  · rfl
theorem fill : PySem.Challenge.rw_sn0068_01 = PySem.Challenge.rw_sn0068_01 ∧ Mine.hd.heap_39 = Mine.hd.heap_39 := by
  w_top off
  k_fill
  exact ⟨rfl, rfl⟩
end Mine

namespace Mine
open PySem.Calls PySem.Spec
theorem le_nat {x : Int} (n : Nat) (h : x ≤ 0) : x ≤ (n : Int) := Int.le_trans h (Int.natCast_nonneg n)
theorem nat_le {x : Int} {n b : Nat} (h : n ≤ b) (e : (b : Int) ≤ x) : (n : Int) ≤ x := Int.le_trans (Int.ofNat_le.mpr h) e
theorem nat_lt {x : Int} {n b : Nat} (h : n ≤ b) (e : (b : Int) < x) : (n : Int) < x := Int.lt_of_le_of_lt (Int.ofNat_le.mpr h) e
theorem cast_step (a i : Nat) : (a : Int) + (i : Int) * 1 = ((a + i : Nat) : Int) := by omega
theorem zero_step (i : Nat) : (0 : Int) + (i : Int) * 1 = (i : Int) := by omega
section
variable {α : Type} {a b c d e f g h i j k l m : α} {t : List α} {P : α → Prop}
theorem mem0 : a ∈ a :: t := .head _
theorem mem1 : b ∈ a :: b :: t := .tail _ (.head _)
theorem mem2 : c ∈ a :: b :: c :: t := .tail _ (.tail _ (.head _))
theorem mem3 : d ∈ a :: b :: c :: d :: t := .tail _ (.tail _ (.tail _ (.head _)))
theorem mem4 : e ∈ a :: b :: c :: d :: e :: t := .tail _ (.tail _ (.tail _ (.tail _ (.head _))))
theorem mem5 : f ∈ a :: b :: c :: d :: e :: f :: t := .tail _ (.tail _ (.tail _ (.tail _ (.tail _ (.head _)))))
theorem mem6 : g ∈ a :: b :: c :: d :: e :: f :: g :: t := .tail _ (.tail _ (.tail _ (.tail _ (.tail _ (.tail _ (.head _))))))
theorem mem7 : h ∈ a :: b :: c :: d :: e :: f :: g :: h :: t := .tail _ (.tail _ (.tail _ (.tail _ (.tail _ (.tail _ (.tail _ (.head _)))))))
theorem mem8 : i ∈ a :: b :: c :: d :: e :: f :: g :: h :: i :: t := .tail _ (.tail _ (.tail _ (.tail _ (.tail _ (.tail _ (.tail _ (.tail _ (.head _))))))))
theorem mem9 : j ∈ a :: b :: c :: d :: e :: f :: g :: h :: i :: j :: t := .tail _ (.tail _ (.tail _ (.tail _ (.tail _ (.tail _ (.tail _ (.tail _ (.tail _ (.head _)))))))))
theorem mem10 : k ∈ a :: b :: c :: d :: e :: f :: g :: h :: i :: j :: k :: t := .tail _ (.tail _ (.tail _ (.tail _ (.tail _ (.tail _ (.tail _ (.tail _ (.tail _ (.tail _ (.head _))))))))))
theorem mem11 : l ∈ a :: b :: c :: d :: e :: f :: g :: h :: i :: j :: k :: l :: t := .tail _ (.tail _ (.tail _ (.tail _ (.tail _ (.tail _ (.tail _ (.tail _ (.tail _ (.tail _ (.tail _ (.head _)))))))))))
theorem mem12 : m ∈ a :: b :: c :: d :: e :: f :: g :: h :: i :: j :: k :: l :: m :: t := .tail _ (.tail _ (.tail _ (.tail _ (.tail _ (.tail _ (.tail _ (.tail _ (.tail _ (.tail _ (.tail _ (.tail _ (.head _))))))))))))
theorem memT1 {x : α} (z : x ∈ t) : x ∈ a :: t := .tail _ z
theorem memT2 {x : α} (z : x ∈ t) : x ∈ a :: b :: t := .tail _ (.tail _ z)
theorem memT3 {x : α} (z : x ∈ t) : x ∈ a :: b :: c :: t := .tail _ (.tail _ (.tail _ z))
theorem memT4 {x : α} (z : x ∈ t) : x ∈ a :: b :: c :: d :: t := .tail _ (.tail _ (.tail _ (.tail _ z)))
theorem memT5 {x : α} (z : x ∈ t) : x ∈ a :: b :: c :: d :: e :: t := .tail _ (.tail _ (.tail _ (.tail _ (.tail _ z))))
theorem memT6 {x : α} (z : x ∈ t) : x ∈ a :: b :: c :: d :: e :: f :: t := .tail _ (.tail _ (.tail _ (.tail _ (.tail _ (.tail _ z)))))
theorem memT7 {x : α} (z : x ∈ t) : x ∈ a :: b :: c :: d :: e :: f :: g :: t := .tail _ (.tail _ (.tail _ (.tail _ (.tail _ (.tail _ (.tail _ z))))))
theorem memT8 {x : α} (z : x ∈ t) : x ∈ a :: b :: c :: d :: e :: f :: g :: h :: t := .tail _ (.tail _ (.tail _ (.tail _ (.tail _ (.tail _ (.tail _ (.tail _ z)))))))
theorem memT9 {x : α} (z : x ∈ t) : x ∈ a :: b :: c :: d :: e :: f :: g :: h :: i :: t := .tail _ (.tail _ (.tail _ (.tail _ (.tail _ (.tail _ (.tail _ (.tail _ (.tail _ z))))))))
theorem memT10 {x : α} (z : x ∈ t) : x ∈ a :: b :: c :: d :: e :: f :: g :: h :: i :: j :: t := .tail _ (.tail _ (.tail _ (.tail _ (.tail _ (.tail _ (.tail _ (.tail _ (.tail _ (.tail _ z)))))))))
theorem memT11 {x : α} (z : x ∈ t) : x ∈ a :: b :: c :: d :: e :: f :: g :: h :: i :: j :: k :: t := .tail _ (.tail _ (.tail _ (.tail _ (.tail _ (.tail _ (.tail _ (.tail _ (.tail _ (.tail _ (.tail _ z))))))))))
theorem memT12 {x : α} (z : x ∈ t) : x ∈ a :: b :: c :: d :: e :: f :: g :: h :: i :: j :: k :: l :: t := .tail _ (.tail _ (.tail _ (.tail _ (.tail _ (.tail _ (.tail _ (.tail _ (.tail _ (.tail _ (.tail _ (.tail _ z)))))))))))
theorem all_cons (ha : P a) (ht : ∀ x ∈ t, P x) : ∀ x ∈ a :: t, P x := fun x hx => by
  rcases List.mem_cons.mp hx with rfl | hx
  · exact ha
  · exact ht x hx
theorem all_nil : ∀ x ∈ ([] : List α), P x := fun _ hx => nomatch hx
theorem nin1 {x : α} (h1 : x ≠ a) : x ∉ [a] := fun q => h1 (List.mem_singleton.mp q)
theorem nin2 {x : α} (h1 : x ≠ a) (h2 : x ≠ b) : x ∉ [a, b] := fun q => by
  rcases List.mem_cons.mp q with q | q
  · exact h1 q
  · exact nin1 h2 q
theorem nin3 {x : α} (h1 : x ≠ a) (h2 : x ≠ b) (h3 : x ≠ c) : x ∉ [a, b, c] := fun q => by
  rcases List.mem_cons.mp q with q | q
  · exact h1 q
  · exact nin2 h2 h3 q
end
section
variable {L : List (Addr × Obj)} {a b c : Addr} {o1 o2 o3 : Obj}
theorem fp1 (h1 : (a, o1) ∈ L) : ∀ x ∈ [a], ∃ o, (x, o) ∈ L := fun x hx => by rw [List.mem_singleton.mp hx]; exact ⟨_, h1⟩
theorem fp2 (h1 : (a, o1) ∈ L) (h2 : (b, o2) ∈ L) : ∀ x ∈ [a, b], ∃ o, (x, o) ∈ L := all_cons ⟨_, h1⟩ (fp1 h2)
theorem fp3 (h1 : (a, o1) ∈ L) (h2 : (b, o2) ∈ L) (h3 : (c, o3) ∈ L) : ∀ x ∈ [a, b, c], ∃ o, (x, o) ∈ L := all_cons ⟨_, h1⟩ (fp2 h2 h3)
theorem oth_cons {fp : List Addr} {p : Addr × Obj} {t : List (Addr × Obj)} (hm : p ∈ L) (hn : p.1 ∉ fp) (ht : ∀ q ∈ t, q ∈ L ∧ q.1 ∉ fp) : ∀ q ∈ p :: t, q ∈ L ∧ q.1 ∉ fp := all_cons ⟨hm, hn⟩ ht
theorem oth_nil {fp : List Addr} : ∀ q ∈ ([] : List (Addr × Obj)), q ∈ L ∧ q.1 ∉ fp := fun _ hx => nomatch hx
end
theorem News.cons' {h₀ h : Heap} {L a : Addr} {o : Obj} {l : List (Addr × Obj)} (N : News h₀ L h l) (hg : h.get? a = some o) (hL : a ≠ L) (h0 : h₀.get? a = none) : News h₀ L h ((a, o) :: l) := by
  intro p hp
  rcases List.mem_cons.mp hp with rfl | hp
  · exact ⟨hg, hL, h0⟩
  · exact N p hp
theorem Fr.ne_seq {h₀ h : Heap} {L a : Addr} {m : Str → Option Value} {c : Value} {d : Option Addr} {items : Array Value} {n : Nat} {sl : Array (Option Value)} (F : Fr h₀ L h m) (hg : h.get? a = some ⟨c, d, .seq items n, sl⟩) : a ≠ L := by
  rintro rfl
  (refine Mine.el_E3ALALL (F.ns) ?_; intro oL es ep hL hd _)
  rw [hg] at hL; cases hL; cases hd

section
variable {w : World} {dmax umax : Nat} {f : Value} {vs : List Value} {kw : List (Str × Value)} {fp : List Addr} {Pre : Heap → Prop} {Post : Heap → Value → Heap → Prop}
/-- a contract, used in a frame -/
theorem Con.use (C : Con w dmax umax f vs kw fp Pre Post) {p : Program} {loose : List Str} {mean : ExcName → Option Value} {mg mb : Str → Option Value}
    {A : Around} {env : Env} {outer : List Env} {A₀ : Around} {base h₀ : Heap} {L : Addr} {m : Str → Option Value} {s : Shared} {Q : Value → Shared → Prop} {E : Value → Shared → Prop} {full oth : List (Addr × Obj)}
    (B : Below A₀ base outer h₀) (F : Fr h₀ L s.heap m) (X : (Mine.hd.heap_39 w.params).In h₀) (T : Top p loose mean mg mb h₀) (N : News h₀ L s.heap full)
    (hA : A.frames = some (env :: outer)) (hf : env.frame = some L) (hke : env.scope.kind = .function) (hh : A.handled = none) (hd : A.depth ≤ dmax) (hu : A.units ≤ umax)
    (hfp : ∀ b ∈ fp, ∃ o, (b, o) ∈ full) (hoth : ∀ p ∈ oth, p ∈ full ∧ p.1 ∉ fp) (hpre : Pre s.heap)
    (ret : ∀ r h' tk', Fr h₀ L h' m → News h₀ L h' oth → Keeps fp s.heap h' → Post s.heap r h' → Q r { s with heap := h', toks := tk' }) :
    wpAny (model PySem.Challenge.rw_sn0068_01.row.prog w) A (call f vs kw) Q E s := by
  have hfp' : ∀ b ∈ fp, b ≠ L ∧ h₀.get? b = none := fun b hb => let ⟨o, ho⟩ := hfp b hb; (N _ ho).2
  refine C p loose mean mg mb A env outer A₀ base h₀ L m s Q E B F X T hA hf hke hh hd hu hfp' hpre fun r h' tk' K P => ?_
  have nL : L ∉ fp := fun q => (hfp' L q).1 rfl
  have nm : ∀ b o, h₀.get? b = some o → b ∉ fp := fun b o e q => by rw [(hfp' b q).2] at e; cases e
  (refine Mine.el_E3ALALALL (F.ns) ?_; intro oL es ep hL hLd hLk hLf)
  refine ret r h' tk' ⟨⟨oL, es, ep, K _ _ hL nL, hLd, hLk, hLf⟩, fun b o e => K _ _ (F.keep b o e) (nm b o e), F.above⟩ (fun p hp => ?_) K P
  (refine Mine.el_ALL (hoth p hp) ?_; intro h1 h2)
  exact ⟨K _ _ (N p h1).1 h2, (N p h1).2⟩
end

def GL (gl : List (Addr × Obj)) (h : Heap) : Prop := ∀ q ∈ gl, h.get? q.1 = some q.2
theorem GL.keep {gl : List (Addr × Obj)} {h h' : Heap} (x : GL gl h) (k : ∀ b o, h.get? b = some o → h'.get? b = some o) : GL gl h' := fun q hq => k _ _ (x q hq)
theorem GL.inn {gl : List (Addr × Obj)} {w : World} {fp : List Addr} {s : Shared} {g : Heap} {L' : Addr} {h₁ : Heap} (x : GL gl s.heap) (En : Enter w fp s g L' h₁) (h : ∀ q ∈ gl, q.1 ∉ fp) : GL gl g := fun q hq => En.inn _ _ (x q hq) (h q hq)
theorem FnAt.keep {q : Addr} {h h' : Heap} (x : FnAt q h) (k : ∀ b o, h.get? b = some o → h'.get? b = some o) : FnAt q h' := let ⟨a, b, c, d, e⟩ := x; ⟨a, b, c, d, k _ _ e⟩
theorem Keeps.mono {fp fp' : List Addr} {h h' : Heap} (k : Keeps fp h h') (hs : ∀ b ∈ fp, b ∈ fp') : Keeps fp' h h' := fun b o e n => k b o e fun q => n (hs b q)
theorem Keeps.trans {fp : List Addr} {h h' h'' : Heap} (k : Keeps fp h h') (k' : Keeps fp h' h'') : Keeps fp h h'' := fun b o e n => k' b o (k b o e n) n

/-- what a question's answer does to the state of the one who is asked -/
structure Asker where
  aa : Addr
  St : List Bool → Obj → Prop
  ok : List Bool → Prop
  gl : List (Addr × Obj)
  okp : ∀ a b, ok (a ++ b) → ok a
  off : ∀ q ∈ gl, q.1 ≠ aa
  lst : ∀ hist o, St hist o → ∃ vs n, o = lstO vs n
def Asker.at (K : Asker) (hist : List Bool) (h : Heap) : Prop := GL K.gl h ∧ ∃ o, h.get? K.aa = some o ∧ K.St hist o

def KeyC (w : World) (kq : Addr) (K : Asker) (fo : Obj) (sym : Int) (p : Int → Bool) (V : Int → Prop) : Prop :=
  (∃ fd, fo.data = .func fd) ∧
  (∀ t, Con w 900 9000 (Value.ref kq) [Value.int sym t] [] [] (fun h => GL K.gl h ∧ h.get? kq = some fo) (fun _ r _ => r = Value.bool true)) ∧
  ∀ hist y t, V y → y ≠ sym → K.ok (hist ++ [p y]) → Con w 900 9000 (Value.ref kq) [Value.int y t] [] [K.aa] (fun h => K.at hist h ∧ h.get? kq = some fo)
    (fun _ r h' => r = Value.bool (!p y) ∧ K.at (hist ++ [p y]) h')
end Mine

namespace Mine
open PySem.Calls PySem.Spec
/-- a goal at which the walk is to stop -/
@[irreducible] def Hold (P : Prop) : Prop := P
theorem Hold.on {P : Prop} (h : Hold P) : P := by unfold Hold at h; exact h
theorem Hold.off {P : Prop} (h : P) : Hold P := by unfold Hold; exact h
end Mine

namespace Mine
theorem canon1 {x1 : Str} {m m0 : Str → Option Value} (h : ∀ z, z ≠ x1 → m z = m0 z) : m = fun z => if z = x1 then m x1 else m0 z := by
  funext z
  by_cases e1 : z = x1
  · subst e1; simp
  · simp only [if_neg e1]; exact h z e1
theorem canon2 {x1 x2 : Str} {m m0 : Str → Option Value} (h : ∀ z, z ≠ x1 → z ≠ x2 → m z = m0 z) : m = fun z => if z = x1 then m x1 else if z = x2 then m x2 else m0 z := by
  funext z
  by_cases e1 : z = x1
  · subst e1; simp
  by_cases e2 : z = x2
  · subst e2; simp only [if_neg e1, if_true]
  · simp only [if_neg e1, if_neg e2]; exact h z e1 e2
theorem canon3 {x1 x2 x3 : Str} {m m0 : Str → Option Value} (h : ∀ z, z ≠ x1 → z ≠ x2 → z ≠ x3 → m z = m0 z) : m = fun z => if z = x1 then m x1 else if z = x2 then m x2 else if z = x3 then m x3 else m0 z := by
  funext z
  by_cases e1 : z = x1
  · subst e1; simp
  by_cases e2 : z = x2
  · subst e2; simp only [if_neg e1, if_true]
  by_cases e3 : z = x3
  · subst e3; simp only [if_neg e1, if_neg e2, if_true]
  · simp only [if_neg e1, if_neg e2, if_neg e3]; exact h z e1 e2 e3
end Mine

namespace Mine
open PySem.Calls PySem.Spec
section
variable {w : World} {dmax umax : Nat} {fp : List Addr} {Pre : Heap → Prop} {Post : Heap → Value → Heap → Prop} {name qual : Str} {params : Arguments} {body : PySem.Expr} {scope : Scope} {cl : List (Str × Addr)} {pm ctv : Value} {c' : Addr} {f : Addr} {vs : List Value} {kw : List (Str × Value)} {binds : List (Str × Value)}

/-- a lambda that stands on the heap -/
theorem Con.lam (hfn : ∀ h, Pre h → h.get? f = some (kla_obj name qual params body scope cl pm c' ctv) ∧ h.CodeRec (.ref c') qual)
    (hroom : dmax < recursionLimit)
    (hbind : bindArgs (kla_fn name qual params body scope cl pm (.ref c') ctv) ⟨vs, kw⟩ = pure binds) (hloc : ∀ y ∈ binds, scope.names.lookup y.1 = some .local)
    (hcell : ∀ x ∈ scope.names, x.2 ≠ .cell) (hco : scope.isCoroutine = false) (hgen : scope.isGenerator = false) (hk : scope.kind = .function)
    (hb : ∀ (p : Program) (loose : List Str) (mean : ExcName → Option Value) (mg mb : Str → Option Value) (gd : Option (List Code)) (env : Env) (outer : List Env) (base g : Heap) (L' : Addr) (h₁ : Heap) (s : Shared) (tk₁ : Nat),
      Pre s.heap → Enter w fp s g L' h₁ → Fr g L' h₁ (fun y => binds.reverse.lookup y) → Below (AT dmax umax gd env outer) base (env :: outer) g → (Mine.hd.heap_39 w.params).In g → Top p loose mean mg mb g →
      wpAny (model PySem.Challenge.rw_sn0068_01.row.prog w) ((AT dmax umax gd env outer).deeper (envX qual scope L' f (.ref c') cl)) (eval body (envX qual scope L' f (.ref c') cl))
        (fun v s' => Fin g { s with heap := h₁, toks := tk₁ } (Post s.heap) v s') (fun _ _ => False)
        { s with heap := h₁, toks := tk₁ }) : Con w dmax umax (.ref f) vs kw fp Pre Post := by
  refine Con.of fun p loose mean mg mb gd env outer A₀ base h₀ L m s Q B F X T hf hke hfp hpre hret => ?_
  (refine Mine.el_ALALL (ground (A := AT dmax umax gd env outer) B F hfp rfl hf hke) ?_; intro FG BG st)
  (refine Mine.el_ALL (hfn _ hpre) ?_; intro ho hcd)
  refine wpAny_call ?_
  refine kla_callFunE hroom ho rfl hco hgen rfl hcd ?_
  rw [hbind]
  refine wpAny_pure (wpAny_newFunctionEnv hcell hloc (fun h₁ hns hsb => ⟨((T.nolimit).keeps F.keep).fresh _ hsb, ?_⟩) hk)
  show codeAny _ _ (.expr body (envX qual scope s.heap.objs.size f (.ref c') cl)) _ _
  have hk₁ : ∀ b o, s.heap.get? b = some o → h₁.get? b = some o := fun b o e => hsb.extBut b o (Nat.ne_of_lt (Heap.lt_size e)) (Heap.get?_push_of_some _ e)
  have En : Enter w fp s (hideAll s.heap fp) s.heap.objs.size h₁ := Enter.of hk₁ (X.keeps st)
  have := hb p loose mean mg mb gd env outer base (hideAll s.heap fp) s.heap.objs.size h₁ s (s.toks + binds.length) hpre En ⟨hns, fun b o e => hk₁ b o (of_hideAll _ e), Nat.le_of_eq (hideAll_size _ _)⟩ BG (X.keeps st) (T.keeps st)
  exact kla_codeExpr (wpAny_mono this (fun v s' hl => hl.done En hret) fun _ _ q => q.elim)
end
theorem nameX_FH {M : Model} {A : Around} {E : Value → Shared → Prop} {s : Shared} {h₀ : Heap} {L a : Addr} {m : Str → Option Value} {cn : Str} {cs : Scope} {ccd : Value} {cl : List (Str × Addr)} {x : Str} {pos : Pos} {v : Value} {Q : Value → Shared → Prop} {c : Addr} {o : Obj}
    (F : Fr h₀ L s.heap m) (hc : cl.lookup x = some c) (hv : h₀.get? c = some o) (hd : o.data = .cell (some v)) (h : Q v s)
    (hk : cs.kind = .function := by rfl) (hx : (envX cn cs L a ccd cl).kindOf x = some .free := by rfl) (hb : (x == ("__debug__" : Str)) = false := by decide) (hn : (x == ("__classdict__" : Str)) = false := by decide) :
    wpAny M A (eval (.Name x pos) (envX cn cs L a ccd cl)) Q E s := wpAny_Name (wpAny_loadName_free hk hx hc ⟨_, F.keep _ _ hv, hd⟩ h hn) hb

def AskC (w : World) (ask : Addr) (K : Asker) (V : Int → Prop) : Prop :=
  (∃ fo fd, (ask, fo) ∈ K.gl ∧ fo.data = .func fd) ∧
  ∀ hist x y tx ty, V x → V y → K.ok (hist ++ [decide (x < y)]) → Con w 950 9500 (Value.ref ask) [Value.int x tx, Value.int y ty] [] [K.aa] (fun h => K.at hist h) (fun _ r h' => r = Value.bool (decide (x < y)) ∧ K.at (hist ++ [decide (x < y)]) h')

def Asker.more (K : Asker) (gl : List (Addr × Obj)) (off : ∀ q ∈ gl, q.1 ≠ K.aa) : Asker := { K with gl := gl, off := off }
theorem FnAt.gl {q : Addr} {gl : List (Addr × Obj)} {h : Heap} (x : ∃ fo fd, (q, fo) ∈ gl ∧ fo.data = .func fd) (G : GL gl h) : FnAt q h := by
  obtain ⟨⟨c1, c2, c3, c4⟩, fd, hm, hd⟩ := x
  subst hd
  exact ⟨_, _, _, _, G _ hm⟩
theorem Con.weaken {w : World} {dmax umax : Nat} {f : Value} {vs : List Value} {kw : List (Str × Value)} {fp : List Addr} {Pre Pre' : Heap → Prop} {Post Post' : Heap → Value → Heap → Prop} (C : Con w dmax umax f vs kw fp Pre Post)
    (h1 : ∀ h, Pre' h → Pre h) (h2 : ∀ h r h', Pre' h → Keeps fp h h' → Post h r h' → Post' h r h') : Con w dmax umax f vs kw fp Pre' Post' := by
  intro p loose mean mg mb A env outer A₀ base h₀ L m s Q E B F X T hA hf hk hh hd hu hfp hpre hret
  exact C p loose mean mg mb A env outer A₀ base h₀ L m s Q E B F X T hA hf hk hh hd hu hfp (h1 _ hpre) fun r h' tk' k q => hret r h' tk' k (h2 _ _ _ hpre k q)
theorem AskC.more {w : World} {ask : Addr} {K : Asker} {V : Int → Prop} (C : AskC w ask K V) (gl : List (Addr × Obj)) (off : ∀ q ∈ gl, q.1 ≠ K.aa) (hs : ∀ q ∈ K.gl, q ∈ gl) : AskC w ask (K.more gl off) V := by
  (refine Mine.el_AE2ALLL (C) ?_; intro fo fd h1 h2 C)
  refine ⟨⟨fo, fd, hs _ h1, h2⟩, fun hist x y tx ty vx vy ok => ?_⟩
  refine (C hist x y tx ty vx vy ok).weaken (fun h q => ⟨fun p hp => q.1 p (hs p hp), q.2⟩) fun h r h' q k z => ⟨z.1, fun p hp => k _ _ (q.1 p hp) (by simpa using off p hp), z.2.2⟩
end Mine

namespace Mine
open PySem.Calls PySem.Spec
/-- the table of a maker's inner code objects: empty, or the one lambda's -/
def TabOk (h : Heap) (P : Addr) (line col : Nat) (qual : Str) (o : Obj) : Prop :=
  o = tabObj #[] ∨ ∃ c' oc vs t, o = tabObj #[rawInt line, rawInt col, .ref c'] ∧ h.get? c' = some oc ∧ oc.data = .fields vs ∧ vs[1]? = some (.str qual t) ∧ c' ≠ P
theorem TabOk.keep {h h' : Heap} {P : Addr} {line col : Nat} {qual : Str} {o : Obj} (x : TabOk h P line col qual o) (k : ∀ b o vs, o.data = .fields vs → b ≠ P → h.get? b = some o → h'.get? b = some o) : TabOk h' P line col qual o := by
  rcases x with x | ⟨c', oc, vs, t, x, y, z, u, v⟩
  · exact .inl x
  · exact .inr ⟨c', oc, vs, t, x, k _ _ _ z v y, z, u, v⟩
section
variable {M : Model} {A : Around} {E : Value → Shared → Prop} {s : Shared} {h₀ : Heap} {L a c P : Addr} {m mg mb : Str → Option Value} {cn : Str} {cs : Scope} {ccd : Value} {cl : List (Str × Addr)} {news : List (Addr × Obj)} {g : Obj → List (Addr × Obj)}
  {p : Program} {loose : List Str} {mean : ExcName → Option Value} {name qual : Str} {params : Arguments} {body : PySem.Expr} {scope : Scope} {pos : Pos} {firstLine : Nat} {clos : List (Str × Addr)} {to : Obj}
theorem lam_any {Q : Value → Shared → Prop} (F : Fr h₀ L s.heap m) (N : News h₀ L s.heap news) (T : Top p loose mean mg mb h₀) (C : CodeHd h₀ c P) (hcd : ccd = .ref c) (hto : TabOk h₀ P pos.line pos.col qual to) (U : UpdF P to news g)
    (hcl : closureFor scope (envX cn cs L a ccd cl) = pure clos)
    (h : ∀ f c' oc vs t ctv h' tk to', Fr h₀ L h' m → News h₀ L h' ((f, kla_obj name qual params body scope clos ((mg "__name__").getD .none) c' ctv) :: g to') → h'.get? c' = some oc →
      oc.data = .fields vs → vs[1]? = some (.str qual t) → c' ≠ P → to' = tabObj #[rawInt pos.line, rawInt pos.col, .ref c'] → (∀ q ∈ news, q.1 < f) → Q (.ref f) { s with heap := h', toks := tk }) :
    wpAny M A (makeFunction name qual params (.expr body) scope (envX cn cs L a ccd cl) [] [] [] pos firstLine) Q E s := by
  have U' := U
  (refine Mine.el_E2ALALALL (U'.split) ?_; intro own rest rf2 hgr h1 h2; subst rf2)
  have hmem : (P, to) ∈ own ++ (P, to) :: rest := List.mem_append_right _ (.head _)
  rcases hto with rfl | ⟨c', oc, vs, t, rfl, hc, hd, hv, hP⟩
  · refine kla_nest F N T C hcd U (by simp [TriplesOk]) (by rfl) hcl fun f c' oc vs t ctv h' tk F' N' hd hv l1 l2 => ?_
    exact h f c' oc vs t ctv h' tk _ F' (fun q hq => N' q (by rcases List.mem_cons.mp hq with rfl | hq; exact .head _; exact .tail _ (.tail _ hq))) (N' _ (.tail _ (.head _))).1 hd hv (fun e => absurd (l1 _ hmem) (by rw [e]; exact Nat.lt_irrefl _)) rfl (fun q hq => Nat.lt_trans (l1 q hq) l2)
  · refine kla_hit (c' := c') F N T C hcd hmem (by simp [TriplesOk, rawInt]) (by simp [codeAmong, rawInt]) hcl fun f ctv h' tk F' N' l1 => ?_
    have hc' : h'.get? c' = some oc := F'.keep _ _ hc
    exact h f c' oc vs t ctv h' tk _ F' (fun q hq => N' q (by rw [hgr] at hq; exact hq)) hc' hd hv hP rfl l1
end
end Mine

namespace Mine
open PySem.Calls PySem.Spec
section
variable {w : World} {dmax umax : Nat} {fp : List Addr} {Pre : Heap → Prop} {Post : Heap → Value → Heap → Prop} {name qual : Str} {params : Arguments} {body : List Stmt} {scope : Scope} {dV kV doc pm cdv ct oc : Value} {an od : Option Addr} {osl : Array (Option Value)} {f : Addr} {vs : List Value} {kw : List (Str × Value)} {binds : List (Str × Value)}
/-- a def of the text with cells of its own -/
theorem Con.fnC (ho : (Mine.hd.heap_39 w.params).lookup f = some ⟨oc, od, .func (fnOf name qual params body scope dV kV doc pm an cdv ct), osl⟩) (hcd : codeIn (Mine.hd.heap_39 w.params) cdv qual = true)
    (hroom : dmax < recursionLimit)
    (hbind : ∀ s : Shared, (Mine.hd.heap_39 w.params).In s.heap → BindsTo s (fnOf name qual params body scope dV kV doc pm an cdv ct) ⟨vs, kw⟩ binds)
    (hkind : (binds.all fun y => scope.names.lookup y.1 == some .local || scope.names.lookup y.1 == some .cell) = true)
    (hnd : ((cellsFrom 0 scope.names []).map (·.1)).Nodup)
    (hco : scope.isCoroutine = false) (hgen : scope.isGenerator = false) (hk : scope.kind = .function)
    (hb : ∀ (p : Program) (loose : List Str) (mean : ExcName → Option Value) (mg mb : Str → Option Value) (gd : Option (List Code)) (env : Env) (outer : List Env) (base g : Heap) (L' : Addr) (h₁ : Heap) (s : Shared) (tk₁ : Nat) (cells : List (Addr × Obj)),
      Pre s.heap → Enter w fp s g L' h₁ → Fr g L' h₁ (bindL (envOfC qual scope L' f cdv).kindOf binds fun _ => none) → News g L' h₁ cells →
      CellsAre (bindC (envOfC qual scope L' f cdv).kindOf binds fun _ => none) (cellsFrom (L' + 1) scope.names []) cells → (∀ p ∈ cells, s.heap.get? p.1 = none) →
      Below (AT dmax umax gd env outer) base (env :: outer) g → (Mine.hd.heap_39 w.params).In g → Top p loose mean mg mb g →
      wpAny (model PySem.Challenge.rw_sn0068_01.row.prog w) ((AT dmax umax gd env outer).deeper (envOfC qual scope L' f cdv)) (execs body (envOfC qual scope L' f cdv))
        (fun fl s' => Fin g { s with heap := h₁, toks := tk₁ } (Post s.heap) (match fl with | .ret v => v | _ => .none) s') (fun _ _ => False)
        { s with heap := h₁, toks := tk₁ }) : Con w dmax umax (.ref f) vs kw fp Pre Post := by
  refine Con.of fun p loose mean mg mb gd env outer A₀ base h₀ L m s Q B F X T hf hke hfp hpre hret => ?_
  (refine Mine.el_ALALL (ground (A := AT dmax umax gd env outer) B F hfp rfl hf hke) ?_; intro FG BG st)
  refine wpAny_call ?_
  refine codeAny_call_function hroom ((X.keeps F.keep) _ _ ho) rfl hco hgen rfl (codeRec_of (X.keeps F.keep) hcd) (hbind s (X.keeps F.keep) _ _ _ _ ?_)
  refine wpAny_newFunctionEnv_cells hk (kindsX hkind _) fun env' he s' x => ?_
  subst he
  refine ⟨(T.nolimit.keeps F.keep).keeps x.toInCall.keep, codeAny_func ?_⟩
  (refine Mine.el_E2ALL (x.done) ?_; intro h₁ tk rf2 _; subst rf2)
  have hk₁ := x.toInCall.keep
  (refine Mine.el_EALL (Cl.news (h₀ := s.heap) (Nat.le_refl _) fun n c hm => ⟨x.cell n c (lookup_of_mem_nodup (cellsFrom_names scope.names 0 (s.heap.objs.size + 1) [] [] rfl ▸ hnd) hm), x.above n c hm⟩) ?_; intro cells NC Y)
  have En : Enter w fp s (hideAll s.heap fp) s.heap.objs.size h₁ := Enter.of hk₁ (X.keeps st)
  have NG : News (hideAll s.heap fp) s.heap.objs.size h₁ cells := fun p hp => ⟨(NC p hp).1, (NC p hp).2.1, by
    cases q : (hideAll s.heap fp).get? p.1 with
    | none => rfl
    | some o => have := of_hideAll _ q; rw [(NC p hp).2.2] at this; cases this⟩
  have := hb p loose mean mg mb gd env outer base (hideAll s.heap fp) s.heap.objs.size h₁ s tk cells hpre En ⟨x.toInCall.ns, fun b o e => hk₁ b o (of_hideAll _ e), Nat.le_of_eq (hideAll_size _ _)⟩ NG Y (fun p hp => (NC p hp).2.2) BG (X.keeps st) (T.keeps st)
  exact wpAny_mono this (fun fl s' hl => hl.done En hret) fun _ _ q => q.elim
end
theorem News.app {h₀ h : Heap} {L : Addr} {l l' : List (Addr × Obj)} (N : News h₀ L h l) (N' : News h₀ L h l') : News h₀ L h (l ++ l') := fun p hp => (List.mem_append.mp hp).elim (N p) (N' p)
theorem Enter.lt {w : World} {fp : List Addr} {s : Shared} {g : Heap} {L' : Addr} {h₁ : Heap} (En : Enter w fp s g L' h₁) {b : Addr} {o : Obj} (e : s.heap.get? b = some o) : @LT.lt Nat _ b L' := by
  rw [En.now]; exact Heap.lt_size e

section
variable {w : World} {dmax umax : Nat} {f : Value} {vs : List Value} {kw : List (Str × Value)} {Pre : Heap → Prop} {Post : Heap → Value → Heap → Prop}
/-- a contract that changes nothing, used in a frame -/
theorem Con.use0 (C : Con w dmax umax f vs kw [] Pre Post) {p : Program} {loose : List Str} {mean : ExcName → Option Value} {mg mb : Str → Option Value}
    {A : Around} {env : Env} {outer : List Env} {A₀ : Around} {base h₀ : Heap} {L : Addr} {m : Str → Option Value} {s : Shared} {Q : Value → Shared → Prop} {E : Value → Shared → Prop} {full : List (Addr × Obj)}
    (B : Below A₀ base outer h₀) (F : Fr h₀ L s.heap m) (X : (Mine.hd.heap_39 w.params).In h₀) (T : Top p loose mean mg mb h₀) (N : News h₀ L s.heap full)
    (hA : A.frames = some (env :: outer)) (hf : env.frame = some L) (hke : env.scope.kind = .function) (hh : A.handled = none) (hd : A.depth ≤ dmax) (hu : A.units ≤ umax) (hpre : Pre s.heap)
    (ret : ∀ r h' tk', Fr h₀ L h' m → News h₀ L h' full → (∀ b o, s.heap.get? b = some o → h'.get? b = some o) → Post s.heap r h' → Q r { s with heap := h', toks := tk' }) :
    wpAny (model PySem.Challenge.rw_sn0068_01.row.prog w) A (call f vs kw) Q E s :=
  Con.use C B F X T N hA hf hke hh hd hu (by simp) (oth := full) (fun p hp => ⟨hp, by simp⟩) hpre fun r h' tk' F' N' K' P => ret r h' tk' F' N' (fun b o e => K' b o e (by simp)) P
end
end Mine

namespace Mine
open PySem.Calls PySem.Spec
theorem News.first {h₀ h : Heap} {L a : Addr} {o : Obj} {l : List (Addr × Obj)} (N : News h₀ L h ((a, o) :: l)) : h.get? a = some o := N.get (.head _)
theorem GL.app {l l' : List (Addr × Obj)} {h : Heap} (x : GL l h) (y : GL l' h) : GL (l ++ l') h := fun q hq => (List.mem_append.mp hq).elim (x q) (y q)
theorem GL.cons {a : Addr} {o : Obj} {l : List (Addr × Obj)} {h : Heap} (e : h.get? a = some o) (y : GL l h) : GL ((a, o) :: l) h := fun q hq => by
  rcases List.mem_cons.mp hq with rfl | hq
  · exact e
  · exact y q hq
theorem GL.nil {h : Heap} : GL [] h := fun _ hq => nomatch hq
end Mine

namespace Mine
theorem canon4 {x1 x2 x3 x4 : Str} {m m0 : Str → Option Value} (h : ∀ z, z ≠ x1 → z ≠ x2 → z ≠ x3 → z ≠ x4 → m z = m0 z) : m = fun z => if z = x1 then m x1 else if z = x2 then m x2 else if z = x3 then m x3 else if z = x4 then m x4 else m0 z := by
  funext z
  by_cases e1 : z = x1
  · subst e1; simp
  by_cases e2 : z = x2
  · subst e2; simp only [if_neg e1, if_true]
  by_cases e3 : z = x3
  · subst e3; simp only [if_neg e1, if_neg e2, if_true]
  by_cases e4 : z = x4
  · subst e4; simp only [if_neg e1, if_neg e2, if_neg e3, if_true]
  · simp only [if_neg e1, if_neg e2, if_neg e3, if_neg e4]; exact h z e1 e2 e3 e4
end Mine

-- Deep
open PySem PySem.W PyProof.Rows
set_option Elab.async false
set_option maxRecDepth 100000
set_option maxHeartbeats 8000000
namespace Mine
open PySem.Calls PySem.Spec

def deepF (R : List (Int × Int)) : Nat → Int → Int
  | 0, x => x
  | f + 1, x => if x < 256 then x else deepF R f ((R.getD (x - 256).toNat (0, 0)).2)
def deep (R : List (Int × Int)) (x : Int) : Int := deepF R R.length x
def WFR (R : List (Int × Int)) : Prop := ∀ (i : Nat) (a b : Int), R[i]? = some (a, b) → 0 ≤ a ∧ a < 256 + (i : Int) ∧ 0 ≤ b ∧ b < 256 + (i : Int)

theorem deepF_low {R : List (Int × Int)} {f : Nat} {x : Int} (h : x < 256) : deepF R f x = x := by
  cases f with
  | zero => rfl
  | succ f => simp [deepF, h]
theorem deepF_more {R : List (Int × Int)} (W : WFR R) : ∀ (f f' : Nat) (x : Int), 0 ≤ x → x < 256 + (R.length : Int) → x - 256 < (f : Int) → x - 256 < (f' : Int) → deepF R f x = deepF R f' x
  | f, f', x, h0, hR, h1, h2 => by
    by_cases hx : x < 256
    · rw [deepF_low hx, deepF_low hx]
    · cases f with
      | zero => exfalso; exact Mine.om1 hx h1
      | succ f => cases f' with
        | zero => exfalso; exact Mine.om1 hx h2
        | succ f' =>
          simp only [deepF, if_neg hx]
          have hi : (x - 256).toNat < R.length := by exact Mine.om2 hR hx
          have e : R[(x - 256).toNat]? = some R[(x - 256).toNat] := List.getElem?_eq_getElem hi
          have := W _ (R[(x - 256).toNat]).1 (R[(x - 256).toNat]).2 e
          rw [List.getD_eq_getElem?_getD, e]
          exact deepF_more W f f' _ (by simpa using this.2.2.1) (by simp; exact Mine.om3 hi this.2.2.2) (by simp; exact Mine.om4 h1 this.2.2.2) (by simp; exact Mine.om4 h2 this.2.2.2)
theorem deep_low {R : List (Int × Int)} {x : Int} (h : x < 256) : deep R x = x := deepF_low h
theorem deep_step {R : List (Int × Int)} (W : WFR R) {x a b : Int} (h : ¬ x < 256) (e : R[(x - 256).toNat]? = some (a, b)) : deep R x = deep R b := by
  have hi : (x - 256).toNat < R.length := by
    (refine Mine.el_EL (List.getElem?_eq_some_iff.mp e) ?_; intro h _); exact h
  have := W _ _ _ e
  unfold deep
  cases hl : R.length with
  | zero => exact Mine.om5 hi hl
  | succ n =>
    simp only [deepF, if_neg h, List.getD_eq_getElem?_getD, e, Option.getD_some]
    show deepF R n b = deepF R (n+1) b
    exact deepF_more W n (n+1) b (by exact Mine.om6 this.2.2.1) (by exact Mine.om3 hi this.2.2.2) (by exact Mine.om7 hi this.2.2.2 hl) (by exact Mine.om8 hi this.2.2.2 hl)

def RefsAre (h : Heap) (refs : List Value) (R : List (Int × Int)) : Prop :=
  refs.length = R.length ∧ ∀ (i : Nat) (a b : Int), R[i]? = some (a, b) → ∃ q t u n, refs[i]? = some (Value.ref q) ∧ h.get? q = some (tupO [Value.int a t, Value.int b u] n)
def RulesAt (h : Heap) (ra : Addr) (R : List (Int × Int)) : Prop := ∃ refs n, h.get? ra = some (lstO refs n) ∧ RefsAre h refs R
theorem RefsAre.keeps {h h' : Heap} {refs : List Value} {R : List (Int × Int)} (x : RefsAre h refs R) (k : ∀ q vs n, h.get? q = some (tupO vs n) → h'.get? q = some (tupO vs n)) : RefsAre h' refs R :=
  ⟨x.1, fun i a b e => let ⟨q, t, u, n, e1, e2⟩ := x.2 i a b e; ⟨q, t, u, n, e1, k _ _ _ e2⟩⟩

theorem fr_canon {g : Heap} {L : Addr} {h : Heap} {m m' : Str → Option Value} (F : Fr g L h m) (e : ∀ y, m y = m' y) : Fr g L h m' := (funext e : m = m') ▸ F

theorem deepest_con (w : World) (R : List (Int × Int)) (ra : Addr) (x : Int) (t : Tok) (W : WFR R) (h0 : 0 ≤ x) (hx : x < 256 + (R.length : Int)) (hsz : R.length < 1000) :
    Con w 950 9500 (Value.ref 160) [Value.int x t, Value.ref ra] [] [] (fun h => RulesAt h ra R) (fun _ r _ => ∃ u, r = Value.int (deep R x) u) := by
  refine' Con.fnK (ho := ?o) (hcd := ?c) ?room ?bind ?loc ?cell ?co ?gen ?k ?body
  case o => k_is
  case c => k_is
  case room => decide
  case bind => intro s _; exact BindsTo.of_eq rfl
  case loc => rfl
  case cell => decide
  case co => rfl
  case gen => rfl
  case k => rfl
  intro p loose mean mg mb gd env outer base g L' h₁ s tk₁ hpre En F B X T
  have N : News g L' h₁ [] := News.nil
  refine wpAny_execs_cons ?_
  refine While_inv (fun n m news => news = [] ∧ ∃ y t', m = (fun z => if z = Str.ofString "symbol" then some (Value.int y t') else List.lookup z [(Str.ofString "rules", Value.ref ra), (Str.ofString "symbol", Value.int x t)]) ∧ 0 ≤ y ∧ y < 256 + (R.length : Int) ∧ deep R y = deep R x ∧ n = y.toNat) F N (n₀ := x.toNat) ⟨rfl, x, t, ?_, h0, hx, rfl, rfl⟩ ?_
  · exact upd_self (by rfl)
  · (intro n m₁ news₁ h₂ tk₂ F₂ N₂ q1q; refine Mine.el_ALE2ALALALALL q1q ?_; intro rf2 y t' rf3 hy0 hyR hyd rf4; subst rf2; subst rf3; subst rf4; clear q1q)
    clear F N
    (refine Mine.el_E2ALALL (hpre) ?_; intro refs nn hra hlen hrefs; try clear hpre)
    have hra' := En.inn _ _ hra (by simp)
    k_steps
    · rename_i h256
      have hi : (y - 256).toNat < R.length := by exact Mine.om9 hyR h256
      obtain ⟨⟨ra1, ra2⟩, hR⟩ : ∃ p, R[(y - 256).toNat]? = some p := ⟨_, List.getElem?_eq_getElem hi⟩
      (refine Mine.el_E4ALL (hrefs _ _ _ hR) ?_; intro q t1 u1 n1 e1 e2)
      have e2' := En.inn _ _ e2 (by simp)
      refine sub_list_g (by k_asm) hra' (by exact Mine.om10 h256) (by exact Mine.om11 hsz hyR) e1 ?_
      k_steps
      refine sub_tup_g (j := 1) (by k_asm) e2' (by decide) (by decide) rfl rfl ?_
      k_steps
      have hW := W _ _ _ hR
      refine WhileStep.intro (by assumption) (by assumption) (n' := ra2.toNat) ?_ ⟨rfl, _, _, upd_upd, hW.2.2.1, by exact Mine.om3 hi hW.2.2.2, ?_, rfl⟩
      · exact Mine.om12 h256 hW.2.2.2
      · rw [← hyd, deep_step W (x := y) (by exact Mine.om13 h256) hR]
    · rename_i h256
      refine Fin.mk' (by k_asm) ⟨t', ?_⟩
      rw [← hyd, deep_low (by exact Mine.om14 h256)]
end Mine

-- Bis
open PySem PySem.W PyProof.Rows
set_option Elab.async false
set_option maxRecDepth 100000
set_option maxHeartbeats 8000000
namespace Mine
open PySem.Calls PySem.Spec

def bis (p : Int → Bool) (chain : List Int) : Nat → Nat → Nat → Nat × List Bool
  | 0, lo, _ => (lo, [])
  | f + 1, lo, hi => if lo < hi then
      (if p (chain.getD ((lo + hi) / 2) 0) then ((bis p chain f ((lo + hi) / 2 + 1) hi).1, true :: (bis p chain f ((lo + hi) / 2 + 1) hi).2)
        else ((bis p chain f lo ((lo + hi) / 2)).1, false :: (bis p chain f lo ((lo + hi) / 2)).2)) else (lo, [])
theorem bis_end {p : Int → Bool} {chain : List Int} {f lo hi : Nat} (h : ¬ lo < hi) : bis p chain f lo hi = (lo, []) := by
  cases f with
  | zero => rfl
  | succ f => simp [bis, h]
theorem bis_more {p : Int → Bool} {chain : List Int} : ∀ (f f' lo hi : Nat), hi - lo ≤ f → hi - lo ≤ f' → bis p chain f lo hi = bis p chain f' lo hi := by
  intro f
  induction f with
  | zero => intro f' lo hi h1 h2; rw [bis_end (by exact Mine.om15 h1), bis_end (by omega)]
  | succ f ih =>
    intro f' lo hi h1 h2
    by_cases h : lo < hi
    · cases f' with
      | zero => exact (Mine.om16 h h2).elim
      | succ f' =>
        simp only [bis, if_pos h]
        rw [ih f' ((lo + hi) / 2 + 1) hi (by exact Mine.om17 h1) (by exact Mine.om17 h2), ih f' lo ((lo + hi) / 2) (by exact Mine.om18 h1) (by exact Mine.om18 h2)]
    · rw [bis_end h, bis_end h]
def bisect (p : Int → Bool) (chain : List Int) (hi : Nat) : Nat × List Bool := bis p chain hi 0 hi

theorem bis_le {p : Int → Bool} {chain : List Int} : ∀ (f lo hi : Nat), lo ≤ hi → (bis p chain f lo hi).1 ≤ hi := by
  intro f
  induction f with
  | zero => intro lo hi h; exact h
  | succ f ih =>
    intro lo hi h
    simp only [bis]
    split
    · split
      · exact ih _ _ (by exact Mine.om19 (by assumption))
      · exact Nat.le_trans (ih _ _ (by exact Mine.om20 (by assumption))) (by exact Mine.om21 (by assumption))
    · exact h

local macro_rules | `(tactic| walk_at "exec While Compare cons nil") => `(tactic| refine Hold.on ?_)
local macro_rules | `(tactic| walk_at "And") => `(tactic| ((with_reducible show FnAt _ _ ∧ _); refine ⟨FnAt.keep (by assumption) (Fr.keep (by k_asm)), ?_⟩))
theorem bisect_con (w : World) (K : Asker) (kq a : Addr) (fo : Obj) (sym : Int) (p : Int → Bool) (V : Int → Prop) (C : KeyC w kq K fo sym p V) (hist : List Bool) (chain : List Int) (hi : Nat) (t0 th : Tok)
    (hhi : hi ≤ chain.length) (hsz : chain.length < 1000) (hV : ∀ y ∈ chain, V y ∧ y ≠ sym) (hok : K.ok (hist ++ (bisect p chain hi).2)) (ha : a ≠ K.aa) (hk : kq ≠ K.aa) :
    Con w 850 8500 (Value.ref 39) [Value.ref a, Value.bool true, Value.int 0 t0, Value.int hi th] [(Str.ofString "key", Value.ref kq)] [K.aa]
      (fun h => K.at hist h ∧ h.get? kq = some fo ∧ ∃ vs n, h.get? a = some (lstO vs n) ∧ IntsAre vs chain)
      (fun _ r h' => (∃ u, r = Value.int (bisect p chain hi).1 u) ∧ K.at (hist ++ (bisect p chain hi).2) h') := by
  refine' Con.fnK (ho := ?o) (hcd := ?c) ?room ?bind ?loc ?cell ?co ?gen ?k ?body
  case o => k_is
  case c => k_is
  case room => decide
  case bind => intro s X; exact binds_K X rfl (by k_is) rfl rfl rfl
  case loc => rfl
  case cell => decide
  case co => rfl
  case gen => rfl
  case k => rfl
  intro p' loose mean mg mb gd env outer base g L' h₁ s tk₁ hpre En F B X T
  (refine Mine.el_AALEALLALE2ALL (hpre) ?_; intro hgl o₀ ho₀ hst₀ hfo vs nn hcl hints; try clear hpre)
  have hgl' := hgl.inn En (fun q hq => by simpa using K.off q hq)
  have hfo' := En.inn _ _ hfo (by simpa using hk)
  have hcl' := En.inn _ _ hcl (by simpa using ha)
  have hL1 : g.IsList a vs.toArray := ⟨_, hcl', rfl, nn, rfl⟩
  have N : News g L' h₁ [(K.aa, o₀)] := News.cons' News.nil (En.led _ _ ho₀ (by exact mem0)).1 (En.led _ _ ho₀ (by exact mem0)).2.1 (En.led _ _ ho₀ (by exact mem0)).2.2
  k_steps
  refine Hold.off ?_
  let m0 : Str → Option Value := fun y => List.lookup y [(Str.ofString "key", Value.ref kq), (Str.ofString "hi", Value.int hi th), (Str.ofString "lo", Value.int 0 t0), (Str.ofString "x", Value.bool true), (Str.ofString "a", Value.ref a)]
  refine While_inv (fun n m news => ∃ (lo hi' : Nat) (o : Obj) (dn : List Bool), news = [(K.aa, o)] ∧ K.St (hist ++ dn) o ∧
      ((∃ u, m (Str.ofString "lo") = some (Value.int lo u)) ∧ (∃ u, m (Str.ofString "hi") = some (Value.int hi' u)) ∧ ∀ z, z ≠ Str.ofString "mid" → z ≠ Str.ofString "lo" → z ≠ Str.ofString "hi" → m z = m0 z) ∧
      bisect p chain hi = ((bis p chain n lo hi').1, dn ++ (bis p chain n lo hi').2) ∧ lo ≤ hi' ∧ hi' ≤ hi ∧ hi' - lo ≤ n) F N (n₀ := hi) ⟨0, hi, o₀, [], rfl, by simpa using hst₀, ⟨⟨_, rfl⟩, ⟨_, rfl⟩, fun _ _ _ _ => rfl⟩, rfl, by exact Mine.om22, by exact Mine.om23, by exact Mine.om24⟩ ?_
  · (intro n m₁ news₁ h₂ tk₂ F₂ N₂ q1q; refine Mine.el_E4ALALAAELAELLALALALL q1q ?_; intro lo hi' o dn rf2 hst ul hm1 uh hm2 hm3 hb h1 h2 h3; subst rf2; clear q1q)
    rw [canon3 hm3, hm1, hm2] at F₂
    clear F N
    have hfn : FnAt kq g := by
      (refine Mine.el_AELL (C) ?_; intro fd hfd _; try clear C)
      obtain ⟨c1, c2, c3, c4⟩ := fo
      subst hfd
      exact ⟨_, _, _, _, hfo'⟩
    k_steps
    · refine callWith_F (FnAt.keep hfn (Fr.keep (by k_asm))) ?_
      k_steps
      have hmid : ((lo + hi' : Int).fdiv 2).toNat = (lo + hi') / 2 := by
        rw [Int.fdiv_eq_ediv_of_nonneg _ (by decide)]; exact Mine.om25
      have hlt : lo < hi' := by exact Mine.om26 (by assumption)
      (refine Mine.el_EL (show ∃ k, n = k + 1 from (⟨n - 1, by exact Mine.om27 h3 (by assumption)⟩)) ?_; intro n rf3; subst rf3)
      simp only [bis, if_pos hlt] at hb
      rw [hmid]
      have hmem : chain.getD ((lo + hi') / 2) 0 ∈ chain := by
        have hi2 : (lo + hi') / 2 < chain.length := by exact Mine.om28 hhi h2 hlt
        rw [List.getD_eq_getElem?_getD, List.getElem?_eq_getElem hi2]
        exact List.getElem_mem _
      have hokb : K.ok (hist ++ dn ++ [p (chain.getD ((lo + hi') / 2) 0)]) := by
        rw [hb] at hok
        cases hp : p (chain.getD ((lo + hi') / 2) 0) with
        | true =>
          simp only [hp, if_true] at hok
          refine K.okp _ ((bis p chain n ((lo + hi') / 2 + 1) hi').2) ?_
          simpa using hok
        | false =>
          simp only [hp, Bool.false_eq_true, if_false] at hok
          refine K.okp _ ((bis p chain n lo ((lo + hi') / 2)).2) ?_
          simpa using hok
      refine Con.use (C.2.2 (hist ++ dn) _ _ (hV _ hmem).1 (hV _ hmem).2 hokb) (full := [(K.aa, o)]) (oth := []) B (by k_asm) X T (by k_asm) rfl rfl rfl rfl (Nat.le_of_ble_eq_true rfl) (Nat.le_of_ble_eq_true rfl) (by simp) (by simp) ⟨⟨hgl'.keep (Fr.keep (by k_asm)), o, News.get (by k_asm) (by exact mem0), hst⟩, Fr.keep (by k_asm) _ _ hfo'⟩ ?_
      (intro r h3' tk3 F3 N3 K3 q4q; refine Mine.el_ALALEALL q4q ?_; intro rf5 hgl3 o3 ho3 hst3; subst rf5; clear q4q)
      have N4 : News g L' h3' [(K.aa, o3)] := News.cons' News.nil ho3 (En.led _ _ ho₀ (by exact mem0)).2.1 (En.led _ _ ho₀ (by exact mem0)).2.2
      clear N3
      have hmid' : ((lo + hi' : Int).fdiv 2) = (((lo + hi') / 2 : Nat) : Int) := by
        rw [Int.fdiv_eq_ediv_of_nonneg _ (by decide)]; exact Mine.om29
      simp only [hmid'] at F3
      k_steps
      · rename_i hp _ _ _
        have hp' : p (chain.getD ((lo + hi') / 2) 0) = true := by
          cases q : p (chain.getD ((lo + hi') / 2) 0) with
          | true => rfl
          | false => rw [q] at hp; exact absurd hp (by decide)
        simp only [hp', if_true] at hb
        refine WhileStep.intro (by assumption) (by assumption) (n' := n) (by exact (Nat.lt_succ_self _)) ⟨(lo + hi') / 2 + 1, hi', o3, dn ++ [true], rfl, ?_, ⟨⟨_, rfl⟩, ⟨_, rfl⟩, fun z a b c => by simp only [if_neg a, if_neg b, if_neg c]⟩, ?_, by exact Mine.om19 hlt, by omega, by exact Mine.om17 h3⟩
        · rw [hp'] at hst3; simpa using hst3
        · rw [hb]; simp
      · rename_i hp _ _ _
        have hp' : p (chain.getD ((lo + hi') / 2) 0) = false := by
          cases q : p (chain.getD ((lo + hi') / 2) 0) with
          | true => rw [q] at hp; exact absurd (by decide) hp
          | false => rfl
        simp only [hp', Bool.false_eq_true, if_false] at hb
        refine WhileStep.intro (by assumption) (by assumption) (n' := n) (by exact (Nat.lt_succ_self _)) ⟨lo, (lo + hi') / 2, o3, dn ++ [false], rfl, ?_, ⟨⟨_, rfl⟩, ⟨_, rfl⟩, fun z a b c => by simp only [if_neg a, if_neg b, if_neg c]⟩, ?_, by exact Mine.om20 hlt, by exact Mine.om30 h1 h2, by exact Mine.om18 h3⟩
        · rw [hp'] at hst3; simpa using hst3
        · rw [hb]; simp
    · have hh : ¬ lo < hi' := by exact Mine.om31 (by assumption)
      rw [bis_end hh] at hb
      refine Fin.mk' (by k_asm) ⟨⟨ul, ?_⟩, ?_, ?_⟩
      · rw [hb]
      · exact hgl'.keep (Fr.keep (by k_asm))
      · exact ⟨o, News.get (by k_asm) (by exact mem0), by rw [hb]; simpa using hst⟩
end Mine

-- Ins
open PySem PySem.W PyProof.Rows
set_option Elab.async false
set_option maxRecDepth 100000
set_option maxHeartbeats 8000000
namespace Mine
open PySem.Calls PySem.Spec
section
local macro_rules | `(tactic| walk_at "And") => `(tactic| ((with_reducible show FnAt _ _ ∧ _); refine ⟨FnAt.keep (by assumption) (Fr.keep (by k_asm)), ?_⟩))
local macro_rules | `(tactic| walk_at "callWith ref") => `(tactic| ((with_reducible rename FnAt _ _ => fnX); refine callWith_F (FnAt.keep fnX (Fr.keep (by k_asm))) ?_))
local macro_rules | `(tactic| walk_at "call ref") => `(tactic| refine Hold.on ?_)
def insAt (chain : List Int) (i : Nat) (x : Int) : List Int := chain.take i ++ x :: chain.drop i
theorem insort_con (w : World) (K : Asker) (kq a : Addr) (fo : Obj) (sym : Int) (p : Int → Bool) (V : Int → Prop) (C : KeyC w kq K fo sym p V) (hist : List Bool) (chain : List Int) (hi : Nat) (t0 th tx : Tok)
    (hhi : hi ≤ chain.length) (hsz : chain.length < 1000) (hV : ∀ y ∈ chain, V y ∧ y ≠ sym) (hok : K.ok (hist ++ (bisect p chain hi).2)) (ha : a ≠ K.aa) (hk : kq ≠ K.aa) (hka : kq ≠ a) (hga : ∀ q ∈ K.gl, q.1 ≠ a) :
    Con w 830 8300 (Value.ref 30) [Value.ref a, Value.int sym tx, Value.int 0 t0, Value.int hi th] [(Str.ofString "key", Value.ref kq)] [K.aa, a]
      (fun h => K.at hist h ∧ h.get? kq = some fo ∧ ∃ vs n, h.get? a = some (lstO vs n) ∧ IntsAre vs chain)
      (fun _ _ h' => K.at (hist ++ (bisect p chain hi).2) h' ∧ ∃ vs n, h'.get? a = some (lstO vs n) ∧ IntsAre vs (insAt chain (bisect p chain hi).1 sym)) := by
  refine' Con.fnK (ho := ?o) (hcd := ?c) ?room ?bind ?loc ?cell ?co ?gen ?k ?body
  case o => k_is
  case c => k_is
  case room => decide
  case bind => intro s X; exact binds_K X rfl (by k_is) rfl rfl rfl
  case loc => rfl
  case cell => decide
  case co => rfl
  case gen => rfl
  case k => rfl
  intro p' loose mean mg mb gd env outer base g L' h₁ s tk₁ hpre En F B X T
  (refine Mine.el_AALEALLALE2ALL (hpre) ?_; intro hgl o₀ ho₀ hst₀ hfo vs nn hcl hints; try clear hpre)
  have hgl' := hgl.inn En (fun q hq => by simpa using ⟨K.off q hq, hga q hq⟩)
  have hfo' := En.inn _ _ hfo (by simpa using ⟨hk, hka⟩)
  have l1 := En.led _ _ ho₀ (by exact mem0)
  have l2 := En.led _ _ hcl (by exact mem1)
  have N : News g L' h₁ [(a, lstO vs nn), (K.aa, o₀)] := News.cons' (News.cons' News.nil l1.1 l1.2.1 l1.2.2) l2.1 l2.2.1 l2.2.2
  have hfn : FnAt kq g := by
    (refine Mine.el_AELL (C) ?_; intro fd hfd _; try clear C)
    obtain ⟨c1, c2, c3, c4⟩ := fo
    subst hfd
    exact ⟨_, _, _, _, hfo'⟩
  k_steps
  refine Hold.off ?_
  refine Con.use (C.2.1 tx) (full := [(a, lstO vs nn), (K.aa, o₀)]) (oth := [(a, lstO vs nn), (K.aa, o₀)]) B (by k_asm) X T (by k_asm) rfl rfl rfl rfl (Nat.le_of_ble_eq_true rfl) (Nat.le_of_ble_eq_true rfl) (by simp) (by simp) ⟨hgl'.keep (Fr.keep (by k_asm)), Fr.keep (by k_asm) _ _ hfo'⟩ ?_
  rintro r h2 tk2 F2 N2 K2 rfl
  clear F N
  k_steps
  refine Hold.off ?_
  refine Con.use (bisect_con w K kq a fo sym p V C hist chain hi t0 th hhi hsz hV hok ha hk) (full := [(a, lstO vs nn), (K.aa, o₀)]) (oth := [(a, lstO vs nn)]) B (by k_asm) X T (by k_asm) rfl rfl rfl rfl (Nat.le_of_ble_eq_true rfl) (Nat.le_of_ble_eq_true rfl) (by simp) (by simpa using ha) ⟨⟨hgl'.keep (Fr.keep (by k_asm)), o₀, News.get (by k_asm) (by exact mem1), hst₀⟩, Fr.keep (by k_asm) _ _ hfo', vs, nn, News.get (by k_asm) (by exact mem0), hints⟩ ?_
  (intro r h3 tk3 F3 N3 K3 q1q; refine Mine.el_AELALEALL q1q ?_; intro u rf2 hgl3 o3 ho3 hst3; subst rf2; clear q1q)
  have N4 : News g L' h3 [(a, lstO vs nn), (K.aa, o3)] := News.cons' (News.cons' News.nil ho3 l1.2.1 l1.2.2) (N3.get (by exact mem0)) l2.2.1 l2.2.2
  clear F2 N2 N3
  k_steps
  have hpos : (bisect p chain hi).1 ≤ hi := bis_le _ _ _ (by exact Mine.om22)
  have hlen := hints.length
  refine kl_insert (by k_asm) (by k_asm) ?_ rfl (Upd.head (by simpa using fun q => ha q.symm)) ?_ ?_
  · simp only [Builtin.List.listFitsIndex, Bool.and_eq_true, decide_eq_true_eq]; exact Mine.om32 hhi hsz hpos
  · show vs.length ≤ sizeLine
    have : sizeLine = 16777216 := rfl
    exact Nat.le_trans (Nat.le_of_lt (Nat.lt_of_le_of_lt (Nat.le_of_eq hlen) hsz)) (of_decide_eq_true rfl)
  · intro h5 F5 N5
    k_steps
    refine Fin.mk' (by k_asm) ⟨⟨hgl'.keep (Fr.keep (by k_asm)), o3, News.get (by k_asm) (by exact mem1), hst3⟩, _, _, News.get (by k_asm) (List.Mem.head _), ?_⟩
    have e : kl_ins vs ((bisect p chain hi).1 : Int) (Value.int sym tx) = vs.take (bisect p chain hi).1 ++ Value.int sym tx :: vs.drop (bisect p chain hi).1 := by
      unfold kl_ins
      rw [if_neg (by exact Mine.om33), show min ((bisect p chain hi).1 : Int).toNat vs.length = (bisect p chain hi).1 by exact Mine.om34 hhi hpos hlen]
    show IntsAre (kl_ins vs ((bisect p chain hi).1 : Int) (Value.int sym tx)) _
    rw [e]
    exact (hints.take _).append (.cons _ _ (hints.drop _))
end
end Mine

-- Put
open PySem PySem.W PyProof.Rows
set_option Elab.async false
set_option maxRecDepth 100000
set_option maxHeartbeats 8000000
namespace Mine
open PySem.Calls PySem.Spec

def RefsT (tl : List (Addr × Obj)) (refs : List Value) (R : List (Int × Int)) : Prop :=
  refs.length = R.length ∧ ∀ (i : Nat) (a b : Int), R[i]? = some (a, b) → ∃ q t u n, refs[i]? = some (Value.ref q) ∧ (q, tupO [Value.int a t, Value.int b u] n) ∈ tl
theorem RefsT.are {h : Heap} {tl : List (Addr × Obj)} {refs : List Value} {R : List (Int × Int)} (x : RefsT tl refs R) (g : GL tl h) : RefsAre h refs R :=
  ⟨x.1, fun i a b e => let ⟨q, t, u, n, e1, e2⟩ := x.2 i a b e; ⟨q, t, u, n, e1, g _ e2⟩⟩
theorem RefsAre.tl {h : Heap} {refs : List Value} {R : List (Int × Int)} (x : RefsAre h refs R) : ∃ tl, GL tl h ∧ (∀ q ∈ tl, ∃ vs n, q.2 = tupO vs n) ∧ RefsT tl refs R := by
  let tl : List (Addr × Obj) := refs.filterMap fun v => match v with | .ref q => (h.get? q).map fun o => (q, o) | _ => none
  have hm : ∀ q o, Value.ref q ∈ refs → h.get? q = some o → (q, o) ∈ tl := fun q o h1 h2 => List.mem_filterMap.mpr ⟨_, h1, by simp [h2]⟩
  refine ⟨tl, ?_, ?_, x.1, ?_⟩
  · intro p hp
    (refine Mine.el_EALL (List.mem_filterMap.mp hp) ?_; intro v hv e)
    cases v <;> simp at e
    (refine Mine.el_EALL (e) ?_; intro o ho rf2; subst rf2; try clear e)
    exact ho
  · intro p hp
    (refine Mine.el_EALL (List.mem_filterMap.mp hp) ?_; intro v hv e)
    cases v <;> simp at e
    (refine Mine.el_EALL (e) ?_; intro o ho rf2; subst rf2; try clear e)
    obtain ⟨i, hi, hq⟩ := List.getElem_of_mem hv
    obtain ⟨⟨a, b⟩, hR⟩ : ∃ p, R[i]? = some p := ⟨_, List.getElem?_eq_getElem (x.1 ▸ hi)⟩
    (refine Mine.el_E4ALL (x.2 i a b hR) ?_; intro q' t u n e1 e2)
    rw [List.getElem?_eq_getElem hi, hq] at e1
    cases e1
    rw [ho] at e2
    exact ⟨_, _, Option.some.inj e2⟩
  · intro i a b e
    (refine Mine.el_E4ALL (x.2 i a b e) ?_; intro q t u n e1 e2)
    exact ⟨q, t, u, n, e1, hm _ _ (List.mem_of_getElem? e1) e2⟩

abbrev putQ : Str := Str.ofString "_law_put_in.<locals>.<lambda>"
def PutTab (h : Heap) : Prop := ∃ o, h.get? 162 = some o ∧ TabOk h 162 194 43 putQ o
section
local macro_rules | `(tactic| walk_at "And") => `(tactic| ((with_reducible show FnAt _ _ ∧ _); refine ⟨FnAt.keep (by assumption) (Fr.keep (by k_asm)), ?_⟩))
local macro_rules | `(tactic| walk_at "callWith ref") => `(tactic| ((with_reducible rename FnAt _ _ => fnX); refine callWith_F (FnAt.keep fnX (Fr.keep (by k_asm))) ?_))
local macro_rules | `(tactic| walk_at "call ref") => `(tactic| refine Hold.on ?_)
local macro_rules | `(tactic| walk_at "eval Lambda") => `(tactic| refine Hold.on ?_)
theorem Key.at {w : World} {f : Addr} {K : Asker} {fo : Obj} {sym : Int} {p : Int → Bool} {V : Int → Prop} {h : Heap} (_ : h.get? f = some fo) (k : KeyC w f K fo sym p V) : KeyC w f K fo sym p V := k
local macro_rules | `(tactic| walk_at "eval Name") => `(tactic| (k_here; k_dflt (refine' nameX_FH ?F ?c ?v ?d ?_ ?hk ?hx; (case hk => rfl); (case hx => rfl); (case F => k_asm); (case c => rfl); (case v => with_reducible assumption); (case d => with_reducible assumption); k_whole)))
local macro_rules | `(tactic| walk_at "ite") => `(tactic| refine ite_pos (by simp only [decide_true]; done) ?_)
local macro_rules | `(tactic| walk_at "eval Name") => `(tactic| ((with_reducible show wpAny _ _ (eval (PySem.Expr.Name (PySem.Str.ofString "ask") _) _) _ _ _); refine Hold.on ?_))
theorem put_con (w : World) (K : Asker) (ask ra a : Addr) (R : List (Int × Int)) (V : Int → Prop) (C : AskC w ask K V) (hist : List Bool) (chain : List Int) (sym : Int) (hi : Nat) (ts th : Tok)
    (W : WFR R) (hR : R.length < 1000) (hsym : 0 ≤ sym ∧ sym < 256 + (R.length : Int) ∧ V (deep R sym)) (hch : ∀ y ∈ chain, (0 ≤ y ∧ y < 256 + (R.length : Int) ∧ V (deep R y)) ∧ y ≠ sym)
    (hhi : hi ≤ chain.length) (hsz : chain.length < 1000) (hok : K.ok (hist ++ (bisect (fun y => decide (deep R y < deep R sym)) chain hi).2))
    (h1 : (a : Nat) ≠ K.aa) (h2 : (ra : Nat) ≠ K.aa) (h3 : (ra : Nat) ≠ a) (h4 : (K.aa : Nat) ≠ 162) (h5 : (a : Nat) ≠ 162) (h6 : ∀ q ∈ K.gl, q.1 ≠ a ∧ q.1 ≠ 162) :
    Con w 800 8000 (Value.ref 167) [Value.ref a, Value.int sym ts, Value.int hi th, Value.ref ra, Value.ref ask] [] [K.aa, a, 162]
      (fun h => K.at hist h ∧ RulesAt h ra R ∧ (∃ vs n, h.get? a = some (lstO vs n) ∧ IntsAre vs chain) ∧ PutTab h)
      (fun _ _ h' => K.at (hist ++ (bisect (fun y => decide (deep R y < deep R sym)) chain hi).2) h' ∧
        (∃ vs n, h'.get? a = some (lstO vs n) ∧ IntsAre vs (insAt chain (bisect (fun y => decide (deep R y < deep R sym)) chain hi).1 sym)) ∧ PutTab h') := by
  refine' Con.fnC (ho := ?o) (hcd := ?c) ?room ?bind ?kind ?nd ?co ?gen ?k ?body
  case o => k_is
  case c => k_is
  case room => decide
  case bind => intro s _; exact BindsTo.of_eq rfl
  case kind => rfl
  case nd => decide +kernel
  case co => rfl
  case gen => rfl
  case k => rfl
  intro p' loose mean mg mb gd env outer base g L' h₁ s tk₁ cells hpre En F NC Y hcf B X T
  (refine Mine.el_AALEALLAE2ALLAE2ALLEALL (hpre) ?_; intro hgl o₀ ho₀ hst₀ refs rn hra hrefs vs nn hcl hints to hto htab; try clear hpre)
  have hgl' : GL K.gl g := hgl.inn En (fun q hq => by have := h6 q hq; have := K.off q hq; simp_all)
  (refine Mine.el_EALALL (hrefs.tl) ?_; intro tl htl htt hreft)
  have l1 := En.led _ _ ho₀ (by exact mem0)
  have l2 := En.led _ _ hcl (by exact mem1)
  have l3 := En.led _ _ hto (by exact mem2)
  have q1 := ltN (En.lt ho₀)
  have q2 := ltN (En.lt hcl)
  have q3 := ltN (En.lt hto)
  have q4 := neN h4
  have q5 := neN h5
  have q6 := neN h1
  (refine Mine.el_E2L (K.lst _ _ hst₀) ?_; intro sv sn hsv)
  have htab' : TabOk g 162 194 43 putQ to := htab.keep fun b o fv hd hP hb => En.inn _ _ hb (by
    intro hm
    simp only [List.mem_cons, List.not_mem_nil, or_false] at hm
    rcases hm with rfl | rfl | rfl
    · rw [ho₀] at hb; cases hb; rw [hsv] at hd; cases hd
    · rw [hcl] at hb; cases hb; cases hd
    · exact hP rfl)
  have hto' : ∃ its, to = tabObj its := by
    rcases htab with e | ⟨_, _, _, _, e, _⟩
    · exact ⟨_, e⟩
    · exact ⟨_, e⟩
  (refine Mine.el_EL (hto') ?_; intro its hits; try clear hto')
  have q7 : ra ≠ 162 := fun e => by rw [e, hto, hits] at hra; cases hra
  have hra' : g.get? ra = some (lstO refs rn) := En.inn _ _ hra (by simp only [List.mem_cons, List.not_mem_nil, or_false]; rintro (e | e | e); exact h2 e; exact h3 e; exact q7 e)
  have toff : ∀ q ∈ tl, q.1 ≠ K.aa ∧ q.1 ≠ a ∧ q.1 ≠ 162 := fun q hq => by
    (refine Mine.el_E2L (htt q hq) ?_; intro v1 n1 e1)
    have e2 := htl q hq
    rw [e1] at e2
    refine ⟨fun e => ?_, fun e => ?_, fun e => ?_⟩
    · rw [e, ho₀, hsv] at e2; simp at e2
    · rw [e, hcl] at e2; simp at e2
    · rw [e, hto, hits] at e2; cases e2
  have htl' : GL tl g := htl.inn En fun q hq => by
    have := toff q hq
    simp only [List.mem_cons, List.not_mem_nil, or_false]; rintro (e | e | e); exact this.1 e; exact this.2.1 e; exact this.2.2 e
  k_cells Y
  rename_i onew oask orul osym dnew dask drul dsym
  have N := News.app NC (News.cons' (News.cons' (News.cons' News.nil l1.1 l1.2.1 l1.2.2) l2.1 l2.2.1 l2.2.2) l3.1 l3.2.1 l3.2.2)
  simp only [List.cons_append, List.nil_append] at N
  have hfn : FnAt ask g := FnAt.gl C.1 hgl'
  k_steps
  refine Hold.off ?_
  refine Con.use0 (deepest_con w R ra sym ts W hsym.1 hsym.2.1 hR) B (by k_asm) X T (by k_asm) rfl rfl rfl rfl (Nat.le_of_ble_eq_true rfl) (Nat.le_of_ble_eq_true rfl) ⟨refs, rn, Fr.keep (by k_asm) _ _ hra', hreft.are (htl'.keep (Fr.keep (by k_asm)))⟩ ?_
  (intro r h2' tk2 F2 N2 K2 q1q; refine Mine.el_EL q1q ?_; intro u rf2; subst rf2; clear q1q)
  clear F N
  k_steps
  refine Hold.off ?_
  refine' kla_eval ?d0 ?_
  case d0 => exact rfl
  rename_i hnew onew2 F2' N2' dnew2
  refine' lam_any (L := L') (P := 162) (to := to) ?F ?N T ?C ?cd ?tab ?U ?cl ?_
  case F => k_asm
  case N => k_asm
  case C => exact codeHd_of_K (c := 166) (P := 162) X (by kernel_rfl)
  case cd => exact rfl
  case tab => exact htab'
  case U => k_updF
  case cl => exact rfl
  intro f' c' oc vs' t' ctv h' tk' to' F3 N3 hc' hd' hv' hP' hto3 l4
  k_lt l4
  k_steps
  refine Hold.off ?_
  have hfo := News.first N3
  have e4 := News.get N3 (a := L' + 1 + 1 + 1 + 1) (o := onew2) (by exact mem1)
  have e3 := News.get N3 (a := L' + 1 + 1 + 1) (o := oask) (by exact mem2)
  have e2 := News.get N3 (a := L' + 1 + 1) (o := orul) (by exact mem3)
  have e1 := News.get N3 (a := L' + 1) (o := osym) (by exact mem4)
  have dask' : oask.data = .cell (some (Value.ref ask)) := dask
  have drul' : orul.data = .cell (some (Value.ref ra)) := drul
  have dsym' : osym.data = .cell (some (Value.int sym ts)) := dsym
  have hK : GL K.gl h' := hgl'.keep (Fr.keep F3)
  have hT2 : GL tl h' := htl'.keep (Fr.keep F3)
  have hra3 := Fr.keep F3 _ _ hra'
  have G := (hK.app hT2).app (GL.cons hra3 (GL.cons hc' (GL.cons hfo (GL.cons e4 (GL.cons e3 (GL.cons e2 (GL.cons e1 GL.nil)))))))
  generalize hgg : (K.gl ++ tl ++ (ra, lstO refs rn) :: (c', oc) :: _) = gg at G
  have eaa := News.get N3 (a := K.aa) (o := o₀) (by exact mem7)
  have ea := News.get N3 (a := a) (o := lstO vs nn) (by exact mem6)
  have off : ∀ q ∈ gg, q.1 ≠ K.aa ∧ q.1 ≠ a := by
    intro q hq
    rw [← hgg] at hq
    simp only [List.mem_append, List.mem_cons, List.not_mem_nil, or_false] at hq
    rcases hq with (hq | hq) | rfl | rfl | rfl | rfl | rfl | rfl | rfl
    · exact ⟨K.off q hq, (h6 q hq).1⟩
    · exact ⟨(toff q hq).1, (toff q hq).2.1⟩
    · exact ⟨h2, h3⟩
    · refine ⟨fun e => ?_, fun e => ?_⟩
      · have e : c' = K.aa := e
        rw [e, eaa, hsv] at hc'; cases hc'; cases hd'
      · have e : c' = a := e
        rw [e, ea] at hc'; cases hc'; cases hd'
    · exact ⟨neN (a := f') (b := K.aa) (by exact Nat.ne_of_gt l4.2.2.2.2.2.2), neN (a := f') (b := a) (by exact Nat.ne_of_gt l4.2.2.2.2.2.1)⟩
    · exact ⟨neN (a := L' + 1 + 1 + 1 + 1) (b := K.aa) (by exact Mine.om35 q1), neN (a := L' + 1 + 1 + 1 + 1) (b := a) (by exact Mine.om35 q2)⟩
    · exact ⟨neN (a := L' + 1 + 1 + 1) (b := K.aa) (by exact Mine.om36 q1), neN (a := L' + 1 + 1 + 1) (b := a) (by exact Mine.om36 q2)⟩
    · exact ⟨neN (a := L' + 1 + 1) (b := K.aa) (by exact Mine.om37 q1), neN (a := L' + 1 + 1) (b := a) (by exact Mine.om37 q2)⟩
    · exact ⟨neN (a := L' + 1) (b := K.aa) (by exact Nat.ne_of_gt (Nat.lt_trans q1 (Nat.lt_succ_self _))), neN (a := L' + 1) (b := a) (by exact Nat.ne_of_gt (Nat.lt_trans q2 (Nat.lt_succ_self _)))⟩
  have mK : ∀ q ∈ K.gl, q ∈ gg := fun q hq => by rw [← hgg]; simp [hq]
  have mT : ∀ q ∈ tl, q ∈ gg := fun q hq => by rw [← hgg]; simp [hq]
  have mr : (ra, lstO refs rn) ∈ gg := by rw [← hgg]; simp
  have mc : (c', oc) ∈ gg := by rw [← hgg]; simp
  have m4 : (L' + 1 + 1 + 1 + 1, onew2) ∈ gg := by rw [← hgg]; simp
  have m3 : (L' + 1 + 1 + 1, oask) ∈ gg := by rw [← hgg]; simp
  have m2 : (L' + 1 + 1, orul) ∈ gg := by rw [← hgg]; simp
  have m1 : (L' + 1, osym) ∈ gg := by rw [← hgg]; simp
  have C' := C.more gg (fun q hq => (off q hq).1) mK
  have KC := Key.at (w := w) (K := K.more gg fun q hq => (off q hq).1) (sym := sym) (p := fun y => decide (deep R y < deep R sym)) (V := fun y => 0 ≤ y ∧ y < 256 + (R.length : Int) ∧ V (deep R y)) hfo (by
    clear hfo F3 N3 e1 e2 e3 e4 hK hT2 hra3 eaa ea hfn T X
    refine ⟨⟨_, rfl⟩, fun t => ?_, fun hist y t hy hne hok' => ?_⟩
    · refine' Con.lam (hfn := ?afn) ?aroom ?abind ?aloc ?acell ?aco ?agen ?ak ?abody
      case afn => exact fun h hp => ⟨hp.2, c', oc, vs', t', rfl, hp.1 _ mc, hd', hv'⟩
      case aroom => decide
      case abind => rfl
      case aloc => exact locs rfl
      case acell => decide
      case aco => rfl
      case agen => rfl
      case ak => rfl
      intro p2 loose2 mean2 mg2 mb2 gd2 env2 outer2 base2 g2 L2 h2 s2 tk2 hpre En2 F2 B2 X2 T2
      have N2 : News g2 L2 h2 [] := News.nil
      have z1 : g2.get? (L' + 1) = some osym := En2.inn _ _ (hpre.1 _ m1) (by simp)
      k_steps
      · exact Fin.mk' F2 (by simp)
      · next hq => simp at hq
    · refine' Con.lam (hfn := ?bfn) ?broom ?bbind ?bloc ?bcell ?bco ?bgen ?bk ?bbody
      case bfn => exact fun h hp => ⟨hp.2, c', oc, vs', t', rfl, hp.1.1 _ mc, hd', hv'⟩
      case broom => decide
      case bbind => rfl
      case bloc => exact locs rfl
      case bcell => decide
      case bco => rfl
      case bgen => rfl
      case bk => rfl
      intro p2 loose2 mean2 mg2 mb2 gd2 env2 outer2 base2 g2 L2 h2 s2 tk2 hpre En2 F2 B2 X2 T2
      (refine Mine.el_AALEALLL (hpre) ?_; intro hg5 o5 ho5 hst5 hf5; try clear hpre)
      have hgg2 : GL gg g2 := GL.inn hg5 En2 (fun q hq hm => (off q hq).1 (List.mem_singleton.mp hm))
      have l5 := En2.led _ _ ho5 (by exact mem0)
      have N2 : News g2 L2 h2 [(K.aa, o5)] := News.cons' News.nil l5.1 l5.2.1 l5.2.2
      have z1 : g2.get? (L' + 1) = some osym := hgg2 _ m1
      have z2 : g2.get? (L' + 1 + 1) = some orul := hgg2 _ m2
      have z3 : g2.get? (L' + 1 + 1 + 1) = some oask := hgg2 _ m3
      have z4 : g2.get? (L' + 1 + 1 + 1 + 1) = some onew2 := hgg2 _ m4
      have hfn2 : FnAt ask g2 := FnAt.gl C'.1 hgg2
      k_steps
      · next hq => exact absurd (by simpa using hq) hne
      · refine Hold.off ?_
        refine' nameX_FH ?iF ?ic ?iv ?id ?_ ?ihk ?ihx
        case ihk => rfl
        case ihx => rfl
        case iF => exact F2
        case ic => rfl
        case iv => exact z3
        case id => exact dask'
        k_steps
        refine Hold.off ?_
        refine Con.use0 (deepest_con w R ra y t W hy.1 hy.2.1 hR) B2 (by k_asm) X2 T2 (by k_asm) rfl rfl rfl rfl (Nat.le_of_ble_eq_true rfl) (Nat.le_of_ble_eq_true rfl) ⟨refs, rn, Fr.keep (by k_asm) _ _ (hgg2 _ mr), hreft.are (GL.keep (fun q hq => hgg2 q (mT q hq)) (Fr.keep (by k_asm)))⟩ ?_
        (intro r h6 tk6 F6 N6 K6 q3q; refine Mine.el_EL q3q ?_; intro u6 rf4; subst rf4; clear q3q)
        clear F2 N2
        k_steps
        refine Hold.off ?_
        refine Con.use (C'.2 hist (deep R y) (deep R sym) _ _ hy.2.2 hsym.2.2 hok') (full := [(K.aa, o5)]) (oth := []) B2 (by k_asm) X2 T2 (by k_asm) rfl rfl rfl rfl (Nat.le_of_ble_eq_true rfl) (Nat.le_of_ble_eq_true rfl) (by simp [Asker.more]) (by simp) ⟨hgg2.keep (Fr.keep (by k_asm)), o5, News.get (by k_asm) (by simp [Asker.more]), hst5⟩ ?_
        (intro r h7 tk7 F7 N7 K7 q5q; refine Mine.el_ALL q5q ?_; intro rf6 hat7; subst rf6; clear q5q)
        k_steps
        exact Fin.mk' F7 ⟨rfl, hat7⟩)
  refine Con.use (insort_con w (K.more gg fun q hq => (off q hq).1) f' a _ sym (fun y => decide (deep R y < deep R sym)) (fun y => 0 ≤ y ∧ y < 256 + (R.length : Int) ∧ V (deep R y)) KC hist chain hi _ th ts hhi hsz hch hok h1 ?k1 ?k2 (fun q hq => (off q hq).2)) (full := _) (oth := [(162, to')]) B F3 X T N3 rfl rfl rfl rfl (Nat.le_of_ble_eq_true rfl) (Nat.le_of_ble_eq_true rfl) ?f1 ?f2 ⟨⟨G, o₀, eaa, hst₀⟩, hfo, vs, nn, ea, hints⟩ ?ret
  case k1 => exact neN (a := f') (b := K.aa) (by exact Nat.ne_of_gt l4.2.2.2.2.2.2)
  case k2 => exact neN (a := f') (b := a) (by exact Nat.ne_of_gt l4.2.2.2.2.2.1)
  case f1 =>
    intro b hb
    simp only [List.mem_cons, List.not_mem_nil, or_false] at hb
    rcases hb with rfl | rfl
    · exact ⟨o₀, by simp [Asker.more]⟩
    · exact ⟨lstO vs nn, by exact mem6⟩
  case f2 =>
    intro b hb
    simp only [List.mem_cons, List.not_mem_nil, or_false] at hb
    subst hb
    refine ⟨by exact mem5, ?_⟩
    simp only [List.mem_cons, List.not_mem_nil, or_false]
    rintro (e | e)
    · exact h4 e.symm
    · exact h5 e.symm
  case ret =>
    (intro r h9 tk9 F9 N9 K9 q7q; refine Mine.el_AALEALLE2ALL q7q ?_; intro hgl9 o9 ho9 hst9 vs9 n9 hcl9 hints9; clear q7q)
    k_steps
    refine Fin.mk' F9 ⟨⟨fun q hq => hgl9 q (mK q hq), o9, ho9, hst9⟩, ⟨vs9, n9, hcl9, hints9⟩, to', News.first N9, .inr ⟨c', oc, vs', t', hto3, hgl9 _ mc, hd', hv', hP'⟩⟩
end
end Mine

-- Loop
open PySem PySem.W PyProof.Rows
set_option Elab.async false
set_option maxRecDepth 100000
set_option maxHeartbeats 8000000
namespace Mine
open PySem.Calls PySem.Spec
theorem Fr.map_of {g : Heap} {L : Addr} {h : Heap} {m : Str → Option Value} (_ : Fr g L h m) : ∃ m', m' = m := ⟨_, rfl⟩
theorem News.hd {h₀ h : Heap} {L : Addr} {p : Addr × Obj} {l : List (Addr × Obj)} (N : News h₀ L h (p :: l)) : h.get? p.1 = some p.2 ∧ p.1 ≠ L ∧ h₀.get? p.1 = none := N p (.head _)
theorem News.tl {h₀ h : Heap} {L : Addr} {p : Addr × Obj} {l : List (Addr × Obj)} (N : News h₀ L h (p :: l)) : News h₀ L h l := fun q hq => N q (.tail _ hq)
/-- what stands in a ledger's open tail: tuples, and the lambda's code object -/
def TailOk (q : Addr × Obj) : Prop := (∃ vs n, q.2 = tupO vs n) ∨ (q.1 ≠ 162 ∧ ∃ (fv : Array Value) (x : Str) (t : Tok), q.2.data = .fields fv ∧ fv[1]? = some (.str x t))
def NotTail (o : Obj) : Prop := (∀ vs n, o ≠ tupO vs n) ∧ ∀ (fv : Array Value) (x : Str) (t : Tok), o.data = .fields fv → fv[1]? ≠ some (.str x t)
theorem NotTail.list {vs : List Value} {n : Nat} : NotTail (lstO vs n) := ⟨fun _ _ e => by simp at e, fun _ _ _ e => by cases e⟩
theorem TailOk.ne {q : Addr × Obj} {h : Heap} {a : Addr} {o : Obj} (x : TailOk q) (hq : h.get? q.1 = some q.2) (ho : h.get? a = some o) (hn : NotTail o) : q.1 ≠ a := by
  intro e
  rw [e, ho] at hq
  have hq := Option.some.inj hq
  rcases x with ⟨vs, n, y⟩ | ⟨_, fv, s, t, y, z⟩
  · exact hn.1 vs n (hq.trans y)
  · exact hn.2 fv s t (by rw [hq]; exact y) z
def RgMark : Prop := True
theorem RgMark.mk : RgMark := trivial

def TurnEnd (h₀ : Heap) (L I : Addr) (io : Obj) (J : (Str → Option Value) → List (Addr × Obj) → Prop) (s₁ s₂ : Shared) : Prop :=
  ∃ h' tk m' news', s₂ = { s₁ with heap := h', toks := tk } ∧ Fr h₀ L h' m' ∧ News h₀ L h' ((I, io) :: news') ∧ (∀ p ∈ news', p.1 ≠ I) ∧ J m' news'
def TurnPost (h₀ : Heap) (L I : Addr) (io : Obj) (J : (Str → Option Value) → List (Addr × Obj) → Prop) (s₁ : Shared) (Q : Flow → Shared → Prop) (f : Flow) (s₂ : Shared) : Prop :=
  match f with
  | .ret v => Q (.ret v) s₂
  | .brk => Q .next s₂
  | _ => TurnEnd h₀ L I io J s₁ s₂
section
variable {prog : Program} {w : World} {A : Around} {E : Value → Shared → Prop} {s : Shared} {env : Env} {h₀ : Heap} {x : Str} {body : List Stmt} {Q : Flow → Shared → Prop}
theorem TurnPost.next {L I : Addr} {io : Obj} {J : (Str → Option Value) → List (Addr × Obj) → Prop} {s₁ : Shared} {h' : Heap} {tk : Nat} {m' : Str → Option Value} {news news' : List (Addr × Obj)}
    (F : Fr h₀ L h' m') (N : News h₀ L h' news) (hs : ∀ p ∈ (I, io) :: news', p ∈ news) (hI : ∀ p ∈ news', p.1 ≠ I) (hJ : J m' news') : TurnPost h₀ L I io J s₁ Q .next { s₁ with heap := h', toks := tk } :=
  ⟨h', tk, m', news', rfl, F, fun p hp => N p (hs p hp), hI, hJ⟩

theorem my_range {r : Addr} {a₀ b₀ c : Int} {t₀ u₀ v₀ : Tok} {n : Nat} {m₀ : Str → Option Value} {news : List (Addr × Obj)} (J : Nat → (Str → Option Value) → List (Addr × Obj) → Prop)
    (hh : A.handled = none) (hr : IsRange s.heap r a₀ b₀ c t₀ u₀ v₀) (hsmall : Builtin.Range.small a₀ b₀ c = true) (hn : Builtin.Range.rangeSize a₀ b₀ c = (n : Int)) (F : Fr h₀ env.locals s.heap m₀) (N : News h₀ env.locals s.heap news) (hJ0 : J 0 m₀ news)
    (turn : ∀ i m₁ news₁ I io t h tk, i < n → NotTail io → J i m₁ news₁ → (∀ p ∈ news₁, p.1 ≠ I) → (∀ p ∈ news, p.1 < I) → Fr h₀ env.locals h (fun y => if y = x then some (.int (a₀ + (i : Int) * c) t) else m₁ y) → News h₀ env.locals h ((I, io) :: news₁) →
      wpAny (model prog w) A (execs body env) (TurnPost h₀ env.locals I io (J (i + 1)) { s with heap := h, toks := tk } Q) E { s with heap := h, toks := tk })
    (done : ∀ m' news' h tk, J n m' news' → Fr h₀ env.locals h m' → News h₀ env.locals h news' → Q .next { s with heap := h, toks := tk }) :
    wpAny (model prog w) A (pyIter (.ref r)) (fun it s₂ => LoopAtV prog w A h₀ env x body Q E it s₂) E s := by
  refine wpAny_pyIter_range hr hsmall ?_
  have hlt : ∀ p ∈ news, p.1 < s.heap.objs.size := fun p hp => Heap.lt_size (N p hp).1
  have W : Walks prog w A s.heap.objs.size [s.heap.objs.size] [s.heap.objs.size] n (fun i v => i < n ∧ ∃ t, v = .int (a₀ + i * c) t)
      (fun i h => IsRangeIter h s.heap.objs.size (a₀ + (i : Nat) * c) ((n : Int) - (i : Nat)) c) := (Walks.range hh _ a₀ c n).bound
  have hnew := next_is_new F
  refine ⟨_, _, _, n, _, _, m₀, news, J, rfl, W, ?_, ?_, ?_, (by show IsRangeIter _ _ _ _ _; rw [hn]; simpa using Heap.get?_push_size _ rfl), F.push _, (fun p hp => ⟨Heap.get?_push_of_some _ (N p hp).1, (N p hp).2⟩), hJ0, ?_, ?_⟩
  · intro hm
    exact absurd F.ns.lt ((List.mem_singleton.mp hm) ▸ Nat.lt_irrefl _)
  · intro b hb
    rw [List.mem_singleton.mp hb]
    exact hnew
  · intro p hp hI
    exact absurd (Heap.lt_size (N p hp).1) ((List.mem_singleton.mp hI) ▸ Nat.lt_irrefl _)
  · (intro i v m₁ news₁ s₁ own q1q hin q3q hJ hoff hown hget hall hst F₁ N₁; refine Mine.el_E2L q1q ?_; intro hh' tk' rf2; subst rf2; clear q1q; refine Mine.el_ALEL q3q ?_; intro _ t rf4; subst rf4; clear q3q)
    have hst' : hh'.get? s.heap.objs.size = some (krsIt (a₀ + ((i + 1 : Nat) : Int) * c) ((n : Int) - ((i + 1 : Nat) : Int)) c) := hst
    have hmem := hall s.heap.objs.size (List.mem_singleton.mpr rfl) hnew _ hst'
    have hoff' : ∀ p ∈ news₁, p.1 ≠ s.heap.objs.size := fun p hp e => hoff p hp (List.mem_singleton.mpr e)
    have N₂ : News h₀ env.locals hh' ((s.heap.objs.size, krsIt (a₀ + ((i + 1 : Nat) : Int) * c) ((n : Int) - ((i + 1 : Nat) : Int)) c) :: news₁) := fun p hp => by
      rcases List.mem_cons.mp hp with rfl | hp
      · exact N₁ _ (List.mem_append_left _ hmem)
      · exact N₁ _ (List.mem_append_right _ hp)
    refine wpAny_mono (turn i m₁ news₁ _ _ t hh' tk' hin ⟨fun _ _ e => by simp [krsIt] at e, fun fv x t e => by simp [krsIt] at e; subst e; simp [rawInt]⟩ hJ hoff' hlt F₁ N₂) (fun f s₂ p => ?_) fun _ _ e => e
    have fin : TurnEnd h₀ env.locals s.heap.objs.size (krsIt (a₀ + ((i + 1 : Nat) : Int) * c) ((n : Int) - ((i + 1 : Nat) : Int)) c) (J (i + 1)) { s with heap := hh', toks := tk' } s₂ →
        LoopStepU h₀ env.locals [s.heap.objs.size] own (J (i + 1)) { s with heap := hh', toks := tk' } .next s₂ := by
      (intro q5q; refine Mine.el_E4ALALALALL q5q ?_; intro h' tk m' news' e F' N' ho r; clear q5q)
      refine ⟨rfl, h', tk, m', news', e, F', fun p hp => ?_, fun p hp hI => ho p hp (List.mem_singleton.mp hI), r⟩
      rcases List.mem_append.mp hp with hp | hp
      · have h1 : p.1 = s.heap.objs.size := List.mem_singleton.mp (hown p hp)
        have h2 : hh'.get? p.1 = some p.2 := hget p hp
        have h3 : p = (s.heap.objs.size, krsIt (a₀ + ((i + 1 : Nat) : Int) * c) ((n : Int) - ((i + 1 : Nat) : Int)) c) := by
          rw [h1, hst'] at h2
          exact Prod.ext h1 (Option.some.inj h2).symm
        rw [h3]; exact N' _ (List.mem_cons_self ..)
      · exact N' _ (List.mem_cons_of_mem _ hp)
    cases f with
    | ret v => exact .ret p
    | brk => exact .brk p
    | next => exact .next (fin p)
    | cont => exact .cont (fin p)
  · rintro h' tk m' news' F' N' _ hJ
    exact done m' news' h' tk hJ F' N'

theorem my_tuple {ax : Addr} {lo : Obj} {vs : List Value} {nn : Nat} {m₀ : Str → Option Value} {news : List (Addr × Obj)} (J : Nat → (Str → Option Value) → List (Addr × Obj) → Prop)
    (hh : A.handled = none) (F : Fr h₀ env.locals s.heap m₀) (N : News h₀ env.locals s.heap news) (hc : lo.cls = .type "tuple") (hd : lo.data = .seq vs.toArray nn) (hJax : ∀ i m nx, J i m nx → (ax, lo) ∈ nx) (hJ0 : J 0 m₀ news)
    (turn : ∀ i v m₁ news₁ I io h tk, i < vs.length → vs[i]? = some v → NotTail io → J i m₁ news₁ → (∀ p ∈ news₁, p.1 ≠ I) → (∀ p ∈ news, p.1 < I) → Fr h₀ env.locals h (fun y => if y = x then some v else m₁ y) → News h₀ env.locals h ((I, io) :: news₁) →
      wpAny (model prog w) A (execs body env) (TurnPost h₀ env.locals I io (J (i + 1)) { s with heap := h, toks := tk } Q) E { s with heap := h, toks := tk })
    (done : ∀ m' news' h tk, J vs.length m' news' → Fr h₀ env.locals h m' → News h₀ env.locals h news' → Q .next { s with heap := h, toks := tk }) :
    wpAny (model prog w) A (pyIter (.ref ax)) (fun it s₂ => LoopAtV prog w A h₀ env x body Q E it s₂) E s := by
  have hax := N _ (hJax _ _ _ hJ0)
  have hl : s.heap.IsTuple ax vs.toArray := ⟨lo, hax.1, hc, nn, hd⟩
  have hlt1 : ax < s.heap.objs.size := Heap.lt_size hax.1
  have hne : ax ≠ s.heap.objs.size := Nat.ne_of_lt hlt1
  refine wpAny_pyIter_tuple hl ?_
  have hlt : ∀ p ∈ news, p.1 < s.heap.objs.size := fun p hp => Heap.lt_size (N p hp).1
  have W := Walks.tuple (prog := prog) (w := w) hh s.heap.objs.size ax hne vs.toArray
  have hnew := next_is_new F
  have hsz : vs.toArray.size = vs.length := by simp
  rw [hsz] at W
  refine ⟨_, _, _, vs.length, _, _, m₀, news, J, rfl, W, ?_, ?_, ?_, ⟨⟨_, Heap.get?_push_size _ rfl, rfl, rfl⟩, ⟨lo, Heap.get?_push_of_some _ hax.1, hc, nn, hd⟩⟩, F.push _, (fun p hp => ⟨Heap.get?_push_of_some _ (N p hp).1, (N p hp).2⟩), hJ0, ?_, ?_⟩
  · intro hm
    rcases List.mem_cons.mp hm with e | hm
    · exact absurd F.ns.lt (e ▸ Nat.lt_irrefl _)
    · exact hax.2.1 (List.mem_singleton.mp hm).symm
  · intro b hb
    rw [List.mem_singleton.mp hb]
    exact hnew
  · intro p hp hI
    exact absurd (Heap.lt_size (N p hp).1) ((List.mem_singleton.mp hI) ▸ Nat.lt_irrefl _)
  · (intro i v m₁ news₁ s₁ own q6q hin hP hJ hoff hown hget hall hst F₁ N₁; refine Mine.el_E2L q6q ?_; intro hh' tk' rf7; subst rf7; clear q6q)
    (refine Mine.el_AEALALLL (id hst) ?_; intro io hio hioc hiod _)
    have hmem := hall s.heap.objs.size (List.mem_cons_self ..) hnew _ hio
    have hoff' : ∀ p ∈ news₁, p.1 ≠ s.heap.objs.size := fun p hp e => hoff p hp (List.mem_singleton.mpr e)
    have N₂ : News h₀ env.locals hh' ((s.heap.objs.size, io) :: news₁) := fun p hp => by
      rcases List.mem_cons.mp hp with rfl | hp
      · exact N₁ _ (List.mem_append_left _ hmem)
      · exact N₁ _ (List.mem_append_right _ hp)
    have haxi : hh'.get? ax = some lo := (N₂ _ (.tail _ (hJax _ _ _ hJ))).1
    refine wpAny_mono (turn i v m₁ news₁ _ _ hh' tk' hin (by simpa using hP) ⟨fun _ _ e => (by rw [e] at hiod; simp at hiod), fun fv x t e => (by rw [hiod] at e; cases e; simp [rawInt])⟩ hJ hoff' hlt F₁ N₂) (fun f s₂ p => ?_) fun _ _ e => e
    have fin : TurnEnd h₀ env.locals s.heap.objs.size io (J (i + 1)) { s with heap := hh', toks := tk' } s₂ →
        LoopStepU h₀ env.locals [s.heap.objs.size] own (J (i + 1)) { s with heap := hh', toks := tk' } .next s₂ := by
      (intro q8q; refine Mine.el_E4ALALALALL q8q ?_; intro h' tk m' news' e F' N' ho r; clear q8q)
      refine ⟨rfl, h', tk, m', news', e, F', fun p hp => ?_, fun p hp hI => ho p hp (List.mem_singleton.mp hI), r⟩
      rcases List.mem_append.mp hp with hp | hp
      · have h2 : hh'.get? p.1 = some p.2 := hget p hp
        rcases List.mem_cons.mp (hown p hp) with h1 | h1
        · have h3 : p = (s.heap.objs.size, io) := by
            rw [h1, hio] at h2
            exact Prod.ext h1 (Option.some.inj h2).symm
          rw [h3]; exact N' _ (List.mem_cons_self ..)
        · have h1 := List.mem_singleton.mp h1
          have h3 : p = (ax, lo) := by
            rw [h1, haxi] at h2
            exact Prod.ext h1 (Option.some.inj h2).symm
          rw [h3]; exact N' _ (List.mem_cons_of_mem _ (hJax _ _ _ r))
      · exact N' _ (List.mem_cons_of_mem _ hp)
    cases f with
    | ret v => exact .ret p
    | brk => exact .brk p
    | next => exact .next (fin p)
    | cont => exact .cont (fin p)
  · rintro h' tk m' news' F' N' _ hJ
    exact done m' news' h' tk hJ F' N'
end
def Mid (s : Shared) (P : Heap → Prop) (fl : Flow) (s' : Shared) : Prop := fl = Flow.next ∧ ∃ h' tk, s' = { s with heap := h', toks := tk } ∧ P h'
theorem Mid.mk' {s : Shared} {P : Heap → Prop} {h' : Heap} {tk : Nat} (p : P h') : Mid s P Flow.next { s with heap := h', toks := tk } := ⟨rfl, h', tk, rfl, p⟩
def IfMark : Prop := True
theorem IfMark.mk : IfMark := trivial

section
variable {prog : Program} {w : World} {A : Around} {E : Value → Shared → Prop} {s : Shared} {q : Addr} {vs : List Value} {n : Nat} {v : Value} {k : Int} {u : Tok} {Q : Value → Shared → Prop} {value slice : PySem.Expr}
theorem sub_list_h (hl : s.heap.get? q = some (lstO vs n)) (h0 : 0 ≤ k) (hhi : k < 2 ^ 63) (hx : vs[k.toNat]? = some v) (h : Q v s)
    (hs : subscripted slice false (.ref q) (.int k u) = operate [.ref q, .int k u] (getItem (.ref q) (.int k u)) := by with_unfolding_all rfl) :
    wpAny (model prog w) A (subscriptTail value slice (.ref q) (.int k u)) Q E s :=
  have hL : s.heap.IsList q vs.toArray := ⟨_, hl, rfl, n, rfl⟩
  tail_any hL.typeIs slot_list_getitem.lookup (wpAny_getItem_list hL h0 hhi (by simpa using hx) h) hs
theorem sub_tup_h {j : Nat} (hl : s.heap.get? q = some (tupO vs n)) (hlo : -(2 ^ 63) ≤ k) (hhi : k < 2 ^ 63) (hj : seqIndex? k vs.length = some j) (hx : vs[j]? = some v) (h : Q v s)
    (hs : subscripted slice false (.ref q) (.int k u) = operate [.ref q, .int k u] (getItem (.ref q) (.int k u)) := by with_unfolding_all rfl) :
    wpAny (model prog w) A (subscriptTail value slice (.ref q) (.int k u)) Q E s :=
  item_tupleT ⟨_, hl, rfl, n, rfl⟩ hlo hhi hj hx h hs
end
end Mine

-- Pure
open PySem PySem.W PyProof.Rows
set_option Elab.async false
set_option maxRecDepth 100000
set_option maxHeartbeats 8000000
namespace Mine

def newRule (R : List (Int × Int)) (row : List Int) (i : Nat) : Int × Int :=
  if deep R (row.getD (2 * i) 0) < deep R (row.getD (2 * i + 1) 0) then (row.getD (2 * i) 0, row.getD (2 * i + 1) 0) else (row.getD (2 * i + 1) 0, row.getD (2 * i) 0)
def newRules (R : List (Int × Int)) (row : List Int) (k : Nat) : List (Int × Int) := (List.range k).map (newRule R row)
def newAns (R : List (Int × Int)) (row : List Int) (k : Nat) : List Bool := (List.range k).map fun i => decide (deep R (row.getD (2 * i) 0) < deep R (row.getD (2 * i + 1) 0))
def newSyms (R : List (Int × Int)) (k : Nat) : List Int := (List.range k).map fun (i : Nat) => (256 + (R.length : Int) + (i : Int) : Int)
def ruleAt (R : List (Int × Int)) (x : Int) : Int × Int := R.getD (x - 256).toNat (0, 0)
def placeOf (partners chain : List Int) (k : Nat) : Nat := if k < partners.length then chain.idxOf (partners.getD k 0) else chain.length
def askOf (R : List (Int × Int)) (x : Int) : Int → Bool := fun y => decide (deep R y < deep R x)
def putOne (R : List (Int × Int)) (partners late chain : List Int) (k : Nat) : List Int × List Bool :=
  (insAt chain (bisect (askOf R (late.getD k 0)) chain (placeOf partners chain k)).1 (late.getD k 0), (bisect (askOf R (late.getD k 0)) chain (placeOf partners chain k)).2)
def putAll (R : List (Int × Int)) (partners late : List Int) : List Nat → List Int → List Int × List Bool
  | [], chain => (chain, [])
  | k :: ks, chain => ((putAll R partners late ks (putOne R partners late chain k).1).1, (putOne R partners late chain k).2 ++ (putAll R partners late ks (putOne R partners late chain k).1).2)
def seg (done size n : Nat) : List Nat := (List.range (min (done + size) n - done)).map fun i => min (done + size) n - 1 - i
def ksOf (n : Nat) : List Nat := seg 1 2 n ++ (seg 3 2 n ++ seg 5 6 n)
def lateOf (R : List (Int × Int)) (row ps : List Int) : List Int := ps.map (fun p => (ruleAt R p).1) ++ (if row.length % 2 = 1 then [row.getD (row.length - 1) 0] else [])
def partOf (R : List (Int × Int)) (ps : List Int) : List Int := ps.map (fun p => (ruleAt R p).2)
def inOrder : Nat → List Int → List (Int × Int) → List Int × List (Int × Int) × List Bool
  | 0, row, R => (row, R, [])
  | f + 1, row, R => if row.length < 2 then (row, R, []) else
    let r := inOrder f (newSyms R (row.length / 2)) (R ++ newRules R row (row.length / 2))
    let c := putAll r.2.1 (partOf r.2.1 r.1) (lateOf r.2.1 row r.1) (ksOf (lateOf r.2.1 row r.1).length) ((lateOf r.2.1 row r.1).getD 0 0 :: partOf r.2.1 r.1)
    (c.1, r.2.1, newAns R row (row.length / 2) ++ r.2.2 ++ c.2)

/-- what a row must be -/
structure InPre (R : List (Int × Int)) (V : Int → Prop) (row : List Int) : Prop where
  wf : WFR R
  ok : ∀ x ∈ row, 0 ≤ x ∧ x < 256 + (R.length : Int) ∧ V (deep R x)
  nd : (row.map (deep R)).Nodup

end Mine

namespace Mine
theorem deep_app {R S : List (Int × Int)} (W : WFR (R ++ S)) {x : Int} (h0 : 0 ≤ x) (h1 : x < 256 + (R.length : Int)) : deep (R ++ S) x = deep R x := by
  have key : ∀ (f : Nat) (y : Int), 0 ≤ y → y < 256 + (R.length : Int) → deepF (R ++ S) f y = deepF R f y := by
    intro f
    induction f with
    | zero => intro y _ _; rfl
    | succ f ih =>
      intro y hy0 hy1
      simp only [deepF]
      split
      · rfl
      · rename_i h
        have hi : (y - 256).toNat < R.length := by exact Mine.om2 hy1 h
        have e : (R ++ S).getD (y - 256).toNat (0, 0) = R.getD (y - 256).toNat (0, 0) := by
          simp only [List.getD_eq_getElem?_getD]
          rw [List.getElem?_append_left hi]
        rw [e]
        have hW := W (y - 256).toNat (R.getD (y - 256).toNat (0, 0)).1 (R.getD (y - 256).toNat (0, 0)).2 (by
          rw [List.getElem?_append_left hi, List.getElem?_eq_getElem hi, List.getD_eq_getElem?_getD, List.getElem?_eq_getElem hi]; rfl)
        exact ih _ hW.2.2.1 (by exact Mine.om3 hi hW.2.2.2)
  unfold deep
  rw [← key R.length x h0 h1]
  exact deepF_more W _ _ _ h0 (by simp; exact Mine.om38 h1) (by simp; exact Mine.om39 h1) (by exact Mine.om40 h1)

theorem wf_new {R : List (Int × Int)} {V : Int → Prop} {row : List Int} (h : InPre R V row) {k : Nat} (hk : k ≤ row.length / 2) : WFR (R ++ newRules R row k) := by
  intro i a b e
  by_cases hi : i < R.length
  · rw [List.getElem?_append_left hi] at e
    exact h.wf i a b e
  · rw [List.getElem?_append_right (by exact (Nat.le_of_not_lt hi))] at e
    unfold newRules at e
    rw [List.getElem?_map] at e
    have hj : i - R.length < k := by
      by_cases q : i - R.length < k
      · exact q
      · rw [List.getElem?_eq_none (by simp; exact (Nat.le_of_not_lt q))] at e; cases e
    rw [List.getElem?_range hj] at e
    simp only [Option.map_some, Option.some.injEq] at e
    have m1 : row.getD (2 * (i - R.length)) 0 ∈ row := by
      rw [List.getD_eq_getElem?_getD, List.getElem?_eq_getElem (by exact Mine.om41 hk hj)]; exact List.getElem_mem _
    have m2 : row.getD (2 * (i - R.length) + 1) 0 ∈ row := by
      rw [List.getD_eq_getElem?_getD, List.getElem?_eq_getElem (by exact Mine.om42 hk hj)]; exact List.getElem_mem _
    have v1 := h.ok _ m1
    have v2 := h.ok _ m2
    unfold newRule at e
    split at e
    · cases e; exact Mine.om43 hi v1.1 v1.2.1 v2.1 v2.2.1
    · cases e; exact Mine.om44 hi v1.1 v1.2.1 v2.1 v2.2.1

theorem newAns_split (R : List (Int × Int)) (row : List Int) {i m : Nat} (h : i < m) :
    ∃ rest, newAns R row m = newAns R row i ++ [decide (deep R (row.getD (2 * i) 0) < deep R (row.getD (2 * i + 1) 0))] ++ rest := by
  refine ⟨(newAns R row m).drop (i + 1), ?_⟩
  have e : newAns R row i ++ [decide (deep R (row.getD (2 * i) 0) < deep R (row.getD (2 * i + 1) 0))] = (newAns R row m).take (i + 1) := by
    unfold newAns
    rw [← List.map_take, List.take_range, Nat.min_eq_left (by exact Mine.om45 h), List.range_succ, List.map_append]
    rfl
  rw [e, List.take_append_drop]
theorem newAns_succ (R : List (Int × Int)) (row : List Int) (i : Nat) : newAns R row (i + 1) = newAns R row i ++ [decide (deep R (row.getD (2 * i) 0) < deep R (row.getD (2 * i + 1) 0))] := by
  unfold newAns; rw [List.range_succ, List.map_append]; rfl
theorem newRules_succ (R : List (Int × Int)) (row : List Int) (i : Nat) : newRules R row (i + 1) = newRules R row i ++ [newRule R row i] := by
  unfold newRules; rw [List.range_succ, List.map_append]; rfl
theorem newSyms_succ (R : List (Int × Int)) (i : Nat) : newSyms R (i + 1) = newSyms R i ++ [(256 + (R.length : Int) + (i : Int) : Int)] := by
  unfold newSyms; rw [List.range_succ, List.map_append]; rfl
end Mine

namespace Mine
theorem RefsT.snoc {tl tl' : List (Addr × Obj)} {refs : List Value} {R : List (Int × Int)} {a b : Int} {q : Addr} {t u : Tok} {n : Nat} (x : RefsT tl refs R) (hm : (q, tupO [Value.int a t, Value.int b u] n) ∈ tl') (hs : ∀ p ∈ tl, p ∈ tl') : RefsT tl' (refs ++ [Value.ref q]) (R ++ [(a, b)]) := by
  refine ⟨by simp [x.1], fun i a' b' e => ?_⟩
  by_cases hi : i < R.length
  · rw [List.getElem?_append_left hi] at e
    (refine Mine.el_E4ALL (x.2 i a' b' e) ?_; intro q' t' u' n' e1 e2)
    exact ⟨q', t', u', n', by rw [List.getElem?_append_left (by rw [x.1]; exact hi)]; exact e1, hs _ e2⟩
  · rw [List.getElem?_append_right (by exact (Nat.le_of_not_lt hi))] at e
    have hi' : i - R.length = 0 := by
      by_cases q : i - R.length = 0
      · exact q
      · rw [List.getElem?_eq_none (by simp; exact Mine.om46 q)] at e; cases e
    rw [hi'] at e
    cases e
    exact ⟨q, t, u, n, by rw [List.getElem?_append_right (by rw [x.1]; exact (Nat.le_of_not_lt hi)), x.1, hi']; rfl, hm⟩
end Mine

namespace Mine
theorem split_tl {g h : Heap} {L : Addr} {m : Str → Option Value} (F : Fr g L h m) {refs : List Value} {R : List (Int × Int)} (x : RefsAre h refs R) :
    ∃ ta tb, GL ta g ∧ News g L h tb ∧ (∀ q ∈ tb, ∃ vs n, q.2 = tupO vs n) ∧ RefsT (ta ++ tb) refs R := by
  (refine Mine.el_EALALL (x.tl) ?_; intro tl h1 h2 h3)
  refine ⟨tl.filter (fun q => (g.get? q.1).isSome), tl.filter (fun q => !(g.get? q.1).isSome), ?_, ?_, ?_, h3.1, ?_⟩
  · intro q hq
    (refine Mine.el_ALL (List.mem_filter.mp hq) ?_; intro hq hs)
    (refine Mine.el_EL (Option.isSome_iff_exists.mp hs) ?_; intro o ho)
    have := F.keep _ _ ho
    rw [h1 q hq] at this
    rw [ho]; exact this.symm
  · intro q hq
    (refine Mine.el_ALL (List.mem_filter.mp hq) ?_; intro hq hs)
    refine ⟨h1 q hq, ?_, ?_⟩
    · (refine Mine.el_E2L (h2 q hq) ?_; intro v n e)
      have := h1 q hq
      rw [e] at this
      exact Fr.ne_seq F this
    · cases q0 : g.get? q.1 with
      | none => rfl
      | some o => rw [q0] at hs; simp at hs
  · intro q hq
    exact h2 q (List.mem_filter.mp hq).1
  · intro i a b e
    (refine Mine.el_E4ALL (h3.2 i a b e) ?_; intro q t u n e1 e2)
    refine ⟨q, t, u, n, e1, List.mem_append.mpr ?_⟩
    by_cases hs : (g.get? q).isSome = true
    · exact .inl (List.mem_filter.mpr ⟨e2, hs⟩)
    · exact .inr (List.mem_filter.mpr ⟨e2, by simpa using hs⟩)
theorem newRule_idx (R : List (Int × Int)) (row : List Int) (i : Nat) : ∃ p q, (p = 2 * i ∧ q = 2 * i + 1 ∨ p = 2 * i + 1 ∧ q = 2 * i) ∧ newRule R row i = (row.getD p 0, row.getD q 0) ∧ deep R (row.getD p 0) ≤ deep R (row.getD q 0) := by
  unfold newRule
  split
  · exact ⟨2 * i, 2 * i + 1, .inl ⟨rfl, rfl⟩, rfl, by exact Mine.om47 (by assumption)⟩
  · exact ⟨2 * i + 1, 2 * i, .inr ⟨rfl, rfl⟩, rfl, by exact Mine.om48 (by assumption)⟩
theorem getD_mem' {l : List Int} {i : Nat} (hi : i < l.length) : l.getD i 0 ∈ l := by
  rw [List.getD_eq_getElem?_getD, List.getElem?_eq_getElem hi]; exact List.getElem_mem _
theorem new_at (R : List (Int × Int)) (row : List Int) {k i : Nat} (hi : i < k) : (R ++ newRules R row k)[((256 + (R.length : Int) + (i : Int) : Int) - 256).toNat]? = some (newRule R row i) := by
  have e : ((256 + (R.length : Int) + (i : Int) : Int) - 256).toNat = R.length + i := by exact Mine.om49
  rw [e, List.getElem?_append_right (by exact Mine.om50)]
  unfold newRules
  rw [List.getElem?_map, Nat.add_sub_cancel_left, List.getElem?_range hi]
  rfl
theorem deep_new {R : List (Int × Int)} {V : Int → Prop} {row : List Int} (h : InPre R V row) {i : Nat} (hi : i < row.length / 2) :
    deep (R ++ newRules R row (row.length / 2)) (256 + (R.length : Int) + (i : Int)) = deep R (newRule R row i).2 := by
  have W := wf_new h (Nat.le_refl _)
  rw [deep_step W (by exact Mine.om51) (new_at R row hi) (a := (newRule R row i).1) (b := (newRule R row i).2)]
  (refine Mine.el_E2ALALL (newRule_idx R row i) ?_; intro p q hpq e _)
  have hq : q < row.length := by exact Mine.om52 hi hpq
  rw [e]
  have := h.ok _ (getD_mem' hq)
  exact deep_app W this.1 this.2.1
theorem deep_inj {R : List (Int × Int)} {V : Int → Prop} {row : List Int} (h : InPre R V row) {p q : Nat} (hp : p < row.length) (hq : q < row.length) (e : deep R (row.getD p 0) = deep R (row.getD q 0)) : p = q := by
  have nd := h.nd
  have hp' : p < (row.map (deep R)).length := by simpa using hp
  have hq' : q < (row.map (deep R)).length := by simpa using hq
  refine (List.getElem_inj (h₀ := hp') (h₁ := hq') nd).mp ?_
  rw [List.getElem_map, List.getElem_map]
  rw [List.getD_eq_getElem?_getD, List.getElem?_eq_getElem hp, List.getD_eq_getElem?_getD, List.getElem?_eq_getElem hq] at e
  exact e
theorem nodup_map_of {α : Type} {l : List Nat} (nd : l.Nodup) {f : Nat → α} (inj : ∀ i ∈ l, ∀ j ∈ l, f i = f j → i = j) : (l.map f).Nodup := by
  unfold List.Nodup
  rw [List.pairwise_map]
  exact List.Pairwise.imp_of_mem (fun ha hb hne e => hne (inj _ ha _ hb e)) nd
theorem pre_new {R : List (Int × Int)} {V : Int → Prop} {row : List Int} (h : InPre R V row) : InPre (R ++ newRules R row (row.length / 2)) V (newSyms R (row.length / 2)) where
  wf := wf_new h (Nat.le_refl _)
  ok := by
    intro x hx
    unfold newSyms at hx
    (refine Mine.el_EALL (List.mem_map.mp hx) ?_; intro i hi rf2; subst rf2)
    have hi := List.mem_range.mp hi
    refine ⟨by exact Mine.om53, by simp [newRules]; exact Mine.om54 hi, ?_⟩
    rw [deep_new h hi]
    (refine Mine.el_E2ALALL (newRule_idx R row i) ?_; intro p q hpq e _)
    rw [e]
    exact (h.ok _ (getD_mem' (by omega))).2.2
  nd := by
    unfold newSyms
    rw [List.map_map]
    refine nodup_map_of List.nodup_range ?_
    intro i hi j hj e
    have hi := List.mem_range.mp hi
    have hj := List.mem_range.mp hj
    simp only [Function.comp] at e
    rw [deep_new h hi, deep_new h hj] at e
    (refine Mine.el_E2ALALL (newRule_idx R row i) ?_; intro p q hpq e1 _)
    (refine Mine.el_E2ALALL (newRule_idx R row j) ?_; intro p' q' hpq' e2 _)
    rw [e1, e2] at e
    have := deep_inj h (by exact Mine.om52 hi hpq) (by exact Mine.om52 hj hpq') e
    exact Mine.om55 hpq hpq' this
end Mine

namespace Mine
structure OrdOk (R : List (Int × Int)) (row : List Int) (r : List Int × List (Int × Int) × List Bool) : Prop where
  perm : r.1.Perm row
  ext : ∃ S, r.2.1 = R ++ S ∧ S.length ≤ row.length
  wf : WFR r.2.1
theorem ruleAt_some {R : List (Int × Int)} {x : Int} (h0 : 256 ≤ x) (h1 : x < 256 + (R.length : Int)) : R[(x - 256).toNat]? = some (ruleAt R x) := by
  unfold ruleAt
  have hi : (x - 256).toNat < R.length := by exact Mine.om56 h0 h1
  rw [List.getD_eq_getElem?_getD, List.getElem?_eq_getElem hi]; rfl
end Mine

namespace Mine
theorem off1_ne {D : Addr} : ∀ {l : List (Addr × Obj)}, LCg.Off1 D l → ∀ p ∈ l, p.1 ≠ D
  | [], _, _, hp => nomatch hp
  | q :: r, h, p, hp => by
    rcases List.mem_cons.mp hp with rfl | hp
    · exact h.1
    · exact off1_ne h.2 p hp
theorem allLt_lt {D : Addr} : ∀ {l : List (Addr × Obj)}, AllLt D l → ∀ p ∈ l, @LT.lt Nat _ p.1 D
  | [], _, _, hp => nomatch hp
  | q :: r, h, p, hp => by
    rcases List.mem_cons.mp hp with rfl | hp
    · exact h.1
    · exact allLt_lt h.2 p hp
end Mine

namespace Mine
theorem lateOf_length (R : List (Int × Int)) (row ps : List Int) (h : ps.length = row.length / 2) : (lateOf R row ps).length = row.length / 2 + row.length % 2 := by
  unfold lateOf
  rw [List.length_append, List.length_map, h]
  split
  · simp; exact Mine.om57 (by assumption)
  · simp; exact Mine.om58 (by assumption)
theorem partOf_length (R : List (Int × Int)) (ps : List Int) : (partOf R ps).length = ps.length := by simp [partOf]
end Mine

namespace Mine
open PySem PySem.W PyProof.Rows
/-- the table, its code object on the ground or in the ledger's tail -/
def TabG (g : Heap) (tl : List (Addr × Obj)) (o : Obj) : Prop :=
  o = tabObj #[] ∨ ∃ c' oc vs t, o = tabObj #[rawInt 194, rawInt 43, .ref c'] ∧ (g.get? c' = some oc ∨ (c', oc) ∈ tl) ∧ oc.data = .fields vs ∧ vs[1]? = some (.str putQ t) ∧ c' ≠ 162
theorem TabG.ok {g h : Heap} {L : Addr} {m : Str → Option Value} {tl : List (Addr × Obj)} {o : Obj} (x : TabG g tl o) (F : Fr g L h m) (N : News g L h tl) : TabOk h 162 194 43 putQ o := by
  rcases x with e | ⟨c', oc, vs, t, e, hc, hd, hv, hP⟩
  · exact .inl e
  · refine .inr ⟨c', oc, vs, t, e, ?_, hd, hv, hP⟩
    rcases hc with hc | hc
    · exact F.keep _ _ hc
    · exact (N _ hc).1
theorem TabG.of {g h : Heap} {L : Addr} {m : Str → Option Value} {tl : List (Addr × Obj)} {o : Obj} (x : TabOk h 162 194 43 putQ o) (F : Fr g L h m) (N : News g L h tl) (ht : ∀ q ∈ tl, TailOk q) :
    ∃ tl', News g L h tl' ∧ (∀ q ∈ tl, q ∈ tl') ∧ (∀ q ∈ tl', TailOk q) ∧ TabG g tl' o := by
  rcases x with e | ⟨c', oc, vs, t, e, hc, hd, hv, hP⟩
  · exact ⟨tl, N, fun _ h => h, ht, .inl e⟩
  · cases hg : g.get? c' with
    | some o2 =>
      have := F.keep _ _ hg
      rw [hc] at this
      exact ⟨tl, N, fun _ h => h, ht, .inr ⟨c', oc, vs, t, e, .inl (by rw [hg]; exact this.symm), hd, hv, hP⟩⟩
    | none =>
      refine ⟨(c', oc) :: tl, News.cons' N hc ?_ hg, fun _ h => .tail _ h, ?_, .inr ⟨c', oc, vs, t, e, .inr (.head _), hd, hv, hP⟩⟩
      · rintro rfl
        (refine Mine.el_E3ALALL (F.ns) ?_; intro oL es ep hL hLd _)
        rw [hc] at hL; cases hL; rw [hd] at hLd; cases hLd
      · intro q hq
        rcases List.mem_cons.mp hq with rfl | hq
        · exact .inr ⟨hP, vs, putQ, t, hd, hv⟩
        · exact ht q hq
theorem RefsT.mono {tl tl' : List (Addr × Obj)} {refs : List Value} {R : List (Int × Int)} (x : RefsT tl refs R) (hs : ∀ p ∈ tl, p ∈ tl') : RefsT tl' refs R :=
  ⟨x.1, fun i a b e => let ⟨q, t, u, n, e1, e2⟩ := x.2 i a b e; ⟨q, t, u, n, e1, hs _ e2⟩⟩

def dOf (i : Nat) : Nat := ([1, 3, 5, 11] : List Nat).getD i 0
def sOf (i : Nat) : Nat := ([2, 2, 6] : List Nat).getD i 0
def ksPre (n : Nat) : Nat → List Nat
  | 0 => []
  | 1 => seg 1 2 n
  | 2 => seg 1 2 n ++ seg 3 2 n
  | _ => ksOf n
theorem ksPre_succ (n i : Nat) (hi : i < 3) : ksPre n (i + 1) = ksPre n i ++ seg (dOf i) (sOf i) n := by
  match i, hi with
  | 0, _ => rfl
  | 1, _ => rfl
  | 2, _ => simp [ksPre, ksOf, dOf, sOf]
theorem putAll_snoc (R : List (Int × Int)) (P L : List Int) (k : Nat) : ∀ (ks : List Nat) (c : List Int), putAll R P L (ks ++ [k]) c =
    ((putOne R P L (putAll R P L ks c).1 k).1, (putAll R P L ks c).2 ++ (putOne R P L (putAll R P L ks c).1 k).2)
  | [], c => by simp [putAll]
  | k' :: ks, c => by
    simp only [List.cons_append, putAll]
    rw [putAll_snoc R P L k ks]
    simp
theorem putAll_app (R : List (Int × Int)) (P L : List Int) : ∀ (ks ks' : List Nat) (c : List Int), ∃ r, (putAll R P L (ks ++ ks') c).2 = (putAll R P L ks c).2 ++ r
  | [], ks', c => ⟨_, by simp [putAll]; rfl⟩
  | k :: ks, ks', c => by
    (refine Mine.el_EL (putAll_app R P L ks ks' (putOne R P L c k).1) ?_; intro r hr)
    exact ⟨r, by simp only [List.cons_append, putAll]; rw [hr, List.append_assoc]⟩
theorem seg_length (d s n : Nat) : (seg d s n).length = min (d + s) n - d := by simp [seg]
theorem seg_get (d s n i : Nat) (h : i < min (d + s) n - d) : (seg d s n).take (i + 1) = (seg d s n).take i ++ [min (d + s) n - 1 - i] := by
  unfold seg
  rw [List.take_add_one, List.getElem?_map, List.getElem?_range h]
  rfl

/-- what the plan of the insertions must be -/
structure Plan (RR : List (Int × Int)) (V : Int → Prop) (L P : List Int) : Prop where
  ok : ∀ x ∈ L ++ P, 0 ≤ x ∧ x < 256 + (RR.length : Int) ∧ V (deep RR x)
  nd : (L ++ P).Nodup
  len : P.length ≤ L.length
  le : L.length ≤ 11
  pos : 0 < L.length
theorem insAt_perm (c : List Int) (i : Nat) (x : Int) : (insAt c i x).Perm (x :: c) := by
  unfold insAt
  have h1 := List.perm_middle (a := x) (l₁ := c.take i) (l₂ := c.drop i)
  rwa [List.take_append_drop] at h1
theorem putAll_perm (R : List (Int × Int)) (P L : List Int) : ∀ (ks : List Nat) (c : List Int), (putAll R P L ks c).1.Perm (c ++ ks.map fun k => L.getD k 0)
  | [], c => by simp [putAll]
  | k :: ks, c => by
    simp only [putAll, List.map_cons]
    refine (putAll_perm R P L ks _).trans ?_
    have h2 : (putOne R P L c k).1.Perm (L.getD k 0 :: c) := insAt_perm _ _ _
    refine (List.Perm.append_right _ h2).trans ?_
    exact List.perm_middle.symm
end Mine

namespace Mine
theorem mem_seg {d s n k : Nat} (h : k ∈ seg d s n) : d ≤ k ∧ k < min (d + s) n := by
  unfold seg at h
  (refine Mine.el_EALL (List.mem_map.mp h) ?_; intro i hi rf2; subst rf2)
  have := List.mem_range.mp hi
  exact Mine.om59 this
theorem mem_seg_take {d s n k j : Nat} (hj : j < min (d + s) n - d) (h : k ∈ (seg d s n).take j) : k ≠ min (d + s) n - 1 - j ∧ d ≤ k ∧ k < min (d + s) n := by
  have h2 := mem_seg (List.mem_of_mem_take h)
  unfold seg at h
  rw [← List.map_take, List.take_range] at h
  (refine Mine.el_EALL (List.mem_map.mp h) ?_; intro i hi rf2; subst rf2)
  have := List.mem_range.mp hi
  exact Mine.om60 hj this
theorem mem_ksPre {n i k : Nat} (hi : i < 3) (h : k ∈ ksPre n i) : 0 < k ∧ k < dOf i ∧ k < n := by
  match i, hi with
  | 0, _ => cases h
  | 1, _ =>
    have := mem_seg h
    simp only [dOf, List.getD_eq_getElem?_getD]
    simp
    exact Mine.om61 this.1 this.2
  | 2, _ =>
    rcases List.mem_append.mp h with h | h
    · have := mem_seg h
      simp only [dOf, List.getD_eq_getElem?_getD]
      simp
      exact Mine.om62 this.1 this.2
    · have := mem_seg h
      simp only [dOf, List.getD_eq_getElem?_getD]
      simp
      exact Mine.om63 this.1 this.2
theorem dOf_pos {i : Nat} (hi : i < 3) : 0 < dOf i ∧ dOf i ≤ 5 ∧ sOf i ≤ 6 ∧ dOf (i + 1) = dOf i + sOf i := by
  match i, hi with
  | 0, _ => decide
  | 1, _ => decide
  | 2, _ => decide

theorem nodup_getD_ne {l : List Int} (h : l.Nodup) {i j : Nat} (hi : i < l.length) (hj : j < l.length) (hne : i ≠ j) : l.getD i 0 ≠ l.getD j 0 := by
  rw [List.getD_eq_getElem?_getD, List.getD_eq_getElem?_getD, List.getElem?_eq_getElem hi, List.getElem?_eq_getElem hj]
  simp only [Option.getD_some]
  intro e
  exact hne ((List.getElem_inj h).mp e)
theorem getD_mem {l : List Int} {i : Nat} (hi : i < l.length) : l.getD i 0 ∈ l := by
  rw [List.getD_eq_getElem?_getD, List.getElem?_eq_getElem hi]; exact List.getElem_mem _

theorem plan_step {RR : List (Int × Int)} {V : Int → Prop} {L P : List Int} (Pl : Plan RR V L P) {ks : List Nat} {k : Nat} (hks : ∀ k' ∈ ks, 0 < k' ∧ k' < L.length ∧ k' ≠ k) (hk : 0 < k ∧ k < L.length) (hl : ks.length ≤ 50) :
    (∀ y ∈ (putAll RR P L ks (L.getD 0 0 :: P)).1, (0 ≤ y ∧ y < 256 + (RR.length : Int) ∧ V (deep RR y)) ∧ y ≠ L.getD k 0) ∧ (k < P.length → P.getD k 0 ∈ (putAll RR P L ks (L.getD 0 0 :: P)).1) ∧
      (putAll RR P L ks (L.getD 0 0 :: P)).1.length < 100 ∧ (0 ≤ L.getD k 0 ∧ L.getD k 0 < 256 + (RR.length : Int) ∧ V (deep RR (L.getD k 0))) := by
  have hp := putAll_perm RR P L ks (L.getD 0 0 :: P)
  have nd := List.nodup_append.mp Pl.nd
  have hkm : L.getD k 0 ∈ L := getD_mem hk.2
  refine ⟨fun y hy => ?_, fun h => ?_, ?_, Pl.ok _ (List.mem_append_left _ hkm)⟩
  · have hy := hp.mem_iff.mp hy
    rcases List.mem_append.mp hy with hy | hy
    · rcases List.mem_cons.mp hy with rfl | hy
      · exact ⟨Pl.ok _ (List.mem_append_left _ (getD_mem Pl.pos)), nodup_getD_ne nd.1 Pl.pos hk.2 (by exact Nat.ne_of_lt hk.1)⟩
      · exact ⟨Pl.ok _ (List.mem_append_right _ hy), fun e => nd.2.2 _ hkm _ hy e.symm⟩
    · (refine Mine.el_EALL (List.mem_map.mp hy) ?_; intro k' hk' rf2; subst rf2)
      have := hks k' hk'
      exact ⟨Pl.ok _ (List.mem_append_left _ (getD_mem this.2.1)), nodup_getD_ne nd.1 this.2.1 hk.2 this.2.2⟩
  · exact hp.mem_iff.mpr (List.mem_append_left _ (.tail _ (getD_mem h)))
  · rw [hp.length_eq]
    have := Pl.len
    have := Pl.le
    simp
    exact Mine.om64 hl (by assumption) this
end Mine


namespace Mine
open PySem PySem.W PyProof.Rows PySem.Calls PySem.Spec
theorem kf_ints_of {vs : List Value} {ns : List Int} (h : IntsAre vs ns) : kf_ints vs = true := by
  induction h with
  | nil => rfl
  | cons n t h ih => exact ih
theorem kf_at_of {k : Int} : ∀ {vs : List Value} {ns : List Int}, IntsAre vs ns → k ∈ ns → kf_at k vs = some (ns.idxOf k)
  | _, _, .nil, h => nomatch h
  | _, _, .cons (vs := vs) (ns := ns) n t hi, h => by
    unfold kf_at
    by_cases e : n = k
    · subst e; simp [isInt]
    · have hm : k ∈ ns := by
        rcases List.mem_cons.mp h with q | q
        · exact absurd q.symm e
        · exact q
      have hb : isInt k (Value.int n t) = false := by simp [isInt, e]
      rw [hb, kf_at_of hi hm, List.idxOf_cons, beq_false_of_ne e]
      rfl
end Mine

namespace Mine
open PySem PySem.W PyProof.Rows PySem.Calls PySem.Spec
theorem TailOk.ne162 {q : Addr × Obj} {h : Heap} {its : Array Value} (x : TailOk q) (hq : h.get? q.1 = some q.2) (ho : h.get? 162 = some (tabObj its)) : q.1 ≠ 162 := by
  rcases x with ⟨vs, n, y⟩ | ⟨hn, _⟩
  · intro e
    rw [e, ho, y] at hq
    cases hq
  · exact hn
theorem TabG.tab {g : Heap} {tl : List (Addr × Obj)} {o : Obj} (x : TabG g tl o) : ∃ its, o = tabObj its := by
  rcases x with e | ⟨_, _, _, _, e, _⟩
  · exact ⟨_, e⟩
  · exact ⟨_, e⟩
theorem ksPre_prefix (n i : Nat) (hi : i < 3) : ∃ r, ksOf n = ksPre n (i + 1) ++ r := by
  match i, hi with
  | 0, _ => exact ⟨seg 3 2 n ++ seg 5 6 n, rfl⟩
  | 1, _ => exact ⟨seg 5 6 n, by simp [ksPre, ksOf]⟩
  | 2, _ => exact ⟨[], by simp [ksPre]⟩
theorem ksOf_split (n i j : Nat) (hi : i < 3) (hj : j < min (dOf i + sOf i) n - dOf i) :
    ∃ r, ksOf n = (ksPre n i ++ (seg (dOf i) (sOf i) n).take j) ++ [min (dOf i + sOf i) n - 1 - j] ++ r := by
  (refine Mine.el_EL (ksPre_prefix n i hi) ?_; intro r hr)
  refine ⟨(seg (dOf i) (sOf i) n).drop (j + 1) ++ r, ?_⟩
  have e := seg_get (dOf i) (sOf i) n j hj
  have e2 := List.take_append_drop (j + 1) (seg (dOf i) (sOf i) n)
  rw [e] at e2
  rw [hr, ksPre_succ n i hi]
  conv => lhs; rw [← e2]
  simp only [List.append_assoc]
theorem ks_len (n i j : Nat) (hi : i < 3) (hn : n ≤ 11) : (ksPre n i ++ (seg (dOf i) (sOf i) n).take j).length ≤ 50 := by
  rw [List.length_append, List.length_take, seg_length]
  have := dOf_pos hi
  have h2 : (ksPre n i).length ≤ 20 := by
    match i, hi with
    | 0, _ => simp [ksPre]
    | 1, _ => simp [ksPre, seg]; exact Mine.om65
    | 2, _ => simp [ksPre, seg]; exact Mine.om66
  exact Mine.om67 this.2.2.1 h2
end Mine

namespace Mine
theorem rangeSize_two {n : Nat} (h : 2 ≤ n) : PySem.Builtin.Range.rangeSize 1 (n : Int) 2 = ((n / 2 : Nat) : Int) := by
  unfold PySem.Builtin.Range.rangeSize
  rw [if_pos (by decide), if_pos (by exact Mine.om68 h)]
  exact Mine.om69
theorem small_two {n : Nat} (h : 2 ≤ n) (h2 : n ≤ 100) : PySem.Builtin.Range.small 1 (n : Int) 2 = true := by
  (refine Mine.el_EL (show ∃ b : Int, b = (n : Int) from (⟨_, rfl⟩)) ?_; intro b hb)
  (refine Mine.el_EL (show ∃ r : Int, r = ((n / 2 : Nat) : Int) from (⟨_, rfl⟩)) ?_; intro r hr)
  (refine Mine.el_EL (show ∃ a : Int, a = 1 from (⟨_, rfl⟩)) ?_; intro a ha)
  have e := rangeSize_two h
  rw [← hb, ← hr] at e
  rw [← hb, ← ha]
  rw [← ha] at e
  unfold PySem.Builtin.Range.small
  rw [e]
  have k1 : PySem.Builtin.Range.rangeFitsLong a = true := by unfold PySem.Builtin.Range.rangeFitsLong; rw [Bool.and_eq_true, decide_eq_true_eq, decide_eq_true_eq]; exact Mine.om70 ha
  have k2 : PySem.Builtin.Range.rangeFitsLong b = true := by unfold PySem.Builtin.Range.rangeFitsLong; rw [Bool.and_eq_true, decide_eq_true_eq, decide_eq_true_eq]; exact Mine.om71 h2 hb
  have k3 : PySem.Builtin.Range.rangeFitsLong r = true := by unfold PySem.Builtin.Range.rangeFitsLong; rw [Bool.and_eq_true, decide_eq_true_eq, decide_eq_true_eq]; exact Mine.om72 h2 hr
  have k4 : PySem.Builtin.Range.rangeFitsLong 2 = true := by decide
  have k5 : PySem.Builtin.Range.rangeFitsLong (b + (2 - 1)) = true := by unfold PySem.Builtin.Range.rangeFitsLong; rw [Bool.and_eq_true, decide_eq_true_eq, decide_eq_true_eq]; exact Mine.om73 h2 hb
  simp [k1, k2, k3, k4]
  exact .inr k5
end Mine

namespace Mine
theorem half_perm (R : List (Int × Int)) (row : List Int) : ∀ k, 2 * k ≤ row.length →
    (((List.range k).map fun i => (newRule R row i).1) ++ (List.range k).map fun i => (newRule R row i).2).Perm (row.take (2 * k))
  | 0, _ => by simp
  | k + 1, h => by
    have ih := half_perm R row k (by exact Mine.om74 h)
    rw [List.range_succ, List.map_append, List.map_append]
    have e : row.take (2 * (k + 1)) = row.take (2 * k) ++ [row.getD (2 * k) 0, row.getD (2 * k + 1) 0] := by
      have a1 : row.take (2 * k + 1 + 1) = row.take (2 * k + 1) ++ row[2 * k + 1]?.toList := List.take_add_one
      have a2 : row.take (2 * k + 1) = row.take (2 * k) ++ row[2 * k]?.toList := List.take_add_one
      rw [show 2 * (k + 1) = 2 * k + 1 + 1 by exact Mine.om75, a1, a2]
      rw [List.getD_eq_getElem?_getD, List.getElem?_eq_getElem (show 2 * k < row.length by exact Mine.om76 h), List.getD_eq_getElem?_getD, List.getElem?_eq_getElem (show 2 * k + 1 < row.length by exact Mine.om77 h), List.append_assoc]
      rfl
    rw [e]
    have p2 : [(newRule R row k).1, (newRule R row k).2].Perm [row.getD (2 * k) 0, row.getD (2 * k + 1) 0] := by
      unfold newRule
      split
      · exact List.Perm.refl _
      · exact List.Perm.swap _ _ _
    refine List.Perm.trans ?_ (ih.append p2)
    simp only [List.map_cons, List.map_nil, List.append_assoc]
    refine List.Perm.append_left _ ?_
    rw [← List.append_assoc]
    have : ([(newRule R row k).1] ++ List.map (fun i => (newRule R row i).2) (List.range k)).Perm (List.map (fun i => (newRule R row i).2) (List.range k) ++ [(newRule R row k).1]) := List.perm_append_comm
    refine (this.append_right _).trans ?_
    simp
theorem late_perm {R : List (Int × Int)} {row : List Int} {r : List Int × List (Int × Int) × List Bool}
    (OK : OrdOk (R ++ newRules R row (row.length / 2)) (newSyms R (row.length / 2)) r) : (lateOf r.2.1 row r.1 ++ partOf r.2.1 r.1).Perm row := by
  (refine Mine.el_EALL (OK.ext) ?_; intro S hS _)
  have hat : ∀ i, i < row.length / 2 → ruleAt r.2.1 (256 + (R.length : Int) + (i : Int)) = newRule R row i := by
    intro i hi
    have := new_at R row hi
    unfold ruleAt
    rw [hS, List.getD_eq_getElem?_getD, List.getElem?_append_left (List.getElem?_eq_some_iff.mp this).1, this]
    rfl
  have e1 : ((newSyms R (row.length / 2)).map fun p => (ruleAt r.2.1 p).1) = (List.range (row.length / 2)).map fun i => (newRule R row i).1 := by
    unfold newSyms
    rw [List.map_map]
    refine List.map_congr_left fun i hi => ?_
    simp only [Function.comp]
    rw [hat i (List.mem_range.mp hi)]
  have e2 : ((newSyms R (row.length / 2)).map fun p => (ruleAt r.2.1 p).2) = (List.range (row.length / 2)).map fun i => (newRule R row i).2 := by
    unfold newSyms
    rw [List.map_map]
    refine List.map_congr_left fun i hi => ?_
    simp only [Function.comp]
    rw [hat i (List.mem_range.mp hi)]
  unfold lateOf partOf
  have p1 := OK.perm.map (fun p => (ruleAt r.2.1 p).1)
  have p2 := OK.perm.map (fun p => (ruleAt r.2.1 p).2)
  rw [e1] at p1
  rw [e2] at p2
  refine ((p1.append_right _).append p2).trans ?_
  rw [List.append_assoc]
  refine (List.Perm.append_left _ List.perm_append_comm).trans ?_
  rw [← List.append_assoc]
  refine ((half_perm R row (row.length / 2) (by exact Mine.om78)).append_right _).trans ?_
  split
  · rename_i hodd
    have e : row.take (2 * (row.length / 2)) ++ [row.getD (row.length - 1) 0] = row := by
      have hl : 2 * (row.length / 2) = row.length - 1 := by exact Mine.om79 hodd
      rw [hl]
      have hi : row.length - 1 < row.length := by exact Mine.om80 hodd
      rw [List.getD_eq_getElem?_getD, List.getElem?_eq_getElem hi]
      have := List.take_append_drop (row.length - 1) row
      rw [List.drop_eq_getElem_cons hi, List.drop_of_length_le (by exact Mine.om81)] at this
      exact this
    rw [e]
  · rename_i heven
    rw [List.append_nil, List.take_of_length_le (by exact Mine.om82 heven)]
theorem nodup_of_map {f : Int → Int} {l : List Int} (h : (l.map f).Nodup) : l.Nodup := by
  unfold List.Nodup at h ⊢
  rw [List.pairwise_map] at h
  exact h.imp fun hne e => hne (by rw [e])
theorem mk_plan {R : List (Int × Int)} {V : Int → Prop} {row : List Int} (h : InPre R V row) (h2 : 2 ≤ row.length) (h20 : row.length ≤ 20) {r : List Int × List (Int × Int) × List Bool}
    (OK : OrdOk (R ++ newRules R row (row.length / 2)) (newSyms R (row.length / 2)) r) : Plan r.2.1 V (lateOf r.2.1 row r.1) (partOf r.2.1 r.1) := by
  have hp := late_perm OK
  have hl : r.1.length = row.length / 2 := by rw [OK.perm.length_eq]; simp [newSyms]
  have hL := lateOf_length r.2.1 row r.1 hl
  have hP := partOf_length r.2.1 r.1
  (refine Mine.el_EALL (OK.ext) ?_; intro S hS _)
  refine ⟨fun x hx => ?_, hp.nodup_iff.mpr (nodup_of_map h.nd), by exact Mine.om83 hl hL hP, by exact Mine.om84 h20 hL, by exact Mine.om85 h2 hL⟩
  have hx := hp.mem_iff.mp hx
  have v := h.ok x hx
  have W := OK.wf
  rw [hS] at W ⊢
  rw [List.append_assoc] at W ⊢
  refine ⟨v.1, by rw [List.length_append]; exact Mine.om86 v.2.1, ?_⟩
  rw [deep_app W v.1 v.2.1]
  exact v.2.2
theorem ks_perm : ∀ n, n ≤ 11 → (0 :: ksOf n).Perm (List.range (max n 1)) := by decide
theorem range_getD (l : List Int) : (List.range l.length).map (fun i => l.getD i 0) = l := by
  apply List.ext_getElem
  · simp
  · intro i h1 h2
    simp only [List.getElem_map, List.getElem_range]
    rw [List.getD_eq_getElem?_getD, List.getElem?_eq_getElem h2]; rfl
theorem inOrder_ok {V : Int → Prop} : ∀ (f : Nat) (row : List Int) (R : List (Int × Int)), InPre R V row → row.length ≤ f → row.length ≤ 20 → OrdOk R row (inOrder f row R)
  | 0, row, R, h, hf, _ => ⟨List.Perm.refl _, ⟨[], by simp [inOrder], by simp⟩, h.wf⟩
  | f + 1, row, R, h, hf, h20 => by
    by_cases hl : row.length < 2
    · have e : inOrder (f + 1) row R = (row, R, []) := by simp only [inOrder, if_pos hl]
      rw [e]
      exact ⟨List.Perm.refl _, ⟨[], by simp, by simp⟩, h.wf⟩
    · have OK := inOrder_ok f _ _ (pre_new h) (by simp [newSyms]; exact Mine.om87 hf) (by simp [newSyms]; exact Mine.om88 h20)
      have Pl := mk_plan h (by exact (Nat.le_of_not_lt hl)) h20 OK
      have hp := late_perm OK
      (refine Mine.el_EALL (OK.ext) ?_; intro S hS hS2)
      have e : inOrder (f + 1) row R = inOrder (f + 1) row R := rfl
      conv at e => rhs; simp only [inOrder, if_neg hl]
      rw [e]
      refine ⟨?_, ⟨newRules R row (row.length / 2) ++ S, by rw [hS, List.append_assoc], ?_⟩, OK.wf⟩
      · refine (putAll_perm _ _ _ _ _).trans ?_
        refine List.Perm.trans ?_ hp
        refine List.Perm.trans ?_ List.perm_append_comm
        rw [List.cons_append]
        refine List.perm_middle.symm.trans ?_
        refine List.Perm.append_left _ ?_
        have k := (ks_perm _ Pl.le).map (fun k => (lateOf (inOrder f (newSyms R (row.length / 2)) (R ++ newRules R row (row.length / 2))).2.1 row (inOrder f (newSyms R (row.length / 2)) (R ++ newRules R row (row.length / 2))).1).getD k 0)
        rw [Nat.max_eq_left Pl.pos, range_getD] at k
        exact k
      · rw [List.length_append]
        have : S.length ≤ row.length / 2 := by simpa [newSyms] using hS2
        simp [newRules]
        exact Mine.om89 this
end Mine

-- Ord
open PySem PySem.W PyProof.Rows
set_option Elab.async false
set_option maxRecDepth 100000
set_option maxHeartbeats 1500000
namespace Mine
open PySem.Calls PySem.Spec
section
local macro_rules | `(tactic| walk_at "And") => `(tactic| ((with_reducible show FnAt _ _ ∧ _); refine ⟨FnAt.keep (by with_reducible assumption) (Fr.keep (by k_asm)), ?_⟩))
local macro_rules | `(tactic| walk_at "callWith ref") => `(tactic| ((with_reducible rename FnAt _ _ => fnX); refine callWith_F (FnAt.keep fnX (Fr.keep (by k_asm))) ?_))
local macro_rules | `(tactic| walk_at "call ref") => `(tactic| refine Hold.on ?_)
local macro_rules | `(tactic| walk_at "pyIter ref") => `(tactic| ((with_reducible rename RgMark => rgM'); clear rgM'; refine Hold.on ?_))
local macro_rules | `(tactic| walk_at "call builtin:list.append") => `(tactic| refine Hold.on ?_)
local macro_rules | `(tactic| walk_at "subscriptTail") => `(tactic| ((with_reducible rename LCg.NsObj _ _ => nsX); refine Hold.on ?_))
local macro_rules | `(tactic| walk_at "CompSrc") => `(tactic| refine Hold.on ?_)
local macro_rules | `(tactic| walk_at "exec If") => `(tactic| ((with_reducible rename IfMark => ifM'); clear ifM'; refine Hold.on ?_))
local macro_rules | `(tactic| walk_at "exec For Name Tuple cons nil") => `(tactic| refine Hold.on ?_)
local macro_rules | `(tactic| walk_at "call builtin:list.index") => `(tactic| refine Hold.on ?_)
local macro_rules | `(tactic| k_all) => `(tactic| with_reducible assumption)

theorem o_idx1 (i : Nat) : (1 + (i : Int) * 2 - 1).toNat = 2 * i := by exact Mine.om90
theorem o_idx2 (i : Nat) : (1 + (i : Int) * 2).toNat = 2 * i + 1 := by exact Mine.om91
theorem o_i1 {i n : Nat} (h : i < n / 2) : 2 * i < n := by exact Mine.om92 h
theorem o_i2 {i n : Nat} (h : i < n / 2) : 2 * i + 1 < n := by exact Mine.om93 h
theorem o_len {a b c d i : Nat} (h : a = b + i) (hi : i < c / 2) (hl : b + c < 100) (hd : 100 ≤ d) : a < d := by exact Mine.om94 h hi hl hd
theorem o_lenR {R n S N m : Nat} (h : N = R + n / 2 + S) (hS : S ≤ m) (hm : m = n / 2) (h20 : n ≤ 20) (hl : R + n < 100) : N < 120 := by exact Mine.om95 h hS hm hl
theorem o_ifmin (d s L : Nat) : (if (L : Int) < (d : Int) + (s : Int) then (L : Int) else (d : Int) + (s : Int)) = ((min (d + s) L : Nat) : Int) := by split <;> (first | exact Mine.om96 (by assumption) | exact Mine.om97 (by assumption) | omega)
theorem o_rs {m d : Nat} : ((m : Int) - 1 - ((d : Int) - 1)).toNat = m - d := by exact Mine.om98
theorem o_kk {m j : Nat} (h : j < m) : (m : Int) - 1 + (j : Int) * -1 = ((m - 1 - j : Nat) : Int) := by exact Mine.om99 h
theorem o_kkl {a L j : Nat} (h : j < min a L) : min a L - 1 - j < L := by exact Mine.om100 h
theorem o_kkp {a L d j : Nat} (h : j < min a L - d) (hd : 0 < d) : 0 < min a L - 1 - j := by exact Mine.om101 h hd
theorem o_pre {a L d j k : Nat} (h : j < min a L - d) (hk : 0 < k ∧ k < d ∧ k < L) : 0 < k ∧ k < L ∧ k ≠ min a L - 1 - j := by exact Mine.om102 h hk.1 hk.2.1
theorem o_seg {a L d j k : Nat} (hd : 0 < d) (hk : k ≠ min a L - 1 - j ∧ d ≤ k ∧ k < min a L) : 0 < k ∧ k < L ∧ k ≠ min a L - 1 - j := by exact Mine.om103 hd hk.1 hk.2.1 hk.2.2
theorem o_jm {m d j : Nat} (h : j < m - d) : j < m := by exact Mine.om104 h
theorem o_half {n m f : Nat} (h : n ≤ f + 1) (hn : ¬ n < 2) (e : m = n / 2) : m ≤ f := by exact Mine.om105 h e
theorem o_half2 {n m : Nat} (h : n ≤ 20) (e : m = n / 2) : m ≤ 20 := by exact Mine.om106 h e
theorem o_sum {r n a b : Nat} (ha : a = r + n / 2) (hb : b = n / 2) (h : r + n < 100) : a + b < 100 := by exact Mine.om107 ha hb h
theorem o_last {n : Nat} (h : ¬ n < 2) : (-1 + (n : Int)).toNat = n - 1 := by exact Mine.om108
theorem n11 {g h : Heap} {L : Addr} {p1 p2 p3 p5 p6 p7 p9 : Addr × Obj} {tl tl9 : List (Addr × Obj)} {b4 b8 b10 : Addr} {o4 o8 o10 : Obj} (N : News g L h (p1 :: p2 :: p3 :: p5 :: p6 :: p7 :: p9 :: tl))
    (h4 : h.get? b4 = some o4) (e4 : b4 ≠ L ∧ g.get? b4 = none) (h8 : h.get? b8 = some o8) (e8 : b8 ≠ L ∧ g.get? b8 = none) (h10 : h.get? b10 = some o10) (e10 : b10 ≠ L ∧ g.get? b10 = none) (nt : News g L h tl9) :
    News g L h (p1 :: p2 :: p3 :: (b4, o4) :: p5 :: p6 :: p7 :: (b8, o8) :: p9 :: (b10, o10) :: tl9) :=
  all_cons (News.hd N) (all_cons (News.hd (News.tl N)) (all_cons (News.hd (News.tl (News.tl N))) (all_cons ⟨h4, e4⟩ (all_cons (News.hd (News.tl (News.tl (News.tl N)))) (all_cons (News.hd (News.tl (News.tl (News.tl (News.tl N)))))
    (all_cons (News.hd (News.tl (News.tl (News.tl (News.tl (News.tl N)))))) (all_cons ⟨h8, e8⟩ (all_cons (News.hd (News.tl (News.tl (News.tl (News.tl (News.tl (News.tl N))))))) (all_cons ⟨h10, e10⟩ nt)))))))))
theorem deep_ub {x : Int} {R a i : Nat} (h : a = R + i) (hx : x < 256 + (R : Int)) : x < 256 + (a : Int) := by exact Mine.om109 h hx
theorem o_szp {refs : List Value} {v : Value} {R c i : Nat} (h : refs.length = R + i) (hi : i < c / 2) (hl : R + c < 100) : (((refs ++ [v]).toArray.size : Nat) : Int) < 9223372036854775808 := by simp; exact Mine.om110 h hi hl
theorem szi {n b : Nat} {x : Int} (h : n ≤ b) (e : (b : Int) < x) : (n : Int) < x := nat_lt h e
theorem o_sym {refs : List Value} {v : Value} {R i : Nat} (h : refs.length = R + i) : (256 + ((refs ++ [v]).toArray.size : Int) - 1) = 256 + (R : Int) + (i : Int) := by simp; exact Mine.om111 h
theorem o_f1 {n f : Nat} (h : n ≤ f + 1) (hn : ¬ n < 2) : 1 ≤ f := by exact Mine.om112 h hn
theorem o_k0 {k : Int} (h : 256 ≤ k) : 0 ≤ k - 256 := by exact Mine.om10 h
theorem o_k1 {k : Int} {N : Nat} (h : k < 256 + (N : Int)) (hN : N < 120) : k - 256 < 2 ^ 63 := by exact Mine.om113 h hN
def OrdPre (K : Asker) (hist : List Bool) (ra rowa : Addr) (R : List (Int × Int)) (row : List Int) (h : Heap) : Prop :=
  K.at hist h ∧ RulesAt h ra R ∧ (∃ vs n, h.get? rowa = some (lstO vs n) ∧ IntsAre vs row) ∧ PutTab h
def OrdPost (K : Asker) (hist : List Bool) (ra rowa : Addr) (f : Nat) (R : List (Int × Int)) (row : List Int) (h : Heap) (r : Value) (h' : Heap) : Prop :=
  ∃ l, r = Value.ref l ∧ (l = rowa ∨ h.get? l = none) ∧ (∃ vs n, h'.get? l = some (lstO vs n) ∧ IntsAre vs (inOrder f row R).1) ∧
    RulesAt h' ra (inOrder f row R).2.1 ∧ K.at (hist ++ (inOrder f row R).2.2) h' ∧ PutTab h'
def OrdCon (w : World) (K : Asker) (ask : Addr) (V : Int → Prop) (D U f : Nat) : Prop :=
  ∀ (hist : List Bool) (ra rowa : Addr) (R : List (Int × Int)) (row : List Int), InPre R V row → row.length ≤ f → row.length ≤ 20 → R.length + row.length < 100 → K.ok (hist ++ (inOrder f row R).2.2) →
    ra ≠ K.aa → rowa ≠ K.aa → rowa ≠ ra → K.aa ≠ 162 → (∀ q ∈ K.gl, q.1 ≠ ra ∧ q.1 ≠ 162) →
    Con w D U (Value.ref 172) [Value.ref rowa, Value.ref ra, Value.ref ask] [] [K.aa, ra, 162] (OrdPre K hist ra rowa R row) (OrdPost K hist ra rowa f R row)

theorem ord_step (w : World) (K : Asker) (ask : Addr) (V : Int → Prop) (C : AskC w ask K V) (D U f : Nat) (hD : D ≤ 790) (hU : U ≤ 7900) (IH : 1 ≤ f → OrdCon w K ask V (D + 5) (U + 50) f) : OrdCon w K ask V D U (f + 1) := by
  intro hist ra rowa R row hin hf hl20 hlen hok h1 h2 h3 h4 h5
  have h5' := h5
  refine' Con.fnC (ho := ?o) (hcd := ?c) ?room ?bind ?kind ?nd ?co ?gen ?k ?body
  case o => k_is
  case c => k_is
  case room => show D < 1000; exact (Nat.lt_of_le_of_lt hD (by decide))
  case bind => intro s _; exact BindsTo.of_eq rfl
  case kind => rfl
  case nd => decide +kernel
  case co => rfl
  case gen => rfl
  case k => rfl
  intro p' loose mean mg mb gd env outer base g L' h₁ s tk₁ cells hpre En F NC Y hcf B X T
  (refine Mine.el_AALEALLAE2ALLAE2ALLEALL (hpre) ?_; intro hgl o₀ ho₀ hst₀ refs rn hra hrefs vs nn hrow hints to hto htab; try clear hpre)
  have l1 := En.led _ _ ho₀ (by exact mem0)
  have l2 := En.led _ _ hra (by exact mem1)
  have l3 := En.led _ _ hto (by exact mem2)
  have hits : ∃ its, to = tabObj its := by
    rcases htab with e | ⟨_, _, _, _, e, _⟩
    · exact ⟨_, e⟩
    · exact ⟨_, e⟩
  (refine Mine.el_EL (hits) ?_; intro its hits)
  (refine Mine.el_E2L (K.lst _ _ hst₀) ?_; intro sv sn hsv)
  have q1 := ltN (En.lt ho₀)
  have q2 := ltN (En.lt hra)
  have q3 := ltN (En.lt hto)
  have q0 := ltN (En.lt hrow)
  have h6 : rowa ≠ 162 := fun e => by rw [e, hto, hits] at hrow; cases hrow
  have h7 : ra ≠ 162 := fun e => by rw [e, hto, hits] at hra; cases hra
  have q4 := neN h4
  have q5 := neN h1
  have q6 := neN h7
  (refine Mine.el_EALALL (hrefs.tl) ?_; intro tl0 htl htt hreft)
  have toff : ∀ q ∈ tl0, q.1 ∉ [K.aa, ra, 162] := fun q hq hm => by
    (refine Mine.el_E2L (htt q hq) ?_; intro v1 n1 e1)
    have e2 := htl q hq
    rw [e1] at e2
    refine absurd hm (nin3 (fun e => ?_) (fun e => ?_) fun e => ?_)
    · rw [e, ho₀, hsv] at e2; simp at e2
    · rw [e, hra] at e2; simp at e2
    · rw [e, hto, hits] at e2; cases e2
  have htl' : GL tl0 g := htl.inn En toff
  have hgl' : GL K.gl g := hgl.inn En fun q hq => nin3 (K.off q hq) (h5 q hq).1 (h5 q hq).2
  have hrow' := En.inn _ _ hrow (nin3 h2 h3 h6)
  have hL : g.IsList rowa vs.toArray := ⟨_, hrow', rfl, nn, rfl⟩
  have htab' : TabOk g 162 194 43 putQ to := htab.keep fun b o fv hd hP hb => En.inn _ _ hb (by
    refine nin3 (fun e => ?_) (fun e => ?_) fun e => ?_
    · rw [e, ho₀] at hb; cases hb; rw [hsv] at hd; cases hd
    · rw [e, hra] at hb; cases hb; cases hd
    · exact hP e)
  have hfn : FnAt ask g := FnAt.gl C.1 hgl'
  k_cells Y
  rename_i oc1 dc1
  have N := News.app NC (News.cons' (News.cons' (News.cons' News.nil l3.1 l3.2.1 l3.2.2) l2.1 l2.2.1 l2.2.2) l1.1 l1.2.1 l1.2.2)
  simp only [List.cons_append, List.nil_append] at N
  have mk := RgMark.mk
  k_steps
  · rename_i hlt2
    have hl2 : row.length < 2 := by exact Mine.om114 hlt2
    have hio : inOrder (f + 1) row R = (row, R, []) := by simp only [inOrder, if_pos hl2]
    refine Fin.mk' F ⟨rowa, rfl, .inl rfl, ?_, ?_, ?_, to, News.get N (by exact mem3), htab'.keep fun b ob fv _ _ hb => F.keep _ _ hb⟩
    · rw [hio]; exact ⟨vs, nn, F.keep _ _ hrow', hints⟩
    · rw [hio]; exact ⟨refs, rn, News.get N (by exact mem2), hreft.are (htl'.keep F.keep)⟩
    · rw [hio]
      exact ⟨hgl'.keep F.keep, o₀, News.get N (by exact mem1), by simpa using hst₀⟩
  · rename_i hge tkA pa hA pal hB FB NB hC tkC t1 u1 v1 hrg FC NCc hkp
    refine Hold.off ?_
    have dc1' : oc1.data = .cell (some (Value.ref ra)) := dc1
    (refine Mine.el_EL (Fr.map_of FC) ?_; intro mX hmX)
    have hl2 : ¬ row.length < 2 := by exact Mine.om115 hge
    (refine Mine.el_EL (show ∃ r2, (inOrder (f + 1) row R).2.2 = newAns R row (row.length / 2) ++ r2 from (⟨_, by simp only [inOrder, if_neg hl2]; exact List.append_assoc _ _ _⟩)) ?_; intro rest2 hr2)
    refine my_range (n := row.length / 2) (fun i m news => ∃ o refs' n' pv pn tl, news = (pa, lstO pv pn) :: (L' + 1, oc1) :: (K.aa, o) :: (ra, lstO refs' n') :: (162, to) :: tl ∧
        K.St (hist ++ newAns R row i) o ∧ RefsT (tl0 ++ tl) refs' (R ++ newRules R row i) ∧ IntsAre pv (newSyms R i) ∧ (∀ q ∈ tl, @LT.lt Nat _ pa q.1 ∧ ∃ v2 n2, q.2 = tupO v2 n2) ∧
        ∀ z, z ≠ Str.ofString "k" → m z = mX z) rfl hrg ?sm ?rs FC NCc ?j0 ?turn ?done
    case sm => exact small_two (by exact (Nat.le_of_not_lt hl2)) (by exact Nat.le_of_lt (Nat.lt_of_le_of_lt hl20 (by decide)))
    case rs => exact rangeSize_two (by exact (Nat.le_of_not_lt hl2))
    case j0 =>
      refine ⟨o₀, refs, rn, [], 0, [], rfl, ?_, ?_, ?_, ?_, ?_⟩
      · simpa [newAns] using hst₀
      · simpa [newRules] using hreft
      · exact .nil
      · exact fun q hq => nomatch hq
      · intro z _; rw [hmX]
    case turn =>
      (intro i m₁ news₁ I io t h tk hi hnt q1q hoffI hltI F1 N1; refine Mine.el_E6ALALALALALL q1q ?_; intro o refs' n' pv pn tl rf2 hst href hpv htl2 hm; subst rf2; clear q1q)
      rw [canon1 hm, hmX] at F1
      clear FC NCc FB NB
      have hrl : row.length < 100 := by exact (Nat.lt_of_le_of_lt hl20 (by decide))
      have W1 : WFR (R ++ newRules R row i) := wf_new hin (by exact Nat.le_of_lt hi)
      have hRl : (R ++ newRules R row i).length = R.length + i := by simp [newRules]
      have gtl : GL tl0 h := htl'.keep (Fr.keep F1)
      have ntl : GL tl h := fun q hq => News.get N1 (memT6 hq)
      have e1 := o_idx1 i
      have e2 := o_idx2 i
      have m1 : row.getD (2 * i) 0 ∈ row := by
        exact getD_mem (o_i1 hi)
      have m2 : row.getD (2 * i + 1) 0 ∈ row := by
        exact getD_mem (o_i2 hi)
      have v1 := hin.ok _ m1
      have v2 := hin.ok _ m2
      have htra : ∀ p ∈ tl, p.1 ≠ ra := fun p hp e => absurd (htl2 p hp).1 (by rw [e]; exact Nat.not_lt_of_lt pal.2.2.1)
      have htaa : ∀ p ∈ tl, p.1 ≠ K.aa := fun p hp e => absurd (htl2 p hp).1 (by rw [e]; exact Nat.not_lt_of_lt pal.2.1)
      have htpa : ∀ p ∈ tl, p.1 ≠ pa := fun p hp e => absurd (htl2 p hp).1 (by rw [e]; exact Nat.lt_irrefl _)
      have i1 := neN (hoffI (pa, _) (.head _))
      have i2 := neN (hoffI (L' + 1, _) (.tail _ (.head _)))
      have i3 := neN (hoffI (K.aa, _) (.tail _ (.tail _ (.head _))))
      have i4 := neN (hoffI (ra, _) (.tail _ (.tail _ (.tail _ (.head _)))))
      have i5 := neN (hoffI (162, _) (.tail _ (.tail _ (.tail _ (.tail _ (.head _))))))
      k_steps
      refine Hold.off ?_
      rw [e1]
      refine Con.use0 (deepest_con w (R ++ newRules R row i) ra _ _ W1 v1.1 (deep_ub hRl v1.2.1) (o_len hRl hi hlen (by decide))) B (by k_asm) X T (by k_asm) rfl rfl rfl rfl (by show D + 1 ≤ 950; exact Nat.le_trans (Nat.add_le_add_right hD 1) (of_decide_eq_true rfl)) (by show U + 3 ≤ 9500; exact Nat.le_trans (Nat.add_le_add_right hU 3) (of_decide_eq_true rfl)) ⟨refs', n', News.get (by k_asm) (by exact mem4), href.are (gtl.app ntl)⟩ ?_
      (intro r h2' tk2 F2 N2 K2 q3q; refine Mine.el_EL q3q ?_; intro u2 rf4; subst rf4; clear q3q)
      rw [deep_app W1 v1.1 v1.2.1]
      have gtl2 : GL tl0 h2' := htl'.keep (Fr.keep F2)
      have ntl2 : GL tl h2' := fun q hq => News.get N2 (memT6 hq)
      clear F1 N1 gtl ntl
      k_steps
      refine Hold.off ?_
      rw [e2]
      refine Con.use0 (deepest_con w (R ++ newRules R row i) ra _ _ W1 v2.1 (deep_ub hRl v2.2.1) (o_len hRl hi hlen (by decide))) B (by k_asm) X T (by k_asm) rfl rfl rfl rfl (by show D + 1 ≤ 950; exact Nat.le_trans (Nat.add_le_add_right hD 1) (of_decide_eq_true rfl)) (by show U + 3 ≤ 9500; exact Nat.le_trans (Nat.add_le_add_right hU 3) (of_decide_eq_true rfl)) ⟨refs', n', News.get (by k_asm) (by exact mem4), href.are (gtl2.app ntl2)⟩ ?_
      (intro r h3' tk3 F3 N3 K3 q5q; refine Mine.el_EL q5q ?_; intro u3 rf6; subst rf6; clear q5q)
      rw [deep_app W1 v2.1 v2.2.1]
      clear F2 N2 gtl2 ntl2
      k_steps
      refine Hold.off ?_
      (refine Mine.el_EL (newAns_split R row hi) ?_; intro rest hsplit)
      have hok9 : K.ok (hist ++ newAns R row i ++ [decide (deep R (row.getD (2 * i) 0) < deep R (row.getD (2 * i + 1) 0))]) := by
        rw [hr2, hsplit] at hok
        refine K.okp _ (rest ++ rest2) ?_
        simp only [List.append_assoc] at hok ⊢
        exact hok
      refine Con.use (C.2 (hist ++ newAns R row i) _ _ _ _ v1.2.2 v2.2.2 hok9) (full := _) (oth := (I, io) :: (pa, lstO pv pn) :: (L' + 1, oc1) :: (ra, lstO refs' n') :: (162, to) :: tl) B (by k_asm) X T (by k_asm) rfl rfl rfl rfl (by show D + 1 ≤ 950; exact Nat.le_trans (Nat.add_le_add_right hD 1) (of_decide_eq_true rfl)) (by show U + 3 ≤ 9500; exact Nat.le_trans (Nat.add_le_add_right hU 3) (of_decide_eq_true rfl)) (fun b hb => ⟨o, by rw [List.mem_singleton.mp hb]; exact mem3⟩) ?oth9 ⟨hgl'.keep (Fr.keep (by k_asm)), o, News.get (by k_asm) (by exact mem3), hst⟩ ?_
      case oth9 =>
        refine oth_cons mem0 (nin1 i3.symm) (oth_cons mem1 (nin1 (Nat.ne_of_gt pal.2.1)) (oth_cons mem2 (nin1 (a := K.aa) (x := L' + 1) (Nat.ne_of_gt (Nat.lt_trans q1 (Nat.lt_succ_self _)))) (oth_cons mem4 (nin1 h1) (oth_cons mem5 (nin1 h4.symm) fun p hp => ⟨memT6 hp, nin1 (htaa p hp)⟩))))
      (intro r h4' tk4 F4 N4 K4 q7q; refine Mine.el_ALALEALL q7q ?_; intro rf8 hgl4 o4 ho4 hst4; subst rf8; clear q7q)
      have N5 := News.cons' N4 ho4 l1.2.1 l1.2.2
      have hoffx : ∀ (a1 a3 a4 a5 : Obj) (t9 : List (Addr × Obj)), (∀ p ∈ t9, p.1 ≠ I) → ∀ p ∈ (pa, a1) :: (L' + 1, oc1) :: (K.aa, a3) :: (ra, a4) :: (162, a5) :: t9, p.1 ≠ I := fun a1 a3 a4 a5 t9 ht => all_cons i1 (all_cons i2 (all_cons i3 (all_cons i4 (all_cons i5 ht))))
      have hofft : ∀ p ∈ tl, p.1 ≠ I := fun p hp => hoffI p (memT5 hp)
      clear F3 N3 N4
      k_steps
      · rename_i hc tt1 tt2 Da hDa FDa NDa lDa
        have hrfl : refs'.length = R.length + i := by rw [href.1, hRl]
        have hpfl : pv.length = i := by rw [hpv.length]; simp [newSyms]
        have hsz : sizeLine = 16777216 := rfl
        have hru : newRule R row i = (row.getD (2 * i) 0, row.getD (2 * i + 1) 0) := by
          rw [newRule, if_pos hc]
        refine Hold.off ?_
        refine' append_K ?zk1 ?zk2 ?zk3 ?_ ?zz
        case zk1 => k_asm
        case zk2 => k_asm
        case zz => show refs'.toArray.size ≤ sizeLine; rw [List.size_toArray]; exact Nat.le_of_lt (o_len hrfl hi hlen (by decide))
        case zk3 => k_upd
        intro h5' F5 N5'
        k_steps
        refine call_len_list ⟨_, News.get (by k_asm) (List.mem_cons_of_mem _ (List.mem_cons_of_mem _ (List.mem_cons_of_mem _ (List.mem_cons_of_mem _ (List.mem_cons_of_mem _ (List.Mem.head _)))))), rfl, _, rfl⟩ ?lf ?_
        case lf => exact o_szp hrfl hi hlen
        k_steps
        refine Hold.off ?_
        refine' append_K ?yk1 ?yk2 ?yk3 ?_ ?yz
        case yk1 => k_asm
        case yk2 => k_asm
        case yz => show pv.toArray.size ≤ sizeLine; rw [List.size_toArray, hpfl]; exact Nat.le_of_lt (Nat.lt_trans (Nat.lt_of_lt_of_le hi (Nat.div_le_self _ _)) (Nat.lt_of_lt_of_le hrl (of_decide_eq_true rfl)))
        case yk3 => k_upd
        intro h6' F6 N6
        k_steps
        simp only [e1, e2, List.push_toArray] at N6
        (refine Mine.el_ALALL (News.hd N6) ?_; intro a1 a2 a3)
        (refine Mine.el_ALALL (News.hd (News.tl N6)) ?_; intro b1 b2 b3)
        (refine Mine.el_ALALL (News.hd (News.tl (News.tl N6))) ?_; intro c1 c2 c3)
        (refine Mine.el_ALALL (News.hd (News.tl (News.tl (News.tl N6)))) ?_; intro d1 d2 d3)
        (refine Mine.el_ALALL (News.hd (News.tl (News.tl (News.tl (News.tl N6))))) ?_; intro f1 f2 f3)
        (refine Mine.el_ALALL (News.hd (News.tl (News.tl (News.tl (News.tl (News.tl N6)))))) ?_; intro g1 g2 g3)
        (refine Mine.el_ALALL (News.hd (News.tl (News.tl (News.tl (News.tl (News.tl (News.tl N6))))))) ?_; intro j1 j2 j3)
        have Ntl := News.tl (News.tl (News.tl (News.tl (News.tl (News.tl (News.tl N6))))))
        (refine Mine.el_E2L (show ∃ tu uu, h6'.get? Da = some (tupO [Value.int (row.getD (2 * i) 0) tu, Value.int (row.getD (2 * i + 1) 0) uu] 0) from (⟨_, _, a1⟩)) ?_; intro tu uu hDa9)
        obtain ⟨pv', pn', hpa9, hpv9⟩ : ∃ pv' pn', h6'.get? pa = some (lstO pv' pn') ∧ IntsAre pv' (newSyms R (i + 1)) := ⟨_, _, d1, by
          rw [newSyms_succ]
          refine hpv.append ?_
          have hv := o_sym (refs := refs') (v := Value.ref Da) hrfl
          rw [hv]
          exact .cons _ _ .nil⟩
        have N7 : News g L' h6' ((I, io) :: (pa, lstO pv' pn') :: (L' + 1, oc1) :: (K.aa, o4) :: (ra, lstO (refs' ++ [Value.ref Da]) (n' + 1)) :: (162, to) :: (Da, tupO [Value.int (row.getD (2 * i) 0) tu, Value.int (row.getD (2 * i + 1) 0) uu] 0) :: tl) :=
          News.cons' (News.cons' (News.cons' (News.cons' (News.cons' (News.cons' (News.cons' Ntl hDa9 a2 a3) j1 j2 j3) g1 g2 g3) b1 b2 b3) f1 f2 f3) hpa9 d2 d3) c1 c2 c3
        refine TurnPost.next F6 N7 (fun p hp => hp) ?offI ⟨o4, refs' ++ [Value.ref Da], n' + 1, pv', pn', (Da, tupO [Value.int (row.getD (2 * i) 0) tu, Value.int (row.getD (2 * i + 1) 0) uu] 0) :: tl, rfl, ?s1, ?s2, hpv9, ?s4, ?s5⟩
        case offI => exact hoffx _ _ _ _ _ (all_cons (Nat.ne_of_gt lDa.2.1) hofft)
        case s1 =>
          rw [newAns_succ, ← List.append_assoc]; exact hst4
        case s2 =>
          rw [newRules_succ, ← List.append_assoc, hru]
          exact href.snoc (t := tu) (u := uu) (n := 0) (List.mem_append_right _ (List.Mem.head _)) (fun q hq => by
            rcases List.mem_append.mp hq with hq | hq
            · exact List.mem_append_left _ hq
            · exact List.mem_append_right _ (.tail _ hq))
        case s4 =>
          intro q hq
          rcases List.mem_cons.mp hq with rfl | hq
          · exact ⟨by show @LT.lt Nat _ pa Da; exact lDa.2.2.1, _, _, rfl⟩
          · exact htl2 q hq
        case s5 =>
          intro z hz
          simp only [if_neg hz]
          rw [hmX]
      · rename_i hc tt1 tt2 Da hDa FDa NDa lDa
        have hrfl : refs'.length = R.length + i := by rw [href.1, hRl]
        have hpfl : pv.length = i := by rw [hpv.length]; simp [newSyms]
        have hsz : sizeLine = 16777216 := rfl
        have hru : newRule R row i = (row.getD (2 * i + 1) 0, row.getD (2 * i) 0) := by
          rw [newRule, if_neg hc]
        refine Hold.off ?_
        refine' append_K ?zk1 ?zk2 ?zk3 ?_ ?zz
        case zk1 => k_asm
        case zk2 => k_asm
        case zz => show refs'.toArray.size ≤ sizeLine; rw [List.size_toArray]; exact Nat.le_of_lt (o_len hrfl hi hlen (by decide))
        case zk3 => k_upd
        intro h5' F5 N5'
        k_steps
        refine call_len_list ⟨_, News.get (by k_asm) (List.mem_cons_of_mem _ (List.mem_cons_of_mem _ (List.mem_cons_of_mem _ (List.mem_cons_of_mem _ (List.mem_cons_of_mem _ (List.Mem.head _)))))), rfl, _, rfl⟩ ?lf ?_
        case lf => exact o_szp hrfl hi hlen
        k_steps
        refine Hold.off ?_
        refine' append_K ?yk1 ?yk2 ?yk3 ?_ ?yz
        case yk1 => k_asm
        case yk2 => k_asm
        case yz => show pv.toArray.size ≤ sizeLine; rw [List.size_toArray, hpfl]; exact Nat.le_of_lt (Nat.lt_trans (Nat.lt_of_lt_of_le hi (Nat.div_le_self _ _)) (Nat.lt_of_lt_of_le hrl (of_decide_eq_true rfl)))
        case yk3 => k_upd
        intro h6' F6 N6
        k_steps
        simp only [e1, e2, List.push_toArray] at N6
        (refine Mine.el_ALALL (News.hd N6) ?_; intro a1 a2 a3)
        (refine Mine.el_ALALL (News.hd (News.tl N6)) ?_; intro b1 b2 b3)
        (refine Mine.el_ALALL (News.hd (News.tl (News.tl N6))) ?_; intro c1 c2 c3)
        (refine Mine.el_ALALL (News.hd (News.tl (News.tl (News.tl N6)))) ?_; intro d1 d2 d3)
        (refine Mine.el_ALALL (News.hd (News.tl (News.tl (News.tl (News.tl N6))))) ?_; intro f1 f2 f3)
        (refine Mine.el_ALALL (News.hd (News.tl (News.tl (News.tl (News.tl (News.tl N6)))))) ?_; intro g1 g2 g3)
        (refine Mine.el_ALALL (News.hd (News.tl (News.tl (News.tl (News.tl (News.tl (News.tl N6))))))) ?_; intro j1 j2 j3)
        have Ntl := News.tl (News.tl (News.tl (News.tl (News.tl (News.tl (News.tl N6))))))
        (refine Mine.el_E2L (show ∃ tu uu, h6'.get? Da = some (tupO [Value.int (row.getD (2 * i + 1) 0) tu, Value.int (row.getD (2 * i) 0) uu] 0) from (⟨_, _, a1⟩)) ?_; intro tu uu hDa9)
        obtain ⟨pv', pn', hpa9, hpv9⟩ : ∃ pv' pn', h6'.get? pa = some (lstO pv' pn') ∧ IntsAre pv' (newSyms R (i + 1)) := ⟨_, _, d1, by
          rw [newSyms_succ]
          refine hpv.append ?_
          have hv := o_sym (refs := refs') (v := Value.ref Da) hrfl
          rw [hv]
          exact .cons _ _ .nil⟩
        have N7 : News g L' h6' ((I, io) :: (pa, lstO pv' pn') :: (L' + 1, oc1) :: (K.aa, o4) :: (ra, lstO (refs' ++ [Value.ref Da]) (n' + 1)) :: (162, to) :: (Da, tupO [Value.int (row.getD (2 * i + 1) 0) tu, Value.int (row.getD (2 * i) 0) uu] 0) :: tl) :=
          News.cons' (News.cons' (News.cons' (News.cons' (News.cons' (News.cons' (News.cons' Ntl hDa9 a2 a3) j1 j2 j3) g1 g2 g3) b1 b2 b3) f1 f2 f3) hpa9 d2 d3) c1 c2 c3
        refine TurnPost.next F6 N7 (fun p hp => hp) ?offI ⟨o4, refs' ++ [Value.ref Da], n' + 1, pv', pn', (Da, tupO [Value.int (row.getD (2 * i + 1) 0) tu, Value.int (row.getD (2 * i) 0) uu] 0) :: tl, rfl, ?s1, ?s2, hpv9, ?s4, ?s5⟩
        case offI => exact hoffx _ _ _ _ _ (all_cons (Nat.ne_of_gt lDa.2.1) hofft)
        case s1 =>
          rw [newAns_succ, ← List.append_assoc]; exact hst4
        case s2 =>
          rw [newRules_succ, ← List.append_assoc, hru]
          exact href.snoc (t := tu) (u := uu) (n := 0) (List.mem_append_right _ (List.Mem.head _)) (fun q hq => by
            rcases List.mem_append.mp hq with hq | hq
            · exact List.mem_append_left _ hq
            · exact List.mem_append_right _ (.tail _ hq))
        case s4 =>
          intro q hq
          rcases List.mem_cons.mp hq with rfl | hq
          · exact ⟨by show @LT.lt Nat _ pa Da; exact lDa.2.2.1, _, _, rfl⟩
          · exact htl2 q hq
        case s5 =>
          intro z hz
          simp only [if_neg hz]
          rw [hmX]
    case done =>
      (intro m' news' h tk q9q F1 N1; refine Mine.el_E6ALALALALALL q9q ?_; intro o refs' n' pv pn tl rf10 hst href hpv htl2 hm; subst rf10; clear q9q)
      rw [canon1 hm, hmX] at F1
      clear FC NCc FB NB
      k_steps
      refine Hold.off ?_
      have hSl : (newSyms R (row.length / 2)).length = row.length / 2 := by simp [newSyms]
      have hRl : (R ++ newRules R row (row.length / 2)).length = R.length + row.length / 2 := by simp [newRules]
      have n1 := News.hd N1
      have gtl : GL tl0 h := htl'.keep (Fr.keep F1)
      have ntl : GL tl h := fun q hq => News.get N1 (memT5 hq)
      have hokI : K.ok (hist ++ newAns R row (row.length / 2) ++ (inOrder f (newSyms R (row.length / 2)) (R ++ newRules R row (row.length / 2))).2.2) := by
        simp only [inOrder, if_neg hl2] at hok
        refine K.okp _ ?_ ?_
        rotate_left
        · simp only [List.append_assoc] at hok ⊢
          exact hok
      refine Con.use (IH (o_f1 hf hl2) (hist ++ newAns R row (row.length / 2)) ra pa (R ++ newRules R row (row.length / 2)) (newSyms R (row.length / 2)) (pre_new hin) (o_half hf hl2 hSl) (o_half2 hl20 hSl) (o_sum hRl hSl hlen) hokI h1 (neN (a := pa) (b := K.aa) (by exact Nat.ne_of_gt pal.2.1)) (neN (a := pa) (b := ra) (by exact Nat.ne_of_gt pal.2.2.1)) h4 h5)
        (full := _) (oth := (pa, lstO pv pn) :: (L' + 1, oc1) :: tl) B (by k_asm) X T (by k_asm) rfl rfl rfl rfl (by show D + 1 ≤ D + 5; exact Nat.add_le_add_left (by decide) _) (by show U + 3 ≤ U + 50; exact Nat.add_le_add_left (by decide) _) ?ifp ?ioth ⟨⟨hgl'.keep (Fr.keep F1), o, News.get N1 (by exact mem2), hst⟩, ⟨refs', n', News.get N1 (by exact mem3), href.are (gtl.app ntl)⟩, ⟨pv, pn, n1.1, hpv⟩, to, News.get N1 (by exact mem4), htab'.keep fun b ob fv _ _ hb => Fr.keep F1 _ _ hb⟩ ?_
      case ifp => exact fp3 mem2 mem3 mem4
      case ioth =>
        have key : ∀ b : Nat, (@LT.lt Nat _ pa b) → b ∉ ([K.aa, ra, 162] : List Addr) := fun b hb =>
          nin3 (Nat.ne_of_gt (Nat.lt_trans pal.2.1 hb)) (Nat.ne_of_gt (Nat.lt_trans pal.2.2.1 hb)) (Nat.ne_of_gt (Nat.lt_trans pal.2.2.2 hb))
        exact oth_cons mem0 (nin3 (Nat.ne_of_gt pal.2.1) (Nat.ne_of_gt pal.2.2.1) (Nat.ne_of_gt pal.2.2.2)) (oth_cons mem1 (nin3 (a := K.aa) (b := ra) (c := 162) (x := L' + 1) (Nat.ne_of_gt (Nat.lt_trans q1 (Nat.lt_succ_self _))) (Nat.ne_of_gt (Nat.lt_trans q2 (Nat.lt_succ_self _))) (Nat.ne_of_gt (Nat.lt_trans q3 (Nat.lt_succ_self _)))) fun p hp => ⟨memT5 hp, key _ (htl2 p hp).1⟩)
      (intro r h2' tk2 F2 N2 K2 q11q; refine Mine.el_EALALAE2ALLAE2ALLAALEALLEALL q11q ?_; intro l rf12 hl lv ln hlg hlints refs2 n2 hra2 href2 hgl2 o2 ho2 hst2 to2 hto2 htab2; subst rf12; clear q11q)
      have hl0 : g.get? l = none := by
        rcases hl with rfl | hl
        · exact n1.2.2
        · cases q : g.get? l with
          | none => rfl
          | some ob => rw [F1.keep _ _ q] at hl; cases hl
      (refine Mine.el_E2ALALALL (split_tl F2 href2) ?_; intro ta tbA hta ntbA htbt hreftA)
      (refine Mine.el_EALALALL (TabG.of htab2 F2 ntbA (fun q hq => .inl (htbt q hq))) ?_; intro tb ntb hsub2 htail2 htabG2)
      have hreft2 := hreftA.mono (tl' := ta ++ tb) (fun q hq => by
        rcases List.mem_append.mp hq with z | z
        · exact List.mem_append_left _ z
        · exact List.mem_append_right _ (hsub2 _ z))
      have N3 : News g L' h2' ((l, lstO lv ln) :: (L' + 1, oc1) :: (K.aa, o2) :: (ra, lstO refs2 n2) :: (162, to2) :: tb) :=
        News.cons' (News.cons' (News.cons' (News.cons' (News.cons' ntb hto2 l3.2.1 l3.2.2) hra2 l2.2.1 l2.2.2) ho2 l1.2.1 l1.2.2) (News.hd (News.tl N2)).1 (News.hd (News.tl N2)).2.1 (News.hd (News.tl N2)).2.2) hlg (Fr.ne_seq F2 hlg) hl0
      clear F1 N1 N2 gtl ntl
      have mk := RgMark.mk
      k_steps
      have hlvl := hlints.length
      have OK := inOrder_ok f _ _ (pre_new hin) (o_half hf hl2 hSl) (o_half2 hl20 hSl)
      have hokT := hok
      have hioE : inOrder (f + 1) row R = inOrder (f + 1) row R := rfl
      conv at hioE => rhs; simp only [inOrder, if_neg hl2]
      simp only [inOrder, if_neg hl2] at hokT
      generalize hrr : inOrder f (newSyms R (row.length / 2)) (R ++ newRules R row (row.length / 2)) = rr at *
      obtain ⟨PS, RR, TT⟩ := rr
      dsimp only at hlints hreft2 hst2
      (refine Mine.el_EALL (OK.ext) ?_; intro S' hS1 hS2)
      have hPl : PS.length = row.length / 2 := by rw [OK.perm.length_eq, hSl]
      have hRR : RR.length = R.length + row.length / 2 + S'.length := by
        have : RR = R ++ newRules R row (row.length / 2) ++ S' := hS1
        rw [this, List.length_append, hRl]
      have hkr : ∀ k ∈ PS, 256 ≤ k ∧ k < 256 + (RR.length : Int) := fun k hk => by
        have := OK.perm.mem_iff.mp hk
        unfold newSyms at this
        (refine Mine.el_EALL (List.mem_map.mp this) ?_; intro j hj rf2; subst rf2)
        have := List.mem_range.mp hj
        exact Mine.om116 hRR this
      have hlvl' : lv.length = row.length / 2 := by rw [hlvl]; exact hPl
      have hRR120 : RR.length < 120 := o_lenR hRR hS2 hSl hl20 hlen
      refine Hold.off ?_
      refine LCg.CompSrc.ledger rfl (by k_asm) (by k_asm) (List.Mem.head _) ?csz (fun gC => ?_)
      case csz => show lv.toArray.size ≤ sizeLine; rw [List.size_toArray, hlvl']; exact Nat.le_trans (Nat.div_le_self _ _) (Nat.le_trans hl20 (of_decide_eq_true rfl))
      refine kcf_list (fun k => (ruleAt RR k).1) hlints ?turnC0 ?finC0
      case turnC0 =>
        intro k t I oI C1 oC D1 m₂ ys h tk E' hk hC hx F4 N4 off ne mark
        have hk2 := hkr k hk
        have n4 := News.get N4 (a := ra) (o := lstO refs2 n2) (by exact mem6)
        (refine Mine.el_E4ALL (hreft2.2 _ _ _ (ruleAt_some hk2.1 hk2.2)) ?_; intro qq tq uq nq eq1 eq2)
        have hq4 : h.get? qq = some (tupO [Value.int (ruleAt RR k).1 tq, Value.int (ruleAt RR k).2 uq] nq) := by
          rcases List.mem_append.mp eq2 with z | z
          · exact F4.keep _ _ (hta _ z)
          · exact News.get N4 (by repeat (first | exact z | apply List.mem_cons_of_mem))
        k_steps
        refine Hold.off ?_
        refine sub_list_h n4 (o_k0 hk2.1) (o_k1 hk2.2 hRR120) eq1 ?_
        k_steps
        refine Hold.off ?_
        refine sub_tup_h (j := 0) hq4 (by decide) (by decide) rfl rfl ?_
        k_steps
      clear mk
      k_steps
      rename_i hI0 hL0 la hla tkla Fla Nla ola
      refine Hold.off ?_
      refine LCg.CompSrc.ledger rfl (by k_asm) (by k_asm) (List.Mem.tail _ (List.Mem.head _)) ?csz1 (fun gC1 => ?_)
      case csz1 => show lv.toArray.size ≤ sizeLine; rw [List.size_toArray, hlvl']; exact Nat.le_trans (Nat.div_le_self _ _) (Nat.le_trans hl20 (of_decide_eq_true rfl))
      refine kcf_list (fun k => (ruleAt RR k).2) hlints ?turnC1 ?finC1
      case turnC1 =>
        intro k t I oI C1 oC D1 m₂ ys h tk E' hk hC hx F4 N4 off ne mark
        have hk2 := hkr k hk
        have n4 := News.get N4 (a := ra) (o := lstO refs2 n2) (by exact mem7)
        (refine Mine.el_E4ALL (hreft2.2 _ _ _ (ruleAt_some hk2.1 hk2.2)) ?_; intro qq tq uq nq eq1 eq2)
        have hq4 : h.get? qq = some (tupO [Value.int (ruleAt RR k).1 tq, Value.int (ruleAt RR k).2 uq] nq) := by
          rcases List.mem_append.mp eq2 with z | z
          · exact F4.keep _ _ (hta _ z)
          · exact News.get N4 (by repeat (first | exact z | apply List.mem_cons_of_mem))
        k_steps
        refine Hold.off ?_
        refine sub_list_h n4 (o_k0 hk2.1) (o_k1 hk2.2 hRR120) eq1 ?_
        k_steps
        refine Hold.off ?_
        refine sub_tup_h (j := 1) hq4 (by decide) (by decide) rfl rfl ?_
        k_steps
      unfold KPfDone
      intro ys1 hI1
      have hL1 := hI1.length
      have hrl20 : row.length < 100 := by exact (Nat.lt_of_le_of_lt hl20 (by decide))
      have mkI := IfMark.mk
      k_steps
      rename_i pa2 hP2 tkP FP NP oP
      refine Hold.off ?_
      (refine Mine.el_EL (Fr.map_of FP) ?_; intro mP hmP)
      have htbla : ∀ p ∈ tb, p.1 ≠ la := off1_ne ola.2.2.2.2.2
      (refine Mine.el_EL (show ∃ x, x = lateOf RR row PS from (⟨_, rfl⟩)) ?_; intro Lt hLt)
      have hLl : Lt.length = row.length / 2 + row.length % 2 := by rw [hLt]; exact lateOf_length _ _ _ hPl
      (refine Mine.el_EL (show ∃ x, x = partOf RR PS from (⟨_, rfl⟩)) ?_; intro Pt hPt)
      have hPtl : Pt.length = row.length / 2 := by rw [hPt, partOf_length]; exact hPl
      have hI1' : IntsAre ys1 Pt := by rw [hPt]; exact hI1
      clear hI1 hL1
      refine wpAny_mono (Q := Mid s (fun h' => ∃ lv2 ln2, Fr g L' h' mP ∧ News g L' h' ((pa2, lstO ys1 ys1.length) :: (la, lstO lv2 ln2) :: (L' + 1, oc1) :: (K.aa, o2) :: (ra, lstO refs2 n2) :: (162, to2) :: tb) ∧ IntsAre lv2 Lt)) ?brI ?restI (fun _ _ x => x)
      case brI =>
        k_steps
        · rename_i hodd tO
          refine Hold.off ?_
          have hsz0 : ys.length = row.length / 2 := by rw [hI0.length, List.length_map]; exact hPl
          refine' append_K ?xk1 ?xk2 ?xk3 ?_ ?xz
          case xk1 => k_asm
          case xk2 => k_asm
          case xz => show ys.toArray.size ≤ sizeLine; rw [List.size_toArray, hsz0]; exact Nat.le_trans (Nat.div_le_self _ _) (Nat.le_trans hl20 (of_decide_eq_true rfl))
          case xk3 => k_upd
          intro h7 F7 N7
          k_steps
          simp only [List.push_toArray] at N7
          have z1 := News.hd N7
          have z2 := News.hd (News.tl N7)
          have z3 := News.hd (News.tl (News.tl (News.tl N7)))
          have z4 := News.tl (News.tl (News.tl N7))
          refine Mid.mk' ⟨_, _, by rw [hmP]; exact F7, News.cons' (News.cons' z4 z2.1 z2.2.1 z2.2.2) z1.1 z1.2.1 z1.2.2, ?_⟩
          rw [hLt]
          unfold lateOf
          have hodd' : row.length % 2 = 1 := by rw [Int.fmod_eq_emod_of_nonneg _ (by decide)] at hodd; exact Mine.om117 hodd
          rw [if_pos hodd']
          refine hI0.append ?_
          have e : ∀ k : Nat, k = row.length - 1 → IntsAre [Value.int (row.getD k 0) tO] [row.getD (row.length - 1) 0] := by
            rintro k rfl
            exact .cons _ _ .nil
          exact e _ (o_last hl2)
        · rename_i heven
          refine Mid.mk' ⟨ys, ys.length, by rw [hmP]; exact FP, ?_, ?_⟩
          · have z1 := News.hd NP
            have z2 := News.hd (News.tl NP)
            have z4 := News.tl (News.tl (News.tl NP))
            exact News.cons' (News.cons' z4 z2.1 z2.2.1 z2.2.2) z1.1 z1.2.1 z1.2.2
          · rw [hLt]
            unfold lateOf
            have heven' : ¬ row.length % 2 = 1 := by rw [Int.fmod_eq_emod_of_nonneg _ (by decide)] at heven; exact Mine.om118 heven
            rw [if_neg heven', List.append_nil]
            exact hI0
      case restI =>
        (intro fl s' q13q; refine Mine.el_ALE2ALE2ALALL q13q ?_; intro rf14 h5 tk5 rf15 lv2 ln2 F5 N5 hI5; subst rf14; subst rf15; clear q13q)
        rw [hmP] at F5
        have hL5 := hI5.length
        k_steps
        rename_i tX l0 hX1 lX1 ca cv hX2 hIc lX2 hX3 hX4 F6 N6
        refine Hold.off ?_
        refine For_invVF F6 rfl rfl ?_
        have mk := RgMark.mk
        k_steps
        rename_i tx hX5 F7 N7 lX3
        refine Hold.off ?_
        have e_caK : ca ≠ K.aa := Nat.ne_of_gt lX2.2.2.2.2.1
        have e_raC : ra ≠ ca := Nat.ne_of_lt lX2.2.2.2.2.2.1
        have e_ca162 : ca ≠ 162 := Nat.ne_of_gt lX2.2.2.2.2.2.2.1
        have e_gl : ∀ q ∈ K.gl, q.1 ≠ ca ∧ q.1 ≠ 162 := fun q hq => ⟨Nat.ne_of_lt (Nat.lt_trans (Nat.lt_trans (En.lt (hgl q hq)) (Nat.lt_succ_self _)) lX2.2.2.2.1), (h5' q hq).2⟩
        have n_tx : tx ∉ ([K.aa, ca, 162] : List Addr) := nin3 (Nat.ne_of_gt lX3.2.2.2.2.2.1) (Nat.ne_of_gt lX3.1) (Nat.ne_of_gt lX3.2.2.2.2.2.2.2.1)
        have n_pa : pa2 ∉ ([K.aa, ca, 162] : List Addr) := nin3 (Ne.symm oP.2.2.2.1) (Nat.ne_of_lt lX2.2.1) (Ne.symm oP.2.2.2.2.2.1)
        have n_la : la ∉ ([K.aa, ca, 162] : List Addr) := nin3 (Ne.symm ola.2.2.1) (Nat.ne_of_lt lX2.2.2.1) (Ne.symm ola.2.2.2.2.1)
        have n_L1 : L' + 1 ∉ ([K.aa, ca, 162] : List Addr) := nin3 (a := K.aa) (b := ca) (c := 162) (x := L' + 1) (Nat.ne_of_gt (Nat.lt_trans q1 (Nat.lt_succ_self _))) (Nat.ne_of_lt lX2.2.2.2.1) (Nat.ne_of_gt (Nat.lt_trans q3 (Nat.lt_succ_self _)))
        have n_ra : ra ∉ ([K.aa, ca, 162] : List Addr) := nin3 h1 e_raC h7
        have Pl := mk_plan hin (Nat.le_of_not_lt hl2) hl20 OK
        dsimp only at Pl
        rw [← hLt, ← hPt] at Pl
        (refine Mine.el_EL (Fr.map_of F7) ?_; intro mY hmY)
        obtain ⟨lo, vs3, hlo1, hlo2, hvs3, hvs3', y1, y2, y3⟩ : ∃ (lo : Obj) (vs3 : List Value), lo.cls = .type "tuple" ∧ lo.data = .seq vs3.toArray 0 ∧ vs3.length = 3 ∧ (∀ i v, i < 3 → vs3[i]? = some v → ∃ t, v = Value.int (sOf i) t) ∧ hX5.get? tx = some lo ∧ tx ≠ L' ∧ g.get? tx = none :=
          ⟨_, _, rfl, rfl, rfl, fun i v hi hv => by
            match i, hi with
            | 0, _ => exact ⟨_, (Option.some.inj hv).symm⟩
            | 1, _ => exact ⟨_, (Option.some.inj hv).symm⟩
            | 2, _ => exact ⟨_, (Option.some.inj hv).symm⟩, (News.hd N7).1, (News.hd N7).2.1, (News.hd N7).2.2⟩
        have w1 := News.hd (News.tl N7)
        have w2 := News.tl (News.tl (News.tl N7))
        have N8 : News g L' hX5 ((tx, lo) :: (ca, lstO cv 0) :: (pa2, lstO ys1 ys1.length) :: (la, lstO lv2 ln2) :: (L' + 1, oc1) :: (K.aa, o2) :: (ra, lstO refs2 n2) :: (162, to2) :: tb) :=
          News.cons' (News.cons' w2 w1.1 w1.2.1 w1.2.2) y1 y2 y3
        refine my_tuple (lo := lo) (vs := vs3) (nn := 0) (fun i m news => ∃ o to' cv cn tl, news = (tx, lo) :: (ca, lstO cv cn) :: (pa2, lstO ys1 ys1.length) :: (la, lstO lv2 ln2) :: (L' + 1, oc1) :: (K.aa, o) :: (ra, lstO refs2 n2) :: (162, to') :: tl ∧
            K.St (hist ++ newAns R row (row.length / 2) ++ TT ++ (putAll RR Pt Lt (ksPre Lt.length i) (Lt.getD 0 0 :: Pt)).2) o ∧ IntsAre cv (putAll RR Pt Lt (ksPre Lt.length i) (Lt.getD 0 0 :: Pt)).1 ∧ (∀ q ∈ tb, q ∈ tl) ∧ (∀ q ∈ tl, TailOk q) ∧ TabG g tl to' ∧
            (∃ u, m (Str.ofString "done") = some (Value.int (dOf i) u)) ∧ ∀ z, z ≠ Str.ofString "size" → z ≠ Str.ofString "k" → z ≠ Str.ofString "end" → z ≠ Str.ofString "done" → m z = mY z) rfl F7 N8 hlo1 hlo2 ?tax ?tj0 ?tturn ?tdone
        case tax =>
          (intro i m nx q16q; refine Mine.el_E5ALL q16q ?_; intro o to' cv cn tl rf17 _; subst rf17; clear q16q)
          exact .head _
        case tj0 =>
          refine ⟨o2, to2, cv, 0, tb, rfl, ?_, hIc, fun _ h => h, htail2, htabG2, ⟨_, rfl⟩, fun z _ _ _ _ => by rw [hmY]⟩
          simpa [ksPre, putAll] using hst2
        case tturn =>
          (intro i v m₁ news₁ I io h tk hi hv hnt q18q hoffI hltI F1 N1; refine Mine.el_E5ALALALALALALAELL q18q ?_; intro o to' cv cn tl rf19 hst9 hcv htbs htlo htg ud hmd hm9; subst rf19; clear q18q)
          rw [hvs3] at hi
          (refine Mine.el_EL (hvs3' i v hi hv) ?_; intro tv rf1; subst rf1)
          rw [canon4 hm9, hmY, hmd] at F1
          have hd9 := dOf_pos hi
          have hlla : lv2.length = Lt.length := hL5
          clear F7 N7 N8
          have mk := RgMark.mk
          k_steps
          rename_i hY0 tkY FY0 NY0 hY tkY2 tr1 tr2 tr3 hrg9 FY NY hkY
          refine Hold.off ?_
          (refine Mine.el_EL (Fr.map_of FY) ?_; intro mZ hmZ)
          have hLb : Lt.length ≤ 11 := Pl.le
          refine my_range (n := min (dOf i + sOf i) Lt.length - dOf i) (fun j m news => ∃ o to' cv cn tl, news = (I, io) :: (tx, lo) :: (ca, lstO cv cn) :: (pa2, lstO ys1 ys1.length) :: (la, lstO lv2 ln2) :: (L' + 1, oc1) :: (K.aa, o) :: (ra, lstO refs2 n2) :: (162, to') :: tl ∧
              K.St (hist ++ newAns R row (row.length / 2) ++ TT ++ (putAll RR Pt Lt (ksPre Lt.length i ++ (seg (dOf i) (sOf i) Lt.length).take j) (Lt.getD 0 0 :: Pt)).2) o ∧
              IntsAre cv (putAll RR Pt Lt (ksPre Lt.length i ++ (seg (dOf i) (sOf i) Lt.length).take j) (Lt.getD 0 0 :: Pt)).1 ∧ (∀ q ∈ tb, q ∈ tl) ∧ (∀ q ∈ tl, TailOk q ∧ q.1 ≠ I) ∧ TabG g tl to' ∧
              ∀ z, z ≠ Str.ofString "k" → z ≠ Str.ofString "end" → m z = mZ z) rfl hrg9 ?rsm ?rrs FY NY ?rj0 ?rturn ?rdone
          case rsm => exact small_down (by split <;> (first | exact Mine.om119 | exact Mine.om120 | omega)) (by split <;> (first | exact Mine.om121 hLb | exact Mine.om122 hLb (by assumption) | omega)) (by exact Mine.om119) (by exact Mine.om123 hd9.2.1)
          case rrs => rw [o_ifmin, rangeSize_downNat, o_rs]
          case rj0 =>
            refine ⟨o, to', cv, cn, tl, rfl, by simpa using hst9, by simpa using hcv, htbs, fun q hq => ⟨htlo q hq, hoffI q (by exact memT8 hq)⟩, htg, fun z _ _ => by rw [hmZ]⟩
          case rturn =>
            (intro j m₂ news₂ I2 io2 t2 h2 tk2 hj hnt2 q20q hoffI2 hltI2 F8 N9; refine Mine.el_E5ALALALALALALL q20q ?_; intro o' to3 cv' cn' tl' rf21 hst8 hcv8 htbs8 htlo8 htg8 hm8; subst rf21; clear q20q)
            rw [canon2 hm8, hmZ] at F8
            (refine Mine.el_EL (show ∃ kk, kk = min (dOf i + sOf i) Lt.length - 1 - j from (⟨_, rfl⟩)) ?_; intro kk hkk)
            have hkv : ((if (Lt.length : Int) < (dOf i : Int) + (sOf i : Int) then (Lt.length : Int) else (dOf i : Int) + (sOf i : Int)) - 1 + (j : Int) * (-1)) = (kk : Int) := by rw [o_ifmin, hkk]; exact o_kk (o_jm hj)
            rw [hkv] at F8
            have hkL : kk < Lt.length := by rw [hkk]; exact o_kkl (o_jm hj)
            have hkP : 0 < kk := by rw [hkk]; exact o_kkp hj hd9.1
            clear FY NY
            (refine Mine.el_EL (show ∃ KS, KS = ksPre Lt.length i ++ (seg (dOf i) (sOf i) Lt.length).take j from (⟨_, rfl⟩)) ?_; intro KS hKS)
            rw [← hKS] at hst8 hcv8
            (refine Mine.el_EL (ksOf_split Lt.length i j hi hj) ?_; intro kr hkr9)
            rw [← hkk, ← hKS] at hkr9
            have PS1 := plan_step Pl (ks := KS) (k := kk) (fun k' hk' => by
              rw [hKS] at hk'
              rcases List.mem_append.mp hk' with z | z
              · rw [hkk]; exact o_pre hj (mem_ksPre hi z)
              · rw [hkk]; exact o_seg hd9.1 (mem_seg_take hj z)) ⟨hkP, hkL⟩ (by rw [hKS]; exact ks_len _ _ _ hi hLb)
            have hcvl := hcv8.length
            have hsz9 : sizeLine = 16777216 := rfl
            have hokQ : K.ok (hist ++ newAns R row (row.length / 2) ++ TT ++ (putAll RR Pt Lt KS (Lt.getD 0 0 :: Pt)).2 ++ (putOne RR Pt Lt (putAll RR Pt Lt KS (Lt.getD 0 0 :: Pt)).1 kk).2) := by
              (refine Mine.el_EL (putAll_app RR Pt Lt (KS ++ [kk]) kr (Lt.getD 0 0 :: Pt)) ?_; intro rr9 hrr9)
              rw [← hkr9, putAll_snoc] at hrr9
              rw [← hLt, ← hPt] at hokT
              dsimp only at hokT hrr9
              rw [hrr9] at hokT
              refine K.okp _ rr9 ?_
              simp only [List.append_assoc] at hokT ⊢
              exact hokT
            have hotA : ∀ q ∈ (I2, io2) :: (I, io) :: (tx, lo) :: (pa2, lstO ys1 ys1.length) :: (la, lstO lv2 ln2) :: (L' + 1, oc1) :: (ra, lstO refs2 n2) :: tl', q ∈ (I2, io2) :: (I, io) :: (tx, lo) :: (ca, lstO cv' cn') :: (pa2, lstO ys1 ys1.length) :: (la, lstO lv2 ln2) :: (L' + 1, oc1) :: (K.aa, o') :: (ra, lstO refs2 n2) :: (162, to3) :: tl' ∧ q.1 ∉ ([K.aa, ca, 162] : List Addr) :=
              oth_cons mem0 (nin3 (hoffI2 (K.aa, o') mem6).symm (hoffI2 (ca, lstO cv' cn') mem2).symm (hoffI2 (162, to3) mem8).symm)
                (oth_cons mem1 (nin3 (hoffI (K.aa, o) mem5).symm (hoffI (ca, lstO cv cn) mem1).symm (hoffI (162, to') mem7).symm)
                (oth_cons mem2 n_tx (oth_cons mem4 n_pa (oth_cons mem5 n_la (oth_cons mem6 n_L1 (oth_cons mem8 n_ra fun p hp => by
                  have hq := (N9 p (memT10 hp)).1
                  have g1 := (N9 (K.aa, o') mem7).1
                  have g2 := (N9 (ca, lstO cv' cn') mem3).1
                  have g3 := (N9 (162, to3) mem9).1
                  (refine Mine.el_E2L (K.lst _ _ hst8) ?_; intro ov on hov)
                  (refine Mine.el_EL (htg8.tab) ?_; intro its3 hits3)
                  rw [hov] at g1
                  rw [hits3] at g3
                  exact ⟨memT10 hp, nin3 ((htlo8 p hp).1.ne hq g1 NotTail.list) ((htlo8 p hp).1.ne hq g2 NotTail.list) ((htlo8 p hp).1.ne162 hq g3)⟩))))))
            have hoffx : ∀ (a1 a2 a3 : Obj) (t9 : List (Addr × Obj)), (∀ p ∈ t9, p.1 ≠ I2) → ∀ p ∈ (I, io) :: (tx, lo) :: (ca, a1) :: (pa2, lstO ys1 ys1.length) :: (la, lstO lv2 ln2) :: (L' + 1, oc1) :: (K.aa, a2) :: (ra, lstO refs2 n2) :: (162, a3) :: t9, p.1 ≠ I2 := fun a1 a2 a3 t9 ht =>
              all_cons (hoffI2 (I, io) mem0) (all_cons (hoffI2 (tx, lo) mem1) (all_cons (hoffI2 (ca, lstO cv' cn') mem2) (all_cons (hoffI2 (pa2, lstO ys1 ys1.length) mem3) (all_cons (hoffI2 (la, lstO lv2 ln2) mem4) (all_cons (hoffI2 (L' + 1, oc1) mem5) (all_cons (hoffI2 (K.aa, o') mem6) (all_cons (hoffI2 (ra, lstO refs2 n2) mem7) (all_cons (hoffI2 (162, to3) mem8) ht))))))))
            have eP : putAll RR Pt Lt (ksPre Lt.length i ++ (seg (dOf i) (sOf i) Lt.length).take (j + 1)) (Lt.getD 0 0 :: Pt) = ((putOne RR Pt Lt (putAll RR Pt Lt KS (Lt.getD 0 0 :: Pt)).1 kk).1, (putAll RR Pt Lt KS (Lt.getD 0 0 :: Pt)).2 ++ (putOne RR Pt Lt (putAll RR Pt Lt KS (Lt.getD 0 0 :: Pt)).1 kk).2) := by
              rw [seg_get _ _ _ _ hj, ← List.append_assoc, ← hKS, ← hkk, putAll_snoc]
            unfold putOne at eP hokQ
            k_steps
            · rename_i hkp9 tkp9
              refine Hold.off ?_
              simp only [Int.toNat_natCast]
              have hkp10 : kk < Pt.length := by exact Mine.om26 hkp9
              have hmem9 := PS1.2.1 hkp10
              have hpl : placeOf Pt (putAll RR Pt Lt KS (Lt.getD 0 0 :: Pt)).1 kk = (putAll RR Pt Lt KS (Lt.getD 0 0 :: Pt)).1.idxOf (Pt.getD kk 0) := by unfold placeOf; rw [if_pos hkp10]
              have hhi : (putAll RR Pt Lt KS (Lt.getD 0 0 :: Pt)).1.idxOf (Pt.getD kk 0) ≤ (putAll RR Pt Lt KS (Lt.getD 0 0 :: Pt)).1.length := List.idxOf_le_length
              have hokP := hokQ
              rw [hpl] at hokP
              dsimp only at hokP
              refine kf_index (D := ca) (its := cv'.toArray) (n := cn') N9 (by exact mem3) (kf_ints_of hcv8) (kf_at_of hcv8 hmem9) rfl (by show cv'.length ≤ sizeLine; exact Nat.le_trans (Nat.le_of_lt (Nat.lt_of_le_of_lt (Nat.le_of_eq hcvl) PS1.2.2.1)) (of_decide_eq_true rfl)) ?_
              k_steps
              rename_i hE FE NE tE
              refine Hold.off ?_
              refine Con.use (put_con w K ask ra ca RR V C (hist ++ newAns R row (row.length / 2) ++ TT ++ (putAll RR Pt Lt KS (Lt.getD 0 0 :: Pt)).2) (putAll RR Pt Lt KS (Lt.getD 0 0 :: Pt)).1 (Lt.getD kk 0) ((putAll RR Pt Lt KS (Lt.getD 0 0 :: Pt)).1.idxOf (Pt.getD kk 0)) _ _ OK.wf (Nat.lt_trans hRR120 (by decide)) ⟨PS1.2.2.2.1, PS1.2.2.2.2.1, PS1.2.2.2.2.2⟩ PS1.1 hhi (by exact (Nat.lt_trans PS1.2.2.1 (by decide))) hokP
                e_caK h1 e_raC h4 e_ca162 e_gl)
                (full := _) (oth := (I2, io2) :: (I, io) :: (tx, lo) :: (pa2, lstO ys1 ys1.length) :: (la, lstO lv2 ln2) :: (L' + 1, oc1) :: (ra, lstO refs2 n2) :: tl') B FE X T NE rfl rfl rfl rfl (by show D + 1 ≤ 800; exact Nat.le_trans (Nat.add_le_add_right hD 1) (of_decide_eq_true rfl)) (by show U + 3 ≤ 8000; exact Nat.le_trans (Nat.add_le_add_right hU 3) (of_decide_eq_true rfl)) (fp3 mem7 mem3 mem9) hotA ⟨⟨hgl'.keep (Fr.keep FE), o', News.get NE (by exact mem7), hst8⟩, ⟨refs2, n2, News.get NE (by exact mem8), hreft2.are (GL.app (hta.keep (Fr.keep FE)) (fun q hq => News.get NE (memT10 (htbs8 q hq))))⟩, ⟨cv', cn', News.get NE (by exact mem3), hcv8⟩, to3, News.get NE (by exact mem9), htg8.ok FE (fun q hq => NE q (by exact memT10 hq))⟩ ?_
              (intro r9 h9 tk9 F10 N10 K10 q22q; refine Mine.el_AALEALLAE2ALLEALL q22q ?_; intro hgl9 o9 ho9 hst9' cv9 cn9 hcv9 hints9 to9 hto9 htab9; clear q22q)
              (refine Mine.el_EALALALL (TabG.of htab9 F10 (tl := tl') (fun q hq => N10 q (by exact memT7 hq)) (fun q hq => (htlo8 q hq).1)) ?_; intro tl9 ntl9 hs9 hto9' htg9)
              have x1 := News.hd N10
              have x2 := News.hd (News.tl N10)
              have N11 := n11 N10 hcv9 (News.hd (News.tl (News.tl (News.tl NE)))).2 ho9 l1.2 hto9 l3.2 ntl9
              clear FE NE F8 N9 N10
              k_steps
              refine TurnPost.next F10 N11 (fun p hp => hp) ?Aoffx ⟨o9, to9, cv9, cn9, tl9, rfl, ?As1, ?As2, fun q hq => hs9 _ (htbs8 q hq), ?As4, htg9, ?As5⟩
              case Aoffx => exact hoffx _ _ _ _ fun p hp => (hto9' p hp).ne (ntl9 p hp).1 x1.1 hnt2
              case As1 =>
                rw [eP, hpl]
                dsimp only
                rw [← List.append_assoc]
                exact hst9'
              case As2 =>
                rw [eP, hpl]
                exact hints9
              case As4 => exact fun q hq => ⟨hto9' q hq, (hto9' q hq).ne (ntl9 q hq).1 x2.1 hnt⟩
              case As5 =>
                intro z a b
                rw [hmZ]
                simp only [if_neg a, if_neg b]
            · rename_i hkp9 hE FE NE tE
              have hkp10 : ¬ kk < Pt.length := by exact Mine.om31 hkp9
              have hpl : placeOf Pt (putAll RR Pt Lt KS (Lt.getD 0 0 :: Pt)).1 kk = (putAll RR Pt Lt KS (Lt.getD 0 0 :: Pt)).1.length := by unfold placeOf; rw [if_neg hkp10]
              have hhi : (putAll RR Pt Lt KS (Lt.getD 0 0 :: Pt)).1.length ≤ (putAll RR Pt Lt KS (Lt.getD 0 0 :: Pt)).1.length := Nat.le_refl _
              have hokP := hokQ
              rw [hpl] at hokP
              dsimp only at hokP
              refine Hold.off ?_
              refine Con.use (put_con w K ask ra ca RR V C (hist ++ newAns R row (row.length / 2) ++ TT ++ (putAll RR Pt Lt KS (Lt.getD 0 0 :: Pt)).2) (putAll RR Pt Lt KS (Lt.getD 0 0 :: Pt)).1 (Lt.getD kk 0) ((putAll RR Pt Lt KS (Lt.getD 0 0 :: Pt)).1.length) _ _ OK.wf (Nat.lt_trans hRR120 (by decide)) ⟨PS1.2.2.2.1, PS1.2.2.2.2.1, PS1.2.2.2.2.2⟩ PS1.1 hhi (by exact (Nat.lt_trans PS1.2.2.1 (by decide))) hokP
                e_caK h1 e_raC h4 e_ca162 e_gl)
                (full := _) (oth := (I2, io2) :: (I, io) :: (tx, lo) :: (pa2, lstO ys1 ys1.length) :: (la, lstO lv2 ln2) :: (L' + 1, oc1) :: (ra, lstO refs2 n2) :: tl') B FE X T NE rfl rfl rfl rfl (by show D + 1 ≤ 800; exact Nat.le_trans (Nat.add_le_add_right hD 1) (of_decide_eq_true rfl)) (by show U + 3 ≤ 8000; exact Nat.le_trans (Nat.add_le_add_right hU 3) (of_decide_eq_true rfl)) (fp3 mem7 mem3 mem9) hotA ⟨⟨hgl'.keep (Fr.keep FE), o', News.get NE (by exact mem7), hst8⟩, ⟨refs2, n2, News.get NE (by exact mem8), hreft2.are (GL.app (hta.keep (Fr.keep FE)) (fun q hq => News.get NE (memT10 (htbs8 q hq))))⟩, ⟨cv', cn', News.get NE (by exact mem3), hcv8⟩, to3, News.get NE (by exact mem9), htg8.ok FE (fun q hq => NE q (by exact memT10 hq))⟩ ?_
              (intro r9 h9 tk9 F10 N10 K10 q23q; refine Mine.el_AALEALLAE2ALLEALL q23q ?_; intro hgl9 o9 ho9 hst9' cv9 cn9 hcv9 hints9 to9 hto9 htab9; clear q23q)
              (refine Mine.el_EALALALL (TabG.of htab9 F10 (tl := tl') (fun q hq => N10 q (by exact memT7 hq)) (fun q hq => (htlo8 q hq).1)) ?_; intro tl9 ntl9 hs9 hto9' htg9)
              have x1 := News.hd N10
              have x2 := News.hd (News.tl N10)
              have N11 := n11 N10 hcv9 (News.hd (News.tl (News.tl (News.tl NE)))).2 ho9 l1.2 hto9 l3.2 ntl9
              clear FE NE F8 N9 N10
              k_steps
              refine TurnPost.next F10 N11 (fun p hp => hp) ?Boffx ⟨o9, to9, cv9, cn9, tl9, rfl, ?Bs1, ?Bs2, fun q hq => hs9 _ (htbs8 q hq), ?Bs4, htg9, ?Bs5⟩
              case Boffx => exact hoffx _ _ _ _ fun p hp => (hto9' p hp).ne (ntl9 p hp).1 x1.1 hnt2
              case Bs1 =>
                rw [eP, hpl]
                dsimp only
                rw [← List.append_assoc]
                exact hst9'
              case Bs2 =>
                rw [eP, hpl]
                exact hints9
              case Bs4 => exact fun q hq => ⟨hto9' q hq, (hto9' q hq).ne (ntl9 q hq).1 x2.1 hnt⟩
              case Bs5 =>
                intro z a b
                rw [hmZ]
                simp only [if_neg a, if_neg b]
          case rdone =>
            (intro m9 news9 h9 tk9 q24q F8 N9; refine Mine.el_E5ALALALALALALL q24q ?_; intro o' to3 cv' cn' tl' rf25 hst8 hcv8 htbs8 htlo8 htg8 hm8; subst rf25; clear q24q)
            rw [canon2 hm8, hmZ] at F8
            rw [List.take_of_length_le (by rw [seg_length]; exact Nat.le_refl _), ← ksPre_succ _ _ hi] at hst8 hcv8
            clear FY NY
            k_steps
            rename_i hG FG NG
            have hdd : ((dOf i : Int) + (sOf i : Int)) = ((dOf (i + 1) : Nat) : Int) := by rw [hd9.2.2.2]; exact Mine.om124
            refine TurnPost.next FG NG (fun p hp => hp) ?rox ⟨o', to3, cv', cn', tl', rfl, hst8, hcv8, htbs8, fun q hq => (htlo8 q hq).1, htg8, ?rdv, ?rmz⟩
            case rox => exact all_cons (hoffI (tx, lo) mem0) (all_cons (hoffI (ca, lstO cv cn) mem1) (all_cons (hoffI (pa2, lstO ys1 ys1.length) mem2) (all_cons (hoffI (la, lstO lv2 ln2) mem3) (all_cons (hoffI (L' + 1, oc1) mem4) (all_cons (hoffI (K.aa, o) mem5) (all_cons (hoffI (ra, lstO refs2 n2) mem6) (all_cons (hoffI (162, to') mem7) fun p hp => (htlo8 p hp).2)))))))
            case rdv => rw [← hdd]; exact ⟨_, rfl⟩
            case rmz =>
              intro z a b c d
              rw [hmY]
              simp only [if_neg a, if_neg b, if_neg c, if_neg d]
        case tdone =>
          (intro m9 news9 h9 tk9 q26q F8 N9; refine Mine.el_E5ALALALALALALAELL q26q ?_; intro o' to3 cv' cn' tl' rf27 hst8 hcv8 htbs8 htlo8 htg8 ud hmd hm8; subst rf27; clear q26q)
          rw [canon4 hm8, hmY] at F8
          rw [hvs3] at hst8 hcv8
          k_steps
          rw [← hLt, ← hPt] at hioE
          refine Fin.mk' F8 ⟨ca, rfl, .inr ?tfr, ?tch, ?trl, ?tat, to3, News.get N9 (by exact mem7), htg8.ok F8 (fun q hq => N9 q (by exact memT8 hq))⟩
          case tfr => exact Heap.get?_none_of_le (by rw [← En.now]; show @LE.le Nat _ L' ca; exact Mine.om125 lX2.2.2.2.1)
          case tch => rw [hioE]; exact ⟨cv', cn', News.get N9 (by exact mem1), hcv8⟩
          case trl => rw [hioE]; exact ⟨refs2, n2, News.get N9 (by exact mem6), hreft2.are (GL.app (hta.keep F8.keep) (fun q hq => News.get N9 (memT8 (htbs8 q hq))))⟩
          case tat =>
            rw [hioE]
            refine ⟨hgl'.keep F8.keep, o', News.get N9 (by exact mem5), ?_⟩
            have e3 : ksPre Lt.length 3 = ksOf Lt.length := rfl
            rw [e3] at hst8
            dsimp only
            simp only [List.append_assoc] at hst8 ⊢
            exact hst8

theorem ord_con (w : World) (K : Asker) (ask : Addr) (V : Int → Prop) (C : AskC w ask K V) : ∀ f, ∀ D U, D + 5 * f ≤ 790 → U + 50 * f ≤ 7900 → 1 ≤ f → OrdCon w K ask V D U f
  | 0, _, _, _, _, h => absurd h (by decide)
  | f + 1, D, U, h1, h2, _ => ord_step w K ask V C D U f (by exact Mine.om126 h1) (by exact Mine.om127 h2) fun h => ord_con w K ask V C f (D + 5) (U + 50) (by exact Mine.om128 h1) (by exact Mine.om129 h2) h
end
end Mine

-- Dig
open PySem PySem.W PyProof.Rows
set_option Elab.async false
set_option maxRecDepth 100000
set_option maxHeartbeats 1500000
namespace Mine
open PySem.Calls PySem.Spec
section
local macro_rules | `(tactic| walk_at "And") => `(tactic| ((with_reducible show FnAt _ _ ∧ _); refine ⟨FnAt.keep (by with_reducible assumption) (Fr.keep (by k_asm)), ?_⟩))
local macro_rules | `(tactic| walk_at "call ref") => `(tactic| refine Hold.on ?_)
theorem GL.six {h : Heap} {a1 a2 a3 a4 a5 a6 : Addr} {o1 o2 o3 o4 o5 o6 : Obj} (e1 : h.get? a1 = some o1) (e2 : h.get? a2 = some o2) (e3 : h.get? a3 = some o3) (e4 : h.get? a4 = some o4) (e5 : h.get? a5 = some o5) (e6 : h.get? a6 = some o6) :
    ∃ gg, GL gg h ∧ (a1, o1) ∈ gg ∧ (a2, o2) ∈ gg ∧ (a3, o3) ∈ gg ∧ (a4, o4) ∈ gg ∧ (a5, o5) ∈ gg ∧ (a6, o6) ∈ gg :=
  ⟨[(a1, o1), (a2, o2), (a3, o3), (a4, o4), (a5, o5), (a6, o6)], GL.cons e1 (GL.cons e2 (GL.cons e3 (GL.cons e4 (GL.cons e5 (GL.cons e6 GL.nil))))), by simp, by simp, by simp, by simp, by simp, by simp⟩
local macro_rules | `(tactic| walk_at "eval Name") => `(tactic| (k_here; k_dflt (refine' nameX_FH ?F ?c ?v ?d ?_ ?hk ?hx; (case hk => rfl); (case hx => rfl); (case F => k_asm); (case c => rfl); (case v => with_reducible assumption); (case d => with_reducible assumption); k_whole)))
local macro_rules | `(tactic| walk_at "callWith ref") => `(tactic| ((with_reducible rename FnAt _ _ => fnX); refine callWith_F (FnAt.keep fnX (Fr.keep (by k_asm))) ?_))
local macro_rules | `(tactic| walk_at "binaryOp LShift int int") => `(tactic| refine Hold.on ?_)
local macro_rules | `(tactic| walk_at "binaryOp RShift") => `(tactic| refine Hold.on ?_)
def toNum : List Int → Int
  | [] => 0
  | d :: r => d + 2 * toNum r
theorem toNum_append : ∀ (a b : List Int), toNum (a ++ b) = toNum a + 2 ^ a.length * toNum b
  | [], b => by simp [toNum]
  | d :: a, b => by
    simp only [List.cons_append, toNum, toNum_append a b, List.length_cons, Int.pow_succ]
    rw [Int.mul_add, Int.add_assoc, ← Int.mul_assoc, Int.mul_comm 2 (2 ^ a.length)]
theorem toNum_bound : ∀ (a : List Int), (∀ d ∈ a, 0 ≤ d ∧ d ≤ 1) → 0 ≤ toNum a ∧ toNum a < 2 ^ a.length
  | [], _ => by simp [toNum]
  | d :: a, h => by
    have h1 := h d (.head _)
    have h2 := toNum_bound a fun e he => h e (.tail _ he)
    simp only [toNum, List.length_cons, Int.pow_succ]
    exact Mine.om130 h1.1 h1.2 h2.1 h2.2
theorem slice_one {ds : List Int} {L : Nat} (h : L < ds.length) : (ds.drop L).take 1 = [ds.getD L 0] := by
  rw [List.drop_eq_getElem_cons h, List.getD_eq_getElem?_getD, List.getElem?_eq_getElem h]; rfl
theorem slice_split {ds : List Int} {L M R : Nat} (h1 : L ≤ M) (h2 : M ≤ R) (h3 : R ≤ ds.length) : toNum ((ds.drop L).take (R - L)) = toNum ((ds.drop M).take (R - M)) * 2 ^ (M - L) + toNum ((ds.drop L).take (M - L)) := by
  have e : (ds.drop L).take (R - L) = (ds.drop L).take (M - L) ++ (ds.drop M).take (R - M) := by
    have : R - L = (M - L) + (R - M) := by exact Mine.om131 h1 h2
    rw [this, List.take_add, List.drop_drop]
    congr 3
    exact Mine.om132 h1
  rw [e, toNum_append, List.length_take, List.length_drop, Nat.min_eq_left (by exact Mine.om133 h2 h3), Int.mul_comm, Int.add_comm]
theorem dig_con (w : World) (a : Addr) (ds : List Int) (tn : Tok) (hne : 0 < ds.length) (hl : ds.length ≤ 60) (hb : ∀ d ∈ ds, 0 ≤ d ∧ d ≤ 1) :
    Con w 600 6000 (Value.ref 53) [Value.ref a, Value.int 1 tn] [] [48]
      (fun h => h.get? 48 = some (tabObj #[]) ∧ ∃ vs n, h.get? a = some (lstO vs n) ∧ IntsAre vs ds)
      (fun _ r h' => (∃ u, r = Value.int (toNum ds) u) ∧ GrownAt 48 h') := by
  refine' Con.fnC (ho := ?o) (hcd := ?c) ?room ?bind ?kind ?nd ?co ?gen ?k ?body
  case o => k_is
  case c => k_is
  case room => decide
  case bind => intro s _; exact BindsTo.of_eq rfl
  case kind => rfl
  case nd => decide +kernel
  case co => rfl
  case gen => rfl
  case k => rfl
  intro p' loose mean mg mb gd env outer base g L' h₁ s tk₁ cells hpre En F NC Y hcf B X T
  (refine Mine.el_ALE2ALL (hpre) ?_; intro hto vs nn hcl hints; try clear hpre)
  have h48 : a ≠ 48 := fun e => by rw [e, hto] at hcl; cases hcl
  have l1 := En.led _ _ hto (by simp)
  have hcl' := En.inn _ _ hcl (by simpa using h48)
  have hL : g.IsList a vs.toArray := ⟨_, hcl', rfl, nn, rfl⟩
  have q1 := ltN (En.lt hto)
  have q2 := ltN (En.lt hcl)
  have CH : CodeHd g 52 48 := codeHd_of_K X (by kernel_rfl)
  k_cells Y
  rename_i o1 o2 o3 d1 d2 d3
  have N := News.app NC (News.cons' News.nil l1.1 l1.2.1 l1.2.2)
  simp only [List.cons_append, List.nil_append] at N
  k_steps
  rename_i f' c' oc vs' t' ct dc hA tkA e1 e2 lA l2 hB oI FB NB dI
  refine Hold.off ?_
  have d2' : o2.data = .cell (some (Value.int 1 tn)) := d2
  have d3' : o3.data = .cell (some (Value.ref a)) := d3
  (refine Mine.el_EALALALALALALL (GL.six (FB.keep _ _ hcl') (News.hd (News.tl NB)).1 (News.hd NB).1 (News.hd (News.tl (News.tl NB))).1 (News.hd (News.tl (News.tl (News.tl NB)))).1 (News.hd (News.tl (News.tl (News.tl (News.tl NB))))).1) ?_; intro gg G ma mc mf mi mn md)
  have KC : ∀ k Lo Hi : Nat, Hi - Lo = k → Lo < Hi → Hi ≤ ds.length → ∀ tL tR, Con w (900 - 3 * k) (9000 - 30 * k) (Value.ref f') [Value.int Lo tL, Value.int Hi tR] [] [] (fun h => GL gg h) (fun _ r _ => ∃ u, r = Value.int (toNum ((ds.drop Lo).take (Hi - Lo))) u) := by
    intro k
    induction k using Nat.strongRecOn with
    | ind k IH =>
    intro Lo Hi hk hlh hhl tL tR
    refine' Con.fn (hfn := ?bfn) ?broom ?bbind ?bloc ?bcell ?bco ?bgen ?bk ?bbody
    case bfn => exact fun h hp => ⟨_, hp _ mf, rfl, c', oc, vs', t', rfl, hp _ mc, e1, e2⟩
    case broom => show 900 - 3 * k < 1000; exact Mine.om134
    case bbind => intro s _; exact BindsTo.of_eq rfl
    case bloc => exact locs rfl
    case bcell => decide
    case bco => rfl
    case bgen => rfl
    case bk => rfl
    intro p2 loose2 mean2 mg2 mb2 gd2 env2 outer2 base2 g2 L2 h2 s2 tk2 hpre2 En2 F2 B2 X2 T2
    have hgg2 : GL gg g2 := GL.inn hpre2 En2 (fun q hq => by simp)
    have N2 : News g2 L2 h2 [] := News.nil
    have z1 := hgg2 _ mi
    have z2 := hgg2 _ mn
    have z3 := hgg2 _ md
    have z4 := hgg2 _ ma
    have hL2 : g2.IsList a vs.toArray := ⟨_, z4, rfl, nn, rfl⟩
    have hfn2 : FnAt f' g2 := ⟨_, _, _, _, hgg2 _ mf⟩
    clear FB NB
    (refine Mine.el_EL (show ∃ M, M = (Lo + Hi) / 2 from (⟨_, rfl⟩)) ?_; intro M hM)
    have hmid : ((Lo : Int) + (Hi : Int)).fdiv (2 ^ (1 : Int).toNat) = (M : Int) := by
      rw [Int.fdiv_eq_ediv_of_nonneg _ (by decide)]
      show ((Lo : Int) + Hi) / 2 = _
      exact Mine.om135 hM
    k_steps
    · rename_i hone tk9
      refine Fin.mk' F2 ⟨tk9, ?_⟩
      have e : Hi - Lo = 1 := by exact Mine.om136 hone
      rw [e, slice_one (by exact Mine.om137 hlh hhl)]
      simp [toNum]
    · rename_i hnot hC FC NC9
      refine Hold.off ?_
      rw [hmid]
      refine Con.use0 (IH (Hi - M) (by exact Mine.om138 hk hlh hM (by assumption)) M Hi rfl (by exact Mine.om139 hlh hM) hhl _ _) B2 (by k_asm) X2 T2 (by k_asm) rfl rfl rfl rfl (by show 900 - 3 * k + 1 ≤ 900 - 3 * (Hi - M); exact Mine.om140 hl hk hlh hhl hM (by assumption)) (by show 9000 - 30 * k + 3 ≤ 9000 - 30 * (Hi - M); exact Mine.om141 hl hk hlh hhl hM (by assumption)) (hgg2.keep (Fr.keep (by k_asm))) ?_
      (intro r h5 tk5 F5 N5 K5 q1q; refine Mine.el_EL q1q ?_; intro u5 rf2; subst rf2; clear q1q)
      have bnd := toNum_bound ((ds.drop M).take (Hi - M)) (fun d hd => hb d (List.mem_of_mem_drop (List.mem_of_mem_take hd)))
      k_steps
      refine Hold.off ?_
      have hsh : (((Lo : Int) + (Hi : Int)).fdiv (2 ^ (1 : Int).toNat) - (Lo : Int)) * 1 = ((M - Lo : Nat) : Int) := by rw [hmid]; exact Mine.om142 hlh hM
      rw [hsh]
      have hpw : (2 : Int) ^ ((ds.drop M).take (Hi - M)).length ≤ 2 ^ 60 := by
        have : ((ds.drop M).take (Hi - M)).length ≤ 60 := by simp; exact Mine.om143 hl
        have h2 : (2 : Nat) ^ ((ds.drop M).take (Hi - M)).length ≤ 2 ^ 60 := Nat.pow_le_pow_right (by decide) this
        exact_mod_cast h2
      refine lshift_int_small (by exact Mine.om144) (by exact Mine.om145 hl hhl hM) (by omega) ?_
      rw [Int.toNat_natCast]
      k_steps
      refine Hold.off ?_
      rw [hmid]
      refine Con.use0 (IH (M - Lo) (by exact Mine.om146 hk hlh hM) Lo M rfl (by exact Mine.om147 hlh hM (by assumption)) (by exact Mine.om148 hlh hhl hM) _ _) B2 (by k_asm) X2 T2 (by k_asm) rfl rfl rfl rfl (by show 900 - 3 * k + 1 ≤ 900 - 3 * (M - Lo); exact Mine.om149 hl hk hlh hhl hM) (by show 9000 - 30 * k + 3 ≤ 9000 - 30 * (M - Lo); exact Mine.om150 hl hk hlh hhl hM) (hgg2.keep (Fr.keep (by k_asm))) ?_
      (intro r h6 tk6 F6 N6 K6 q3q; refine Mine.el_EL q3q ?_; intro u6 rf4; subst rf4; clear q3q)
      k_steps
      have e9 := slice_split (ds := ds) (L := Lo) (M := M) (R := Hi) (by exact Mine.om151 hlh hM) (by exact Mine.om152 hlh hM) hhl
      simp only [e9]
      exact Fin.mk' F6 ⟨_, rfl⟩
  refine Con.use0 (KC (ds.length - 0) 0 ds.length rfl hne (Nat.le_refl _) _ _) B FB X T NB rfl rfl rfl rfl (by show 600 + 1 ≤ 900 - 3 * (ds.length - 0); exact Mine.om153 hl) (by show 6000 + 3 ≤ 9000 - 30 * (ds.length - 0); exact Mine.om154 hl) G ?_
  (intro r h5 tk5 F5 N5 K5 q5q; refine Mine.el_EL q5q ?_; intro u5 rf6; subst rf6; clear q5q)
  refine Fin.mk' F5 ⟨⟨u5, ?_⟩, _, (News.hd (News.tl (News.tl (News.tl (News.tl (News.tl N5)))))).1⟩
  simp
end
end Mine

-- Int2
open PySem PySem.W PyProof.Rows
set_option Elab.async false
set_option maxRecDepth 100000
set_option maxHeartbeats 8000000
namespace Mine
open PySem.Calls PySem.Spec
section
variable {M : Model} {A : Around} {E : Value → Shared → Prop} {s : Shared} {h₀ : Heap} {L a c P : Addr} {m mg mb : Str → Option Value} {cn : Str} {cs : Scope} {ccd : Value} {cl : List (Str × Addr)} {news : List (Addr × Obj)} {g : Obj → List (Addr × Obj)}
  {p : Program} {loose : List Str} {mean : ExcName → Option Value} {name qual : Str} {params : Arguments} {body : List Stmt} {scope : Scope} {pos : Pos} {firstLine : Nat} {clos : List (Str × Addr)} {to : Obj}
theorem def_any {Q : Value → Shared → Prop} (F : Fr h₀ L s.heap m) (N : News h₀ L s.heap news) (T : Top p loose mean mg mb h₀) (C : CodeHd h₀ c P) (hcd : ccd = .ref c) (hto : TabOk h₀ P pos.line pos.col qual to) (U : UpdF P to news g)
    (hcl : closureFor scope (envX cn cs L a ccd cl) = pure clos)
    (h : ∀ f c' oc vs t ctv doc h' tk to' ex, Fr h₀ L h' m → News h₀ L h' ((f, fnMade name qual params body scope clos doc ((mg "__name__").getD .none) c' ctv) :: (g to' ++ ex)) → (h₀.get? c' = some oc ∨ (c', oc) ∈ ex) → (∀ q ∈ news, ∀ e ∈ ex, e.1 ≠ q.1) →
      oc.data = .fields vs → vs[1]? = some (.str qual t) → c' ≠ P → to' = tabObj #[rawInt pos.line, rawInt pos.col, .ref c'] → (∀ q ∈ news, q.1 < f) → Q (.ref f) { s with heap := h', toks := tk }) :
    wpAny M A (makeFunction name qual params (.stmts body) scope (envX cn cs L a ccd cl) [] [] [] pos firstLine) Q E s := by
  have U' := U
  (refine Mine.el_E2ALALALL (U'.split) ?_; intro own rest rf2 hgr h1 h2; subst rf2)
  have hmem : (P, to) ∈ own ++ (P, to) :: rest := List.mem_append_right _ (.head _)
  rcases hto with rfl | ⟨c', oc, vs, t, rfl, hc, hd, hv, hP⟩
  · refine nest_K F N T C hcd U (by simp [TriplesOk]) (by rfl) hcl fun f c' oc vs t ctv doc h' tk F' N' hd hv l1 l2 => ?_
    exact h f c' oc vs t ctv doc h' tk _ [(c', oc)] F' (fun q hq => N' q (by
      rcases List.mem_cons.mp hq with rfl | hq
      · exact .head _
      rcases List.mem_append.mp hq with hq | hq
      · exact .tail _ (.tail _ hq)
      · rw [List.mem_singleton.mp hq]; exact .tail _ (.head _))) (.inr (.head _)) (fun q hq e he => by rw [List.mem_singleton.mp he]; exact (Nat.ne_of_lt (l1 q hq)).symm) hd hv (fun e => absurd (l1 _ hmem) (by rw [e]; exact Nat.lt_irrefl _)) rfl (fun q hq => Nat.lt_trans (l1 q hq) l2)
  · refine nestHit_K (c' := c') F N T C hcd hmem (by simp [TriplesOk, rawInt]) (by simp [codeAmong, rawInt]) hcl fun f ctv doc h' tk F' N' l1 => ?_
    exact h f c' oc vs t ctv doc h' tk _ [] F' (fun q hq => N' q (by rw [List.append_nil, hgr] at hq; exact hq)) (.inl hc) (fun q hq e he => by cases he) hd hv hP rfl l1
end
theorem mul_one_led {prog : Program} {w : World} {A : Around} {E : Value → Shared → Prop} {s : Shared} {h₀ : Heap} {L : Addr} {m : Str → Option Value} {news : List (Addr × Obj)} {l : Addr} {v : Value} {n : Nat} {x : Int} {u : Tok} {Q : Value → Shared → Prop}
    (Fm : Fr h₀ L s.heap m) (N : News h₀ L s.heap news) (hl : s.heap.get? l = some (lstO [v] n)) (hx : 0 ≤ x) (hx2 : x ≤ 1000)
    (h : ∀ q h', Fr h₀ L h' m → News h₀ L h' ((q, lstO (List.replicate x.toNat v) 0) :: news) → (∀ b ∈ news, b.1 < q) → Q (.ref q) { s with heap := h' }) :
    wpAny (model prog w) A (binaryOp .Mult (.ref l) (.int x u)) Q E s := by
  refine mul_list Fm N hl (by exact Mine.om155 hx) (by exact Mine.om156 hx2) (by simp; exact Mine.om157 hx2) fun h' F' N' => h _ h' F' ?_ fun b hb => Heap.lt_size (N b hb).1
  have e : ({ cls := .type "list", data := .seq (List.foldl (fun x1 x2 => x1 ++ x2) #[] (List.replicate (if (#[v] : Array Value).isEmpty = true then 0 else x.toNat) #[v])) } : Obj) = lstO (List.replicate x.toNat v) 0 := by
    simp [listMul_foldl, lstO]
  intro p hp
  rcases List.mem_cons.mp hp with rfl | hp
  · have := N' _ (.head _)
    simp only at this ⊢
    rw [← e]
    exact this
  · exact N' _ (.tail _ hp)
abbrev i2dQ : Str := Str.ofString "_int2digits.<locals>.inner"
def I2dTab (h : Heap) : Prop := ∃ o, h.get? 41 = some o ∧ TabOk h 41 35 4 i2dQ o
section
local macro_rules | `(tactic| walk_at "And") => `(tactic| ((with_reducible show FnAt _ _ ∧ _); refine ⟨FnAt.keep (by with_reducible assumption) (Fr.keep (by k_asm)), ?_⟩))
local macro_rules | `(tactic| k_all) => `(tactic| with_reducible assumption)
local macro_rules | `(tactic| walk_at "call ref") => `(tactic| refine Hold.on ?_)
local macro_rules | `(tactic| walk_at "eval Name") => `(tactic| (k_here; k_dflt (refine' nameX_FH ?F ?c ?v ?d ?_ ?hk ?hx; (case hk => rfl); (case hx => rfl); (case F => k_asm); (case c => rfl); (case v => with_reducible assumption); (case d => with_reducible assumption); k_whole)))
local macro_rules | `(tactic| walk_at "callWith ref") => `(tactic| ((with_reducible rename FnAt _ _ => fnX); refine callWith_F (FnAt.keep fnX (Fr.keep (by k_asm))) ?_))
local macro_rules | `(tactic| walk_at "binaryOp RShift") => `(tactic| refine Hold.on ?_)
local macro_rules | `(tactic| walk_at "binaryOp LShift int int") => `(tactic| refine Hold.on ?_)
local macro_rules | `(tactic| walk_at "binaryOp Mult ref int") => `(tactic| refine Hold.on ?_)
local macro_rules | `(tactic| walk_at "exec FunctionDef") => `(tactic| refine Hold.on ?_)
def bitsOf (x : Int) (k : Nat) : List Int := (List.range k).map fun i => x / 2 ^ i % 2
def putSeg (ds : List Int) (Lo : Nat) (b : List Int) : List Int := ds.take Lo ++ b ++ ds.drop (Lo + b.length)
theorem nat_and_low (y s : Nat) : y &&& (y / 2 ^ s * 2 ^ s) = y / 2 ^ s * 2 ^ s := by
  have e : y / 2 ^ s * 2 ^ s = (y >>> s) <<< s := by rw [Nat.shiftRight_eq_div_pow, Nat.shiftLeft_eq]
  rw [e]
  apply Nat.eq_of_testBit_eq
  intro i
  rw [Nat.testBit_and, Nat.testBit_shiftLeft]
  by_cases h : s ≤ i
  · simp [h, Nat.testBit_shiftRight]
  · simp [h]
theorem xor_low (y : Int) (s : Nat) (hy : 0 ≤ y) : Builtin.bitXor y (y / 2 ^ s * 2 ^ s) = y % 2 ^ s := by
  (refine Mine.el_EL (Int.eq_ofNat_of_zero_le hy) ?_; intro n rf1; subst rf1)
  have e : ((n : Int) / 2 ^ s * 2 ^ s) = ((n / 2 ^ s * 2 ^ s : Nat) : Int) := by push_cast; rfl
  rw [e, bitXor_and, bitAnd_pp (by omega) (by exact Mine.om158), Int.toNat_natCast, Int.toNat_natCast, nat_and_low]
  have h1 := Nat.div_add_mod n (2 ^ s)
  have e2 : ((n : Int) % 2 ^ s) = ((n % 2 ^ s : Nat) : Int) := by push_cast; rfl
  rw [e2]
  have h2 := Nat.mul_comm (2 ^ s) (n / 2 ^ s)
  exact Mine.om159 h1 h2
theorem bitsOf_len (x : Int) (k : Nat) : (bitsOf x k).length = k := by simp [bitsOf]
theorem bitsOf_split (y : Int) (a b : Nat) (hy : 0 ≤ y) : bitsOf y (a + b) = bitsOf (y % 2 ^ a) a ++ bitsOf (y / 2 ^ a) b := by
  unfold bitsOf
  rw [List.range_add, List.map_append, List.map_map]
  congr 1
  · refine List.map_congr_left fun i hi => ?_
    have hi := List.mem_range.mp hi
    have e : (2 : Int) ^ a = 2 ^ i * (2 * 2 ^ (a - i - 1)) := by
      rw [← Int.pow_succ', ← Int.pow_add]; congr 1; exact Mine.om160 hi
    have e2 : y % 2 ^ a / 2 ^ i = y / 2 ^ i - 2 * (2 ^ (a - i - 1) * (y / 2 ^ a)) := by
      have e3 : y % 2 ^ a = y - 2 ^ i * (2 * (2 ^ (a - i - 1) * (y / 2 ^ a))) := by
        rw [Int.emod_def, ← Int.mul_assoc 2, ← Int.mul_assoc (2 ^ i), ← e]
      rw [e3, Int.sub_mul_ediv_left _ _ (by exact Int.ne_of_gt (Int.pow_pos (by decide)))]
    show y / 2 ^ i % 2 = y % 2 ^ a / 2 ^ i % 2
    rw [e2]
    exact Mine.om161
  · refine List.map_congr_left fun i _ => ?_
    show y / 2 ^ (a + i) % 2 = _
    rw [Int.pow_add, ← Int.ediv_ediv_of_nonneg (by exact Int.le_of_lt (Int.pow_pos (by decide)))]
theorem bitsOf_one (y : Int) (h0 : 0 ≤ y) (h1 : y < 2) : bitsOf y 1 = [y] := by
  have : y = 0 ∨ y = 1 := by exact Mine.om162 h0 h1
  rcases this with rfl | rfl <;> decide
theorem putSeg_len (ds : List Int) (Lo : Nat) (b : List Int) (h : Lo + b.length ≤ ds.length) : (putSeg ds Lo b).length = ds.length := by
  simp [putSeg]; exact Mine.om163 h
theorem putSeg_one (ds : List Int) (Lo : Nat) (y : Int) (h : Lo < ds.length) : putSeg ds Lo [y] = ds.set Lo y := by
  simp [putSeg, List.set_eq_take_append_cons_drop, h]
theorem putSeg_two (ds : List Int) (Lo : Nat) (b b' : List Int) (h : Lo + b.length + b'.length ≤ ds.length) : putSeg (putSeg ds Lo b) (Lo + b.length) b' = putSeg ds Lo (b ++ b') := by
  unfold putSeg
  have e1 : (ds.take Lo ++ b).length = Lo + b.length := by simp; exact Mine.om164 h
  have e2 : (ds.take Lo ++ b ++ ds.drop (Lo + b.length)).take (Lo + b.length) = ds.take Lo ++ b := by
    rw [← e1, List.take_left]
  rw [e2]
  have e3 : (ds.take Lo ++ b ++ ds.drop (Lo + b.length)).drop (Lo + b.length + b'.length) = ds.drop (Lo + (b ++ b').length) := by
    rw [← List.drop_drop, ← e1, List.drop_left, List.drop_drop, e1]; simp [Nat.add_assoc]
  rw [e3]; simp
theorem putSeg_all (ds b : List Int) (h : ds.length = b.length) : putSeg ds 0 b = b := by
  simp [putSeg, ← h]
theorem ints_rep (k : Nat) (t : Tok) : IntsAre (List.replicate k (Value.int 0 t)) (List.replicate k 0) := by
  induction k with
  | zero => exact .nil
  | succ k ih => exact .cons 0 t ih
theorem GL.sixq {h : Heap} {q a1 a2 a3 a4 a5 : Addr} {o1 o2 o3 o4 o5 : Obj} (e1 : h.get? a1 = some o1) (e2 : h.get? a2 = some o2) (e3 : h.get? a3 = some o3) (e4 : h.get? a4 = some o4) (e5 : h.get? a5 = some o5) (n1 : a1 ≠ q) (n2 : a2 ≠ q) (n3 : a3 ≠ q) (n4 : a4 ≠ q) (n5 : a5 ≠ q) :
    ∃ gg, GL gg h ∧ (a1, o1) ∈ gg ∧ (a2, o2) ∈ gg ∧ (a3, o3) ∈ gg ∧ (a4, o4) ∈ gg ∧ (a5, o5) ∈ gg ∧ ∀ p ∈ gg, p.1 ≠ q :=
  ⟨[(a1, o1), (a2, o2), (a3, o3), (a4, o4), (a5, o5)], GL.cons e1 (GL.cons e2 (GL.cons e3 (GL.cons e4 (GL.cons e5 GL.nil)))), by simp, by simp, by simp, by simp, by simp, by simp [n1, n2, n3, n4, n5]⟩
theorem i2d_con (w : World) (x : Int) (k : Nat) (tx tn : Tok) (hx : 0 ≤ x) (hk0 : Builtin.Int.intBits x = k) (hk : k ≤ 60) (hxk : x < 2 ^ k) :
    Con w 600 6000 (Value.ref 46) [Value.int x tx, Value.int 1 tn] [] [41]
      I2dTab
      (fun h r h' => I2dTab h' ∧ ∃ q vs n, r = Value.ref q ∧ h.get? q = none ∧ h'.get? q = some (lstO vs n) ∧ IntsAre vs (bitsOf x k)) := by
  refine' Con.fnC (ho := ?o) (hcd := ?c) ?room ?bind ?kind ?nd ?co ?gen ?k ?body
  case o => k_is
  case c => k_is
  case room => decide
  case bind => intro s _; exact BindsTo.of_eq rfl
  case kind => rfl
  case nd => decide +kernel
  case co => rfl
  case gen => rfl
  case k => rfl
  intro p' loose mean mg mb gd env outer base g L' h₁ s tk₁ cells hpre En F NC Y hcf B X T
  (refine Mine.el_EALL (hpre) ?_; intro to hto htab; try clear hpre)
  have l1 := En.led _ _ hto (by simp)
  have q1 := ltN (En.lt hto)
  have htab' : TabOk g 41 35 4 i2dQ to := htab.keep fun b o fv hd hP hb => En.inn _ _ hb (by simpa using hP)
  have CH : CodeHd g 45 41 := codeHd_of_K X (by kernel_rfl)
  k_cells Y
  have N := News.app NC (News.cons' News.nil l1.1 l1.2.1 l1.2.2)
  simp only [List.cons_append, List.nil_append] at N
  k_steps
  refine Hold.off ?_
  have hkk : (((Builtin.Int.intBits x : Nat) : Int) + 1 - 1).fdiv 1 = (k : Int) := by rw [hk0, Int.fdiv_one]; exact Mine.om165
  rw [hkk]
  refine mul_one_led (n := 0) (by k_asm) (by k_asm) (News.hd (by k_asm)).1 (by exact Mine.om158) (by exact Mine.om166 hk) ?_
  intro q h2 F2 N2 l2
  k_lt l2
  rw [Int.toNat_natCast] at N2
  k_steps
  refine Hold.off ?_
  k_dflt (refine' nestDef_K ?d0 ?k0 ?a0 ?_; (case d0 => exact rfl); (case k0 => exact rfl); (case a0 => exact rfl))
  refine' def_any (L := L') (P := 41) (to := to) ?F ?N T ?C ?cd ?tab ?U ?cl ?_
  case F => k_asm
  case N => k_asm
  case C => exact CH
  case cd => exact rfl
  case tab => exact htab'
  case U => k_updF
  case cl => exact rfl
  intro f' c' oc vs' t' ctv doc h' tk' to' ex F3 N3 hc' hex hd' hv' hP' hto3 l4
  k_lt l4
  simp only [List.cons_append, List.nil_append] at N3
  have hxq := hex _ (.head _)
  have hx3 := hex _ (.tail _ (.tail _ (.head _)))
  k_steps
  · rename_i o1 o2 o3 d1 d2 d3 l5 h6 l6 h7 o8 d8 h9 o9 F9 N9 d9 hx0
    have d3' : o3.data = .cell (some (Value.int 1 tn)) := d3
    have hc9 : h9.get? c' = some oc := by
      rcases hc' with e | e
      · exact F9.keep _ _ e
      · exact (N9 _ (List.mem_cons_of_mem _ (List.mem_cons_of_mem _ (List.mem_cons_of_mem _ (List.mem_cons_of_mem _ (List.mem_cons_of_mem _ (List.mem_cons_of_mem _ (List.mem_cons_of_mem _ e)))))))).1
    have hq9 := (News.hd (News.tl N9)).1
    have ncq : c' ≠ q := fun e => by rw [e, hq9] at hc9; cases hc9; cases hd'
    (refine Mine.el_EALALALALALALL (GL.sixq (q := q) hc9 (News.hd N9).1 (News.hd (News.tl (News.tl (News.tl N9)))).1 (News.hd (News.tl (News.tl (News.tl (News.tl N9))))).1 (News.hd (News.tl (News.tl (News.tl (News.tl (News.tl N9)))))).1 ncq (Nat.ne_of_gt l4.1) (Nat.ne_of_lt l2.2.1) (Nat.ne_of_lt l2.2.2.1) (Nat.ne_of_lt l2.2.2.2.1)) ?_; intro gg G mc mf mi ma mn hggq)
    have KC : ∀ n Lo Hi : Nat, Hi - Lo = n → Lo < Hi → Hi ≤ k → ∀ (ds : List Int) (y : Int) (ty tL tR : Tok), ds.length = k → 0 ≤ y → y < 2 ^ (Hi - Lo) → Con w (900 - 3 * n) (9000 - 30 * n) (Value.ref f') [Value.int y ty, Value.int Lo tL, Value.int Hi tR] [] [q]
        (fun h => GL gg h ∧ ∃ vs n, h.get? q = some (lstO vs n) ∧ IntsAre vs ds)
        (fun _ _ h' => ∃ vs n, h'.get? q = some (lstO vs n) ∧ IntsAre vs (putSeg ds Lo (bitsOf y (Hi - Lo)))) := by
      intro n
      induction n using Nat.strongRecOn with
      | ind n IH =>
      intro Lo Hi hk hlh hhl ds y ty tL tR hds hy0 hy1
      refine' Con.fn (hfn := ?bfn) ?broom ?bbind ?bloc ?bcell ?bco ?bgen ?bk ?bbody
      case bfn => exact fun h hp => ⟨_, hp.1 _ mf, rfl, c', oc, vs', t', rfl, hp.1 _ mc, hd', hv'⟩
      case broom => show 900 - 3 * n < 1000; exact Mine.om134
      case bbind => intro s _; exact BindsTo.of_eq rfl
      case bloc => exact locs rfl
      case bcell => decide
      case bco => rfl
      case bgen => rfl
      case bk => rfl
      intro p2 loose2 mean2 mg2 mb2 gd2 env2 outer2 base2 g2 L2 h2' s2 tk2 hpre2 En2 F2 B2 X2 T2
      (refine Mine.el_ALE2ALL (hpre2) ?_; intro hgg2' vs2 n2 hq2 hi2; try clear hpre2)
      have hgg2 : GL gg g2 := GL.inn hgg2' En2 (fun p hp => by simpa using hggq p hp)
      have lq := En2.led _ _ hq2 (by simp)
      have N2 := News.cons' News.nil lq.1 lq.2.1 lq.2.2
      have z1 := hgg2 _ mi
      have z2 := hgg2 _ mn
      have z3 := hgg2 _ ma
      have hfn2 : FnAt f' g2 := ⟨_, _, _, _, hgg2 _ mf⟩
      clear F9 N9 hq9
      (refine Mine.el_EL (show ∃ M, M = (Lo + Hi) / 2 from (⟨_, rfl⟩)) ?_; intro M hM)
      have hmid : ((Lo : Int) + (Hi : Int)).fdiv (2 ^ (1 : Int).toNat) = (M : Int) := by
        rw [Int.fdiv_eq_ediv_of_nonneg _ (by decide)]
        show ((Lo : Int) + Hi) / 2 = _
        exact Mine.om135 hM
      k_steps
      · rename_i hone tk9 h9' F9 N9 hi9 hl9 hs9
        refine Fin.mk' F9 ?_
        have e : Hi - Lo = 1 := by exact Mine.om136 tk9
        have hy2 : y < 2 := by rw [e] at hy1; simpa using hy1
        rw [e, bitsOf_one y hy0 hy2, putSeg_one ds Lo y (by exact Mine.om167 hlh hhl hds)]
        rw [Int.toNat_natCast] at N9 hi9
        exact ⟨_, _, (News.hd N9).1, hi9⟩
      · rename_i hnot tk9 h6' h7' h8' F9 N9
        refine Hold.off ?_
        have hsh : (((Lo : Int) + (Hi : Int)).fdiv (2 ^ (1 : Int).toNat) - (Lo : Int)) * 1 = ((M - Lo : Nat) : Int) := by rw [hmid]; exact Mine.om142 hlh hM
        have hpp : (0 : Int) < 2 ^ (M - Lo) := Int.pow_pos (by decide)
        have hup : y.fdiv (2 ^ ((((Lo : Int) + (Hi : Int)).fdiv (2 ^ (1 : Int).toNat) - (Lo : Int)) * 1).toNat) = y / 2 ^ (M - Lo) := by
          rw [hsh, Int.toNat_natCast, Int.fdiv_eq_ediv_of_nonneg _ (Int.le_of_lt hpp)]
        have hsplit : (2 : Int) ^ (Hi - Lo) = 2 ^ (M - Lo) * 2 ^ (Hi - M) := by rw [← Int.pow_add]; congr 1; exact Mine.om168 hM
        have hu0 : 0 ≤ y / 2 ^ (M - Lo) := Int.ediv_nonneg hy0 (Int.le_of_lt hpp)
        have hu1 : y / 2 ^ (M - Lo) < 2 ^ (Hi - M) := Int.ediv_lt_of_lt_mul hpp (by rw [Int.mul_comm, ← hsplit]; exact hy1)
        have hpw : (2 : Int) ^ (Hi - M) ≤ 2 ^ 60 := by
          have h2 : (2 : Nat) ^ (Hi - M) ≤ 2 ^ 60 := Nat.pow_le_pow_right (by decide) (by exact Mine.om169 (by assumption) hhl)
          exact_mod_cast h2
        have hlo0 : 0 ≤ y % 2 ^ (M - Lo) := Int.emod_nonneg _ (Int.ne_of_gt hpp)
        have hlo1 : y % 2 ^ (M - Lo) < 2 ^ (M - Lo) := Int.emod_lt_of_pos _ hpp
        rw [hup, hsh]
        refine lshift_int_small (by exact Mine.om144) (by exact Mine.om145 (by assumption) hhl hM) (by omega) ?_
        rw [Int.toNat_natCast]
        k_steps
        rename_i h10 F10 N10
        refine Hold.off ?_
        rw [hmid, xor_low y (M - Lo) hy0]
        refine Con.use (oth := []) (IH (M - Lo) (by exact Mine.om146 hk hlh hM) Lo M rfl (by exact Mine.om147 hlh hM tk9) (by exact Mine.om148 hlh hhl hM) ds _ _ _ _ hds hlo0 hlo1) B2 (by k_asm) X2 T2 (by k_asm) rfl rfl rfl rfl (by show 900 - 3 * n + 1 ≤ 900 - 3 * (M - Lo); exact Mine.om149 (by assumption) hk hlh hhl hM) (by show 9000 - 30 * n + 3 ≤ 9000 - 30 * (M - Lo); exact Mine.om150 (by assumption) hk hlh hhl hM) (by simp) (by simp) ⟨hgg2.keep (Fr.keep (by k_asm)), vs2, n2, (News.hd N10).1, hi2⟩ ?_
        (intro r h11 tk11 F11 N11' K11 q1q; refine Mine.el_E2ALL q1q ?_; intro vs3 n3 hq3 hi3; clear q1q)
        have N11 : News g2 L2 h11 [(q, lstO vs3 n3)] := News.cons' News.nil hq3 (News.hd N10).2.1 (News.hd N10).2.2
        clear N11'
        k_steps
        refine Hold.off ?_
        rw [hup, hmid]
        refine Con.use (oth := []) (IH (Hi - M) (by exact Mine.om138 hk hlh hM tk9) M Hi rfl (by exact Mine.om139 hlh hM) hhl (putSeg ds Lo (bitsOf (y % 2 ^ (M - Lo)) (M - Lo))) _ _ _ _ (by rw [putSeg_len _ _ _ (by rw [bitsOf_len]; exact Mine.om170 hlh hhl hds hM)]; exact hds) hu0 hu1) B2 (by k_asm) X2 T2 (by k_asm) rfl rfl rfl rfl (by show 900 - 3 * n + 1 ≤ 900 - 3 * (Hi - M); exact Mine.om140 (by assumption) hk hlh hhl hM tk9) (by show 9000 - 30 * n + 3 ≤ 9000 - 30 * (Hi - M); exact Mine.om141 (by assumption) hk hlh hhl hM tk9) (by simp) (by simp) ⟨hgg2.keep (Fr.keep (by k_asm)), vs3, n3, hq3, hi3⟩ ?_
        (intro r h12 tk12 F12 N12 K12 q2q; refine Mine.el_E2ALL q2q ?_; intro vs4 n4 hq4 hi4; clear q2q)
        k_steps
        refine Fin.mk' F12 ?_
        have e9 : Hi - Lo = (M - Lo) + (Hi - M) := by exact Mine.om168 hM
        have e8 : Lo + (bitsOf (y % 2 ^ (M - Lo)) (M - Lo)).length = M := by rw [bitsOf_len]; exact Mine.om171 hlh hM
        have e7 := putSeg_two ds Lo (bitsOf (y % 2 ^ (M - Lo)) (M - Lo)) (bitsOf (y / 2 ^ (M - Lo)) (Hi - M)) (by rw [bitsOf_len, bitsOf_len]; exact Mine.om172 hlh hhl hds hM)
        rw [e8] at e7
        rw [e9, bitsOf_split y _ _ hy0, ← e7]
        exact ⟨vs4, n4, hq4, hi4⟩
    refine call_len_list ⟨_, hq9, rfl, _, rfl⟩ ?lf ?_
    case lf => simp; exact Mine.om173 hk
    k_steps
    refine Hold.off ?_
    have hk1 : 0 < k := by
      rcases Nat.eq_zero_or_pos k with e | e
      · rw [e] at hxk; exact absurd (by simp at hxk; exact Mine.om174 hx hxk : x = 0) hx0
      · exact e
    have hrep := ints_rep k tk₁
    have nq := (News.hd (News.tl N9)).2
    have C0 := KC (k - 0) 0 k rfl hk1 (Nat.le_refl _) (List.replicate k 0) x tx
    have h41 := (News.hd (News.tl (News.tl (News.tl (News.tl (News.tl (News.tl N9))))))).1
    have hlen : ((((List.replicate k (Value.int 0 tk₁)).toArray.size : Nat)) : Int) = ((k : Nat) : Int) := by simp
    simp only [hlen]
    have C1 := fun tL tR => C0 tL tR (by simp) hx (by simpa using hxk)
    have e0 : ((0 : Nat) : Int) = 0 := rfl
    simp only [e0, Nat.sub_zero] at C1
    have hb1 : 600 + 1 ≤ 900 - 3 * k := by exact Mine.om175 hk
    have hb2 : 6000 + 3 ≤ 9000 - 30 * k := by exact Mine.om176 hb1
    refine Con.use (oth := []) (C1 _ _) B F9 X T (News.cons' News.nil hq9 nq.1 nq.2) rfl rfl rfl rfl hb1 hb2 (by simp) (by simp) ⟨G, _, _, hq9, hrep⟩ ?_
    (intro r h12 tk12 F12 N12' K12 q3q; refine Mine.el_E2ALL q3q ?_; intro vs4 n4 hq4 hi4; clear q3q)
    rw [putSeg_all _ _ (by simp [bitsOf_len])] at hi4
    have n8 := (News.hd (News.tl (News.tl (News.tl (News.tl N9)))))
    have n41 := (News.hd (News.tl (News.tl (News.tl (News.tl (News.tl (News.tl N9)))))))
    have N12 : News g L' h12 [(_, o8), (q, lstO vs4 n4), (41, to')] :=
      News.cons' (News.cons' (News.cons' News.nil (K12 _ _ n41.1 (by simpa using Nat.ne_of_lt l2.2.2.2.2)) n41.2.1 n41.2.2) hq4 nq.1 nq.2) (K12 _ _ n8.1 (by simpa using Nat.ne_of_lt l2.2.2.1)) n8.2.1 n8.2.2
    have hc12 : h12.get? c' = some oc := K12 _ _ hc9 (by simpa using ncq)
    have hfr : s.heap.get? q = none := Heap.get?_none_of_le (by rw [← En.now]; show @LE.le Nat _ L' q; exact Mine.om125 l2.2.2.2.1)
    clear N9 N12'
    k_steps
    refine Fin.mk' F12 ⟨⟨to', News.get N12 (a := 41) (o := to') (by simp), .inr ⟨c', oc, vs', t', hto3, hc12, hd', hv', hP'⟩⟩, q, vs4, n4, rfl, hfr, hq4, hi4⟩
  · rename_i o1 o2 o3 d1 d2 d3 l5 h6 l6 h7 o8 d8 h9 o9 F9 N9 d9 hx0
    have hk1 : k = 0 := by
      have hx1 : x = 0 := by simpa using hx0
      rw [← hk0, hx1]; rfl
    have hc9 : h9.get? c' = some oc := by
      rcases hc' with e | e
      · exact F9.keep _ _ e
      · exact (N9 _ (List.mem_cons_of_mem _ (List.mem_cons_of_mem _ (List.mem_cons_of_mem _ (List.mem_cons_of_mem _ (List.mem_cons_of_mem _ (List.mem_cons_of_mem _ (List.mem_cons_of_mem _ e)))))))).1
    have hq9 := (News.hd (News.tl N9)).1
    have n41 := (News.hd (News.tl (News.tl (News.tl (News.tl (News.tl (News.tl N9))))))).1
    have hfr : s.heap.get? q = none := Heap.get?_none_of_le (by rw [← En.now]; show @LE.le Nat _ L' q; exact Mine.om125 l2.2.2.2.1)
    subst hk1
    refine Fin.mk' F9 ⟨⟨to', n41, .inr ⟨c', oc, vs', t', hto3, hc9, hd', hv', hP'⟩⟩, q, _, _, rfl, hfr, hq9, IntsAre.nil⟩
end
end Mine

-- Read
open PySem PySem.W PyProof.Rows
set_option Elab.async false
set_option maxRecDepth 100000
set_option maxHeartbeats 8000000
namespace Mine
open PySem.Calls PySem.Spec
section
local macro_rules | `(tactic| walk_at "And") => `(tactic| ((with_reducible show FnAt _ _ ∧ _); refine ⟨FnAt.keep (by with_reducible assumption) (Fr.keep (by k_asm)), ?_⟩))
local macro_rules | `(tactic| walk_at "call ref") => `(tactic| refine Hold.on ?_)
local macro_rules | `(tactic| walk_at "eval Name") => `(tactic| (k_here; k_dflt (refine' nameX_FH ?F ?c ?v ?d ?_ ?hk ?hx; (case hk => rfl); (case hx => rfl); (case F => k_asm); (case c => rfl); (case v => with_reducible assumption); (case d => with_reducible assumption); k_whole)))
local macro_rules | `(tactic| walk_at "callWith ref") => `(tactic| ((with_reducible rename FnAt _ _ => fnX); refine callWith_F (FnAt.keep fnX (Fr.keep (by k_asm))) ?_))
local macro_rules | `(tactic| walk_at "eval Lambda") => `(tactic| refine Hold.on ?_)
local macro_rules | `(tactic| walk_at "call builtin:list.reverse") => `(tactic| refine Hold.on ?_)
local macro_rules | `(tactic| walk_at "call builtin:list.pop") => `(tactic| refine Hold.on ?_)
local macro_rules | `(tactic| walk_at "call builtin:len") => `(tactic| refine Hold.on ?_)
local macro_rules | `(tactic| walk_at "of Read") => `(tactic| skip)
theorem iseof_con (w : World) (x : Int) (t : Tok) : Con w 900 9000 (Value.ref 136) [Value.int x t] [] [] (fun _ => True) (fun _ r _ => r = Value.bool (decide (x = 0))) := by
  refine' Con.fnK (ho := ?o) (hcd := ?c) ?room ?bind ?loc ?cell ?co ?gen ?k ?body
  case o => k_is
  case c => k_is
  case room => decide
  case bind => intro s _; exact BindsTo.of_eq rfl
  case loc => rfl
  case cell => decide
  case co => rfl
  case gen => rfl
  case k => rfl
  intro p' loose mean mg mb gd env outer base g L' h₁ s tk₁ _ En F B X T
  k_steps
  exact Fin.mk' F (by rw [show (x == 0) = decide (x = 0) from rfl])
def bI (b : Bool) : Int := if b then 1 else 0
theorem TabOk.keep2 {h h' : Heap} {P : Addr} {line col : Nat} {qual : Str} {o : Obj} (x : TabOk h P line col qual o) (k : ∀ b o vs t, o.data = .fields vs → vs[1]? = some (.str qual t) → b ≠ P → h.get? b = some o → h'.get? b = some o) : TabOk h' P line col qual o := by
  rcases x with x | ⟨c', oc, vs, t, x, y, z, u, v⟩
  · exact .inl x
  · exact .inr ⟨c', oc, vs, t, x, k _ _ _ _ z u v y, z, u, v⟩
theorem TabOk.its {h : Heap} {P : Addr} {line col : Nat} {qual : Str} {o : Obj} (x : TabOk h P line col qual o) : ∃ its, o = tabObj its ∧ ∀ (u : Str) (t : Tok), its[1]? ≠ some (.str u t) := by
  rcases x with x | ⟨c', oc, vs, t, x, _⟩
  · exact ⟨_, x, by simp⟩
  · exact ⟨_, x, by simp [rawInt]⟩
theorem tab_not {o : Obj} {its vs : Array Value} {q : Str} {t : Tok} (e : o = tabObj its) (hn : ∀ (u : Str) (t : Tok), its[1]? ≠ some (.str u t)) (hd : o.data = .fields vs) (hv : vs[1]? = some (.str q t)) : False := by
  subst e
  cases hd
  exact hn _ _ hv
theorem GL.three {h : Heap} {a1 a2 a3 : Addr} {o1 o2 o3 : Obj} (e1 : h.get? a1 = some o1) (e2 : h.get? a2 = some o2) (e3 : h.get? a3 = some o3) :
    ∃ gg, GL gg h ∧ (a1, o1) ∈ gg ∧ (a2, o2) ∈ gg ∧ (a3, o3) ∈ gg ∧ ∀ p ∈ gg, p.1 = a1 ∨ p.1 = a2 ∨ p.1 = a3 :=
  ⟨[(a1, o1), (a2, o2), (a3, o3)], GL.cons e1 (GL.cons e2 (GL.cons e3 GL.nil)), .head _, .tail _ (.head _), .tail _ (.tail _ (.head _)), by simp⟩
theorem bI_eq (d : Bool) : (bI d == 1) = d := by cases d <;> rfl
/-- the one who reads: the list of the figures that wait -/
def ReadSt (trace : List Bool) (hist : List Bool) (o : Obj) : Prop := ∃ rest vs n, trace = hist ++ rest ∧ o = lstO vs n ∧ IntsAre vs (1 :: (rest.map bI).reverse)
def Reader (q : Addr) (trace : List Bool) (gl : List (Addr × Obj)) (off : ∀ p ∈ gl, p.1 ≠ q) : Asker where
  aa := q
  St := ReadSt trace
  ok := fun hist => ∃ rest, trace = hist ++ rest
  gl := gl
  okp := fun a b ⟨r, e⟩ => ⟨b ++ r, by rw [e, List.append_assoc]⟩
  off := off
  lst := fun _ _ ⟨_, vs, n, _, e, _⟩ => ⟨vs, n, e⟩
theorem read_con (w : World) (x : Int) (k : Nat) (tx : Tok) (rowa : Addr) (row : List Int) (V : Int → Prop) (f : Nat) (hx : 0 ≤ x) (hk0 : Builtin.Int.intBits x = k) (hk : k ≤ 60) (hxk : x < 2 ^ k)
    (hin : InPre [] V row) (hl : row.length ≤ f) (hf : f ≤ 20) (hf1 : 1 ≤ f) (hb : bitsOf x k = (inOrder f row []).2.2.map bI ++ [1]) :
    Con w 500 5000 (Value.ref 186) [Value.int x tx, Value.ref rowa] [] [181, 41, 162]
      (fun h => h.get? 181 = some (tabObj #[]) ∧ I2dTab h ∧ PutTab h ∧ ∃ vs n, h.get? rowa = some (lstO vs n) ∧ IntsAre vs row)
      (fun h r h' => (∃ l vs n, r = Value.ref l ∧ h'.get? l = some (lstO vs n) ∧ IntsAre vs (inOrder f row []).1) ∧ GrownAt 181 h' ∧ GrownAt 41 h' ∧ GrownAt 162 h') := by
  refine' Con.fnC (ho := ?o) (hcd := ?c) ?room ?bind ?kind ?nd ?co ?gen ?k ?body
  case o => k_is
  case c => k_is
  case room => decide
  case bind => intro s _; exact BindsTo.of_eq rfl
  case kind => rfl
  case nd => decide +kernel
  case co => rfl
  case gen => rfl
  case k => rfl
  intro p' loose mean mg mb gd env outer base g L' h₁ s tk₁ cells hpre En F NC Y hcf B X T
  (refine Mine.el_ALAEALLAEALLE2ALL (hpre) ?_; intro h181 to1 hto1 htab1 to2 hto2 htab2 vs nn hrow hints; try clear hpre)
  have l1 := En.led _ _ h181 (by simp)
  have l2 := En.led _ _ hto1 (by simp)
  have l3 := En.led _ _ hto2 (by simp)
  have q181 := ltN (En.lt h181)
  have q41 := ltN (En.lt hto1)
  have q162 := ltN (En.lt hto2)
  k_cells Y
  have N := News.app NC (News.cons' (News.cons' (News.cons' News.nil l3.1 l3.2.1 l3.2.2) l2.1 l2.2.1 l2.2.2) l1.1 l1.2.1 l1.2.2)
  simp only [List.cons_append, List.nil_append] at N
  k_steps
  rename_i oW dW
  refine Hold.off ?_
  have hdig := i2d_con w x k tx tk₁ hx hk0 hk hxk
  (refine Mine.el_EALL (htab2.its) ?_; intro i2 hi2 hn2)
  have htab1' : TabOk h₁ 41 35 4 i2dQ to1 := htab1.keep2 fun b o fv t hd hv hP hb => Fr.keep F _ _ (En.inn _ _ hb (by
    intro hm
    simp only [List.mem_cons, List.not_mem_nil, or_false] at hm
    rcases hm with rfl | rfl | rfl
    · rw [h181] at hb; cases hb; exact tab_not rfl (by simp) hd hv
    · exact hP rfl
    · rw [hto2] at hb; cases hb; exact tab_not hi2 hn2 hd hv))
  refine Con.use hdig (oth := [(L' + 1, oW), (181, tabObj #[]), (162, to2)]) B F X T N rfl rfl rfl rfl (Nat.le_of_ble_eq_true rfl) (Nat.le_of_ble_eq_true rfl) ?f1 ?f2 ⟨to1, News.get N (by simp), htab1'⟩ ?_
  case f1 => intro b hb; rw [List.mem_singleton.mp hb]; exact ⟨to1, by simp⟩
  case f2 =>
    intro p hp
    simp only [List.mem_cons, List.not_mem_nil, or_false] at hp
    have q2 := ltN (En.lt hto1)
    rcases hp with rfl | rfl | rfl
    · exact ⟨by simp, by simpa using neN (a := L' + 1) (b := 41) (by exact Mine.om177 q2)⟩
    · exact ⟨by simp, by simp⟩
    · exact ⟨by simp, by simp⟩
  (intro r h2 tk2 F2 N2' K2 q1q; refine Mine.el_AEALLE3ALALALL q1q ?_; intro to1' hto1' htab1'' q bv bn rf2 hqn hq2 hqi; subst rf2; clear q1q)
  have hqL : q ≠ L' := Fr.ne_seq F2 hq2
  have hqg : g.get? q = none := by
    cases e : g.get? q with
    | none => rfl
    | some o => rw [Fr.keep F _ _ e] at hqn; cases hqn
  have N2 : News g L' h2 [(q, lstO bv bn), (L' + 1, oW), (181, tabObj #[]), (162, to2), (41, to1')] := News.cons' (News.app N2' (News.cons' News.nil hto1' l2.2.1 l2.2.2)) hq2 hqL hqg
  have nq1 : @Ne Nat q (L' + 1) := fun e => by rw [e, News.get N (a := L' + 1) (o := oW) (by simp)] at hqn; cases hqn
  have nq2 : @Ne Nat q 181 := fun e => by rw [e, News.get N (a := 181) (o := tabObj #[]) (by simp)] at hqn; cases hqn
  have nq3 : @Ne Nat q 162 := fun e => by rw [e, News.get N (a := 162) (o := to2) (by simp)] at hqn; cases hqn
  have nq4 : @Ne Nat q 41 := fun e => by rw [e, News.get N (a := 41) (o := to1) (by simp)] at hqn; cases hqn
  clear N2' N F
  k_steps
  rename_i h3 oW3 F3 N3 dW3
  refine Hold.off ?_
  have hlen2 : bv.length ≤ 61 := by
    have := hqi.length
    rw [bitsOf_len] at this
    exact Mine.om178 hk this
  refine kl_reverse (D := q) (its := bv.toArray) (n := bn) (l := bv.reverse) F3 N3 (by simp) (Upd.head (by k_all)) (by rw [PySem.sizeLine_eq]; simp; exact Mine.om179 hlen2) ?_
  intro h4 F4 N4
  clear F3 N3
  k_steps
  refine Hold.off ?_
  refine' kla_eval ?d0 ?_
  case d0 => exact rfl
  rename_i ra5 h5 F5 N5 l5
  refine' lam_any (L := L') (P := 181) (to := tabObj #[]) ?F ?N T ?C ?cd ?tab ?U ?cl ?_
  case F => k_asm
  case N => k_asm
  case C => exact codeHd_of_K (c := 185) (P := 181) X (by kernel_rfl)
  case cd => exact rfl
  case tab => exact .inl rfl
  case U => k_updF
  case cl => exact rfl
  intro f' c' oc vs' t' ctv h6 tk' to' F6 N6 hc' hd' hv' hP' hto3 l4
  k_lt l4
  k_steps
  refine Hold.off ?_
  have hfo := News.first N6
  have eq6 := News.get N6 (a := q) (o := W.listOf bv.reverse.toArray bn) (by simp)
  have ew6 := News.get N6 (a := L' + 1) (o := oW3) (by simp)
  have ncq : c' ≠ q := fun e => by rw [e, eq6] at hc'; cases hc'; cases hd'
  (refine Mine.el_EALALALALL (GL.three hc' hfo ew6) ?_; intro gg G mc mf mw hgg)
  have hggq : ∀ p ∈ gg, p.1 ≠ q := fun p hp => by
    rcases hgg p hp with e | e | e <;> rw [e]
    · exact ncq
    · exact Nat.ne_of_gt l4.2.1
    · exact nq1.symm
  have hAsk : AskC w f' (Reader q (inOrder f row []).2.2 gg hggq) (fun _ => True) := by
    refine ⟨⟨_, _, mf, rfl⟩, fun hist a b ta tb _ _ hok => ?_⟩
    (refine Mine.el_EL (hok) ?_; intro rest2 hrest2; try clear hok)
    refine' Con.lam (hfn := ?bfn) ?broom ?bbind ?bloc ?bcell ?bco ?bgen ?bk ?bbody
    case bfn => exact fun h hp => ⟨hp.1 _ mf, c', oc, vs', t', rfl, hp.1 _ mc, hd', hv'⟩
    case broom => decide
    case bbind => rfl
    case bloc => exact locs rfl
    case bcell => decide
    case bco => rfl
    case bgen => rfl
    case bk => rfl
    intro p2 loose2 mean2 mg2 mb2 gd2 env2 outer2 base2 g2 L2 h2 s2 tk2 hpre En2 F2 B2 X2 T2
    (refine Mine.el_ALEALE3ALALL (hpre) ?_; intro hg7 o7 ho7 rest7 vs7 n7 hr7 rf7 hi7; subst rf7; try clear hpre)
    have hgg2 : GL gg g2 := GL.inn hg7 En2 (fun p hp => by simpa [Reader] using hggq p hp)
    have lq := En2.led _ _ ho7 (by simp [Reader])
    have N2 : News g2 L2 h2 [(q, lstO vs7 n7)] := News.cons' News.nil lq.1 lq.2.1 lq.2.2
    have z1 : g2.get? (L' + 1) = some oW3 := hgg2 _ mw
    have er : rest7 = decide (a < b) :: rest2 := by
      have : hist ++ rest7 = hist ++ (decide (a < b) :: rest2) := by rw [← hr7, hrest2]; simp
      exact List.append_cancel_left this
    subst er
    have hi8 : IntsAre vs7 ((1 :: (rest2.map bI).reverse) ++ [bI (decide (a < b))]) := by simpa using hi7
    k_steps
    refine Hold.off ?_
    refine kpa_pop (D := q) (us := vs7) (n := n7) F2 N2 (Upd.head (by k_all)) hi8 ?pne ?psz ?_
    case pne => rw [hi8.length]; simp
    case psz => rw [PySem.sizeLine_eq, hi8.length]; have hl1 := congrArg List.length hb; have hl2 := congrArg List.length hrest2; rw [bitsOf_len] at hl1; simp at hl1 hl2 ⊢; exact Mine.om180 hk hl1 hl2
    intro h9 t9 F9 N9 hi9
    rw [List.getLastD_concat]
    rw [List.dropLast_concat] at hi9
    k_steps
    rw [bI_eq]
    exact Fin.mk' F9 ⟨rfl, hgg2.keep (Fr.keep F9), _, News.get N9 (a := q) (o := lstO vs7.dropLast (n7 + 1)) (by simp), rest2, _, _, by rw [hrest2], rfl, hi9⟩
  have hra' : g.get? rowa = some (lstO vs nn) := En.inn _ _ hrow (by
    simp only [List.mem_cons, List.not_mem_nil, or_false]
    rintro (e | e | e)
    · rw [e, h181] at hrow; cases hrow
    · (refine Mine.el_EALL (htab1.its) ?_; intro _ e1 _)
      rw [e, hto1, e1] at hrow; cases hrow
    · rw [e, hto2, hi2] at hrow; cases hrow)
  have nrq : rowa ≠ q := fun e => by rw [e, hqg] at hra'; cases hra'
  have nrr : rowa ≠ ra5 := neN (a := rowa) (b := ra5) (by have := ltN (En.lt hrow); exact Mine.om181 l5.2.1 this)
  have hord := ord_con w (Reader q (inOrder f row []).2.2 gg hggq) f' (fun _ => True) hAsk f 501 5003 (by exact Mine.om182 hf) (by exact Mine.om183 hf) hf1 [] ra5 rowa [] row ⟨hin.wf, fun y hy => ⟨(hin.ok y hy).1, (hin.ok y hy).2.1, trivial⟩, hin.nd⟩ hl (by exact Mine.om184 hl hf) (by simp; exact Mine.om185 hl hf) ⟨[], by simp⟩ (Nat.ne_of_gt l5.1) nrq nrr nq3 ?og
  case og =>
    intro p hp
    rcases hgg p hp with e | e | e <;> rw [e]
    · refine ⟨fun e => ?_, fun e => ?_⟩
      · rw [e, (News.get N6 (a := ra5) (o := W.listOf #[] 0) (by simp))] at hc'; cases hc'; cases hd'
      · rw [e, (News.get N6 (a := 162) (o := to2) (by simp))] at hc'; cases hc'; exact tab_not hi2 hn2 hd' hv'
    · exact ⟨Nat.ne_of_gt l4.1, Nat.ne_of_gt l4.2.2.2.2.1⟩
    · exact ⟨Nat.ne_of_lt l5.2.1, neN (a := L' + 1) (b := 162) (by exact Mine.om186 q162)⟩
  have htab2' : TabOk h6 162 194 43 putQ to2 := htab2.keep2 fun b o fv t hd hv hP hb => Fr.keep F6 _ _ (En.inn _ _ hb (by
    intro hm
    simp only [List.mem_cons, List.not_mem_nil, or_false] at hm
    rcases hm with rfl | rfl | rfl
    · rw [h181] at hb; cases hb; exact tab_not rfl (by simp) hd hv
    · (refine Mine.el_EALL (htab1.its) ?_; intro i1 hi1 hn1)
      rw [hto1] at hb; cases hb; exact tab_not hi1 hn1 hd hv
    · exact hP rfl))
  have hii : IntsAre bv.reverse (1 :: ((inOrder f row []).2.2.map bI).reverse) := by
    have := hqi.reverse
    rw [hb] at this
    simpa using this
  refine Con.use hord (oth := [(L' + 1, oW3), (181, to'), (41, to1')]) B F6 X T N6 rfl rfl rfl rfl (Nat.le_of_ble_eq_true rfl) (Nat.le_of_ble_eq_true rfl) ?g1 ?g2
    ⟨⟨G, _, eq6, (inOrder f row []).2.2, bv.reverse, bn, rfl, rfl, hii⟩, ⟨[], 0, News.get N6 (a := ra5) (o := W.listOf #[] 0) (by simp), rfl, fun i a b e => by simp at e⟩, ⟨vs, nn, Fr.keep F6 _ _ hra', hints⟩, to2, News.get N6 (by simp), htab2'⟩ ?_
  case g1 =>
    intro b hb
    simp only [List.mem_cons, List.not_mem_nil, or_false, Reader] at hb
    rcases hb with rfl | rfl | rfl
    · exact ⟨W.listOf bv.reverse.toArray bn, by simp⟩
    · exact ⟨W.listOf #[] 0, by simp⟩
    · exact ⟨to2, by simp⟩
  case g2 =>
    have key : ∀ b : Nat, @Ne Nat b q → @Ne Nat b ra5 → @Ne Nat b 162 → b ∉ ([q, ra5, 162] : List Addr) := fun b h1 h2 h3 hm => by
      simp only [List.mem_cons, List.not_mem_nil, or_false] at hm
      rcases hm with e | e | e
      · exact h1 e
      · exact h2 e
      · exact h3 e
    intro p hp
    simp only [List.mem_cons, List.not_mem_nil, or_false] at hp
    rcases hp with rfl | rfl | rfl
    · exact ⟨by simp, key _ nq1.symm (Nat.ne_of_lt l5.2.1) (neN (a := L' + 1) (b := 162) (by omega))⟩
    · exact ⟨by simp, key _ nq2.symm (Nat.ne_of_lt l5.2.2.1) (show (181:Nat) ≠ 162 by decide)⟩
    · exact ⟨by simp, key _ nq4.symm (Nat.ne_of_lt l5.2.2.2.2) (show (41:Nat) ≠ 162 by decide)⟩
  (intro r h9 tk9 F9 N9 K9 q3q; refine Mine.el_EALALAE2ALLALAALEALE3ALALLL q3q ?_; intro l9 rf4 hfr9 lv ln hl9 hli hrul9 hgl9 o9 ho9 rest9 vs9 n9 hr9 rf5 hi9 htab9; subst rf4; subst rf5; clear q3q)
  have er9 : rest9 = [] := by
    have := congrArg List.length hr9
    simp at this
    exact this
  subst er9
  have hx9 : ∃ ex, News g L' h9 ex ∧ ∀ (h' : Heap) (m' : Str → Option Value), Fr g L' h' m' → News g L' h' ex → h'.get? l9 = some (lstO lv ln) := by
    rcases hfr9 with e | e
    · refine ⟨[], News.nil, fun h' m' F' _ => ?_⟩
      rw [e] at hl9 ⊢
      rw [Fr.keep F9 _ _ hra'] at hl9
      rw [← hl9]
      exact Fr.keep F' _ _ hra'
    · refine ⟨[(l9, lstO lv ln)], News.cons' News.nil hl9 (Fr.ne_seq F9 hl9) ?_, fun h' m' _ N' => (N' _ (.head _)).1⟩
      cases e1 : g.get? l9 with
      | none => rfl
      | some o => have := Fr.keep F6 _ _ e1; rw [e] at this; cases this
  (refine Mine.el_EALL (hx9) ?_; intro ex nex hex9; try clear hx9)
  (refine Mine.el_EALL (htab9) ?_; intro to9 hto9 htb9; try clear htab9)
  (refine Mine.el_EALL (htb9.its) ?_; intro i9 hi9' _)
  (refine Mine.el_EALL (htab1''.its) ?_; intro i41 hi41 _)
  have N10 : News g L' h9 ((q, lstO vs9 n9) :: (162, to9) :: (L' + 1, oW3) :: (181, to') :: (41, to1') :: ex) := News.cons' (News.cons' (News.app N9 nex) hto9 l3.2.1 l3.2.2) ho9 hqL hqg
  have hv9 : vs9.length = 1 := by have := hi9.length; simpa using this
  clear N9 N6 F6
  k_steps
  rename_i h11 F11 N11
  refine Hold.off ?_
  refine call_len_list ⟨_, News.get N11 (a := q) (o := lstO vs9 n9) (by simp), rfl, _, rfl⟩ (by simp; exact Mine.om187 hv9) ?_
  k_steps
  refine Hold.off ?_
  have e1 : ((vs9.toArray.size : Nat) : Int) - 1 = 0 := by simp [hv9]
  rw [e1]
  refine Con.use0 (iseof_con w 0 _) B (by k_asm) X T (by k_asm) rfl rfl rfl rfl (Nat.le_of_ble_eq_true rfl) (Nat.le_of_ble_eq_true rfl) trivial ?_
  rintro r h12 tk12 F12 N12 K12 rfl
  clear N11 F11
  k_steps
  exact Fin.mk' F12 ⟨⟨l9, lv, ln, rfl, hex9 _ _ F12 (News.tl (News.tl (News.tl (News.tl (News.tl N12))))), hli⟩, ⟨_, by rw [← hto3]; exact (News.hd (News.tl (News.tl (News.tl N12)))).1⟩, ⟨i41, by rw [← hi41]; exact (News.hd (News.tl (News.tl (News.tl (News.tl N12))))).1⟩, ⟨i9, by rw [← hi9']; exact (News.hd (News.tl N12)).1⟩⟩
end
end Mine

-- Plain
open PySem PySem.W PyProof.Rows
set_option Elab.async false
set_option maxRecDepth 100000
set_option maxHeartbeats 2000000
namespace Mine
/-- in order by what the deeper one is -/
def Srt (R : List (Int × Int)) (c : List Int) : Prop := c.Pairwise fun a b => deep R a < deep R b
theorem Srt.lt {R : List (Int × Int)} {c : List Int} (h : Srt R c) {i j : Nat} (hij : i < j) (hj : j < c.length) : deep R (c.getD i 0) < deep R (c.getD j 0) := by
  rw [List.getD_eq_getElem?_getD, List.getD_eq_getElem?_getD, List.getElem?_eq_getElem (by exact Mine.om188 hij hj : i < c.length), List.getElem?_eq_getElem hj]
  exact List.pairwise_iff_getElem.mp h i j (by omega) hj hij
theorem bis_len {p : Int → Bool} {c : List Int} : ∀ (f lo hi t : Nat), hi - lo < 2 ^ t → (bis p c f lo hi).2.length ≤ t
  | 0, lo, hi, t, _ => Nat.zero_le _
  | f + 1, lo, hi, t, h => by
    simp only [bis]
    split
    · rename_i hl
      cases t with
      | zero => simp at h; exact Mine.om189 hl h
      | succ t =>
        rw [Nat.pow_succ] at h
        split
        · simp only [List.length_cons]
          have := bis_len (p := p) (c := c) f ((lo + hi) / 2 + 1) hi t (by exact Mine.om190 h)
          exact Mine.om191 this
        · simp only [List.length_cons]
          have := bis_len (p := p) (c := c) f lo ((lo + hi) / 2) t (by exact Mine.om192 h)
          exact Mine.om191 this
    · exact Nat.zero_le _
theorem bis_at {R : List (Int × Int)} {c : List Int} {x : Int} (hs : Srt R c) (hi₀ : Nat) (h0 : hi₀ ≤ c.length) : ∀ (f lo hi : Nat), hi - lo ≤ f → lo ≤ hi → hi ≤ hi₀ →
    (∀ i, i < lo → askOf R x (c.getD i 0) = true) → (∀ i, hi ≤ i → i < hi₀ → askOf R x (c.getD i 0) = false) →
    (bis (askOf R x) c f lo hi).1 ≤ hi₀ ∧ (∀ i, i < (bis (askOf R x) c f lo hi).1 → askOf R x (c.getD i 0) = true) ∧ ∀ i, (bis (askOf R x) c f lo hi).1 ≤ i → i < hi₀ → askOf R x (c.getD i 0) = false
  | 0, lo, hi, hf, hl, hh, a, b => by
    have : lo = hi := by exact Mine.om193 hf hl
    subst this
    exact ⟨hh, a, b⟩
  | f + 1, lo, hi, hf, hl, hh, a, b => by
    simp only [bis]
    split
    · rename_i hlt
      split
      · rename_i hp
        refine bis_at hs hi₀ h0 f _ _ (by exact Mine.om17 hf) (by exact Mine.om19 hlt) hh (fun i hi' => ?_) b
        by_cases he : i = (lo + hi) / 2
        · rw [he]; exact hp
        · have := hs.lt (i := i) (j := (lo + hi) / 2) (by exact Mine.om194 hi' he) (by exact Mine.om28 h0 hh hlt)
          unfold askOf at hp ⊢
          have := of_decide_eq_true hp
          exact decide_eq_true (by exact Mine.om195 (by assumption) this)
      · rename_i hp
        refine bis_at hs hi₀ h0 f _ _ (by exact Mine.om18 hf) (by exact Mine.om20 hlt) (by exact Mine.om196 hh hlt) a (fun i hi' hi2 => ?_)
        by_cases he : i = (lo + hi) / 2
        · rw [he]; simpa using hp
        · have := hs.lt (i := (lo + hi) / 2) (j := i) (by exact Mine.om197 hi' he) (by exact Mine.om198 h0 hi2)
          unfold askOf at hp ⊢
          have hp := of_decide_eq_false (by simpa using hp : decide (deep R (c.getD ((lo + hi) / 2) 0) < deep R x) = false)
          exact decide_eq_false (by exact Mine.om199 this hp)
    · have : lo = hi := by exact Mine.om200 hl (by assumption)
      subst this
      exact ⟨hh, a, b⟩
theorem insAt_srt {R : List (Int × Int)} {c : List Int} {x : Int} {n : Nat} (hs : Srt R c) (h1 : ∀ i, i < n → i < c.length → deep R (c.getD i 0) < deep R x) (h2 : ∀ i, n ≤ i → i < c.length → deep R x < deep R (c.getD i 0)) : Srt R (insAt c n x) := by
  unfold insAt Srt
  rw [List.pairwise_append]
  have hs' : List.Pairwise (fun a b => deep R a < deep R b) (c.take n ++ c.drop n) := by rw [List.take_append_drop]; exact hs
  have hh := List.pairwise_append.mp hs'
  have g : ∀ i (hi : i < c.length), c[i] = c.getD i 0 := fun i hi => by rw [List.getD_eq_getElem?_getD, List.getElem?_eq_getElem hi]; rfl
  have hlo : ∀ a ∈ c.take n, deep R a < deep R x := fun a ha => by
    obtain ⟨i, hi, rfl⟩ := List.getElem_of_mem ha
    rw [List.length_take] at hi
    rw [List.getElem_take, g i (by exact Mine.om201 hi)]
    exact h1 i (by exact Mine.om202 hi) (by omega)
  have hhi : ∀ b ∈ c.drop n, deep R x < deep R b := fun b hb => by
    obtain ⟨i, hi, rfl⟩ := List.getElem_of_mem hb
    rw [List.length_drop] at hi
    rw [List.getElem_drop, g (n + i) (by exact Mine.om203 hi)]
    exact h2 (n + i) (by exact Mine.om50) (by omega)
  refine ⟨hh.1, List.pairwise_cons.mpr ⟨hhi, hh.2.1⟩, fun a ha b hb => ?_⟩
  rcases List.mem_cons.mp hb with rfl | hb
  · exact hlo a ha
  · exact hh.2.2 a ha b hb

/-- the losers, the winners and what is known of them -/
structure Ranks (R : List (Int × Int)) (L P : List Int) : Prop where
  nd : ((L ++ P).map (deep R)).Nodup
  srt : Srt R P
  low : ∀ k, k < P.length → deep R (L.getD k 0) < deep R (P.getD k 0)
  len : P.length ≤ L.length ∧ L.length ≤ P.length + 1 ∧ 0 < L.length
def costKs : List Nat → Nat → Nat
  | [], _ => 0
  | k :: ks, d => (Nat.log2 (d + k) + 1) + costKs ks (d + 1)
theorem idx_le {R : List (Int × Int)} {c P : List Int} {k : Nat} (hs : Srt R c) (hP : Srt R P) (hk : k < P.length) (hc : ∃ r, c.Perm (P ++ r)) : c.idxOf (P.getD k 0) + (P.length - k) ≤ c.length := by
  (refine Mine.el_EL (hc) ?_; intro r hr; try clear hc)
  have hmem : P.getD k 0 ∈ c := hr.mem_iff.mpr (List.mem_append_left _ (getD_mem hk))
  have hi : c.idxOf (P.getD k 0) < c.length := List.idxOf_lt_length_of_mem hmem
  have hget : c.getD (c.idxOf (P.getD k 0)) 0 = P.getD k 0 := by
    rw [List.getD_eq_getElem?_getD, List.getElem?_eq_getElem hi]; exact List.getElem_idxOf hi
  have e1 : c.countP (fun y => decide (deep R (P.getD k 0) ≤ deep R y)) ≤ c.length - c.idxOf (P.getD k 0) := by
    have : c.countP (fun y => decide (deep R (P.getD k 0) ≤ deep R y)) = (c.take (c.idxOf (P.getD k 0)) ++ c.drop (c.idxOf (P.getD k 0))).countP (fun y => decide (deep R (P.getD k 0) ≤ deep R y)) := by rw [List.take_append_drop]
    rw [this, List.countP_append]
    have z : (c.take (c.idxOf (P.getD k 0))).countP (fun y => decide (deep R (P.getD k 0) ≤ deep R y)) = 0 := by
      rw [List.countP_eq_zero]
      intro y hy
      obtain ⟨i, hi', rfl⟩ := List.getElem_of_mem hy
      rw [List.length_take] at hi'
      have := hs.lt (i := i) (j := c.idxOf (P.getD k 0)) (by exact Mine.om202 hi') hi
      rw [hget] at this
      rw [List.getElem_take]
      have g : c[i]'(by omega) = c.getD i 0 := by rw [List.getD_eq_getElem?_getD, List.getElem?_eq_getElem (by omega : i < c.length)]; rfl
      rw [g]
      simp only [decide_eq_true_eq]
      exact Mine.om204 this
    have l := List.countP_le_length (p := fun y => decide (deep R (P.getD k 0) ≤ deep R y)) (l := c.drop (c.idxOf (P.getD k 0)))
    rw [List.length_drop] at l
    exact Mine.om205 z l
  have e2 : P.length - k ≤ c.countP (fun y => decide (deep R (P.getD k 0) ≤ deep R y)) := by
    rw [hr.countP_eq, List.countP_append]
    have : P.countP (fun y => decide (deep R (P.getD k 0) ≤ deep R y)) = (P.take k ++ P.drop k).countP (fun y => decide (deep R (P.getD k 0) ≤ deep R y)) := by rw [List.take_append_drop]
    rw [this, List.countP_append]
    have z : (P.drop k).countP (fun y => decide (deep R (P.getD k 0) ≤ deep R y)) = (P.drop k).length := by
      rw [List.countP_eq_length]
      intro y hy
      obtain ⟨i, hi', rfl⟩ := List.getElem_of_mem hy
      rw [List.length_drop] at hi'
      rw [List.getElem_drop]
      have g : P[k + i]'(by exact Mine.om203 hi') = P.getD (k + i) 0 := by rw [List.getD_eq_getElem?_getD, List.getElem?_eq_getElem (by omega : k + i < P.length)]; rfl
      rw [g]
      simp only [decide_eq_true_eq]
      rcases Nat.eq_zero_or_pos i with rfl | hp
      · exact Int.le_refl _
      · exact Int.le_of_lt (hP.lt (by exact Mine.om206 hp) (by omega))
    rw [z, List.length_drop]
    exact Mine.om207
  exact Mine.om208 hi e1 e2
theorem putAll_srt {R : List (Int × Int)} {L P : List Int} (H : Ranks R L P) : ∀ (ks done : List Nat) (c : List Int), c.Perm (P ++ done.map fun k => L.getD k 0) → Srt R c → (done ++ ks).Nodup → (∀ k ∈ done ++ ks, k < L.length) →
    Srt R (putAll R P L ks c).1 ∧ (putAll R P L ks c).2.length ≤ costKs ks done.length
  | [], done, c, _, hs, _, _ => ⟨hs, Nat.zero_le _⟩
  | k :: ks, done, c, hc, hs, hnd, hlt => by
    have hk : k < L.length := hlt k (by simp)
    have hkd : k ∉ done := fun h => by
      have := (List.nodup_append.mp hnd).2.2 k h k (.head _)
      exact this rfl
    have hlen : c.length = P.length + done.length := by rw [hc.length_eq]; simp
    -- the keys of the chain are other than the new one's
    have hne : ∀ y ∈ c, deep R y ≠ deep R (L.getD k 0) := by
      intro y hy e
      have nd := H.nd
      rw [List.map_append] at nd
      have nd' := List.nodup_append.mp nd
      have hkm : L.getD k 0 ∈ L := getD_mem hk
      rcases List.mem_append.mp (hc.mem_iff.mp hy) with hy | hy
      · exact nd'.2.2 _ (List.mem_map_of_mem hkm) _ (List.mem_map_of_mem hy) e.symm
      · (refine Mine.el_EALL (List.mem_map.mp hy) ?_; intro j hj rf2; subst rf2)
        have hjl := hlt j (List.mem_append_left _ hj)
        have : j = k := by
          have hj' : j < (L.map (deep R)).length := by simpa using hjl
          have hk' : k < (L.map (deep R)).length := by simpa using hk
          refine (List.getElem_inj (h₀ := hj') (h₁ := hk') nd'.1).mp ?_
          rw [List.getElem_map, List.getElem_map]
          rw [List.getD_eq_getElem?_getD, List.getElem?_eq_getElem hjl, List.getD_eq_getElem?_getD, List.getElem?_eq_getElem hk] at e
          exact e
        exact hkd (this ▸ hj)
    -- the place: not above the partner
    have hpl : placeOf P c k ≤ c.length ∧ placeOf P c k ≤ done.length + k ∧ ∀ i, placeOf P c k ≤ i → i < c.length → deep R (L.getD k 0) < deep R (c.getD i 0) := by
      unfold placeOf
      split
      · rename_i hkp
        have hi := idx_le hs H.srt hkp ⟨_, hc⟩
        have hmem : P.getD k 0 ∈ c := hc.mem_iff.mpr (List.mem_append_left _ (getD_mem hkp))
        have hil : c.idxOf (P.getD k 0) < c.length := List.idxOf_lt_length_of_mem hmem
        have hget : c.getD (c.idxOf (P.getD k 0)) 0 = P.getD k 0 := by
          rw [List.getD_eq_getElem?_getD, List.getElem?_eq_getElem hil]; exact List.getElem_idxOf hil
        refine ⟨by exact Mine.om209 hil, by exact Mine.om210 hlen hi, fun i h1 h2 => ?_⟩
        have hlow := H.low k hkp
        rcases Nat.eq_or_lt_of_le h1 with e | h1
        · rw [← e, hget]; exact hlow
        · have := hs.lt h1 h2
          rw [hget] at this
          exact Mine.om195 hlow this
      · have := H.len
        exact ⟨Nat.le_refl _, by exact Mine.om211 hlen (by assumption), fun i h1 h2 => by exact Mine.om212 h1 h2⟩
    have hb := bis_at (x := L.getD k 0) hs (placeOf P c k) hpl.1 (placeOf P c k) 0 (placeOf P c k) (by exact Mine.om24) (by exact Mine.om22) (Nat.le_refl _) (by omega) (by omega)
    have hl := bis_len (p := askOf R (L.getD k 0)) (c := c) (placeOf P c k) 0 (placeOf P c k) (Nat.log2 (done.length + k) + 1) (by
      have := @Nat.lt_log2_self (done.length + k)
      exact Mine.om213 hpl.2.1 this)
    have hs' : Srt R (putOne R P L c k).1 := by
      unfold putOne bisect
      refine insAt_srt hs (fun i h1 h2 => ?_) (fun i h1 h2 => ?_)
      · have := hb.2.1 i h1
        unfold askOf at this
        exact of_decide_eq_true this
      · by_cases h3 : i < placeOf P c k
        · have := hb.2.2 i h1 h3
          unfold askOf at this
          have := of_decide_eq_false this
          have := hne (c.getD i 0) (getD_mem h2)
          exact Mine.om214 (by assumption) this
        · exact hpl.2.2 i (by exact Mine.om215 h3) h2
    have hc' : (putOne R P L c k).1.Perm (P ++ (done ++ [k]).map fun k => L.getD k 0) := by
      refine (insAt_perm _ _ _).trans ?_
      refine (List.Perm.cons _ hc).trans ?_
      rw [List.map_append, ← List.append_assoc]
      simp only [List.map_cons, List.map_nil]
      exact (List.perm_append_comm (l₁ := [L.getD k 0]))
    have ih := putAll_srt H ks (done ++ [k]) (putOne R P L c k).1 hc' hs' (by simpa using hnd) (by simpa using hlt)
    refine ⟨ih.1, ?_⟩
    show ((putOne R P L c k).2 ++ (putAll R P L ks (putOne R P L c k).1).2).length ≤ (Nat.log2 (done.length + k) + 1) + costKs ks (done.length + 1)
    rw [List.length_append]
    have i2 := ih.2
    rw [List.length_append, List.length_singleton] at i2
    exact Nat.add_le_add hl i2
end Mine

namespace Mine
def cost : Nat → Nat → Nat
  | 0, _ => 0
  | f + 1, n => if n < 2 then 0 else n / 2 + cost f (n / 2) + costKs (ksOf (n / 2 + n % 2)) 1
theorem mk_ranks {R : List (Int × Int)} {V : Int → Prop} {row : List Int} (h : InPre R V row) (h2 : 2 ≤ row.length) {r : List Int × List (Int × Int) × List Bool}
    (OK : OrdOk (R ++ newRules R row (row.length / 2)) (newSyms R (row.length / 2)) r) (hs : Srt r.2.1 r.1) : Ranks r.2.1 (lateOf r.2.1 row r.1) (partOf r.2.1 r.1) := by
  have hp := late_perm OK
  have hl : r.1.length = row.length / 2 := by rw [OK.perm.length_eq]; simp [newSyms]
  have hL := lateOf_length r.2.1 row r.1 hl
  have hP := partOf_length r.2.1 r.1
  (refine Mine.el_EALL (OK.ext) ?_; intro S hS _)
  have W := OK.wf
  have hdeep : ∀ x, 0 ≤ x → x < 256 + (R.length : Int) → deep r.2.1 x = deep R x := fun x h0 h1 => by
    rw [hS, List.append_assoc] at W ⊢
    exact deep_app W h0 h1
  have hat : ∀ i, i < row.length / 2 → ruleAt r.2.1 (256 + (R.length : Int) + (i : Int)) = newRule R row i := by
    intro i hi
    have := new_at R row hi
    unfold ruleAt
    rw [hS, List.getD_eq_getElem?_getD, List.getElem?_append_left (List.getElem?_eq_some_iff.mp this).1, this]
    rfl
  have hsym : ∀ p ∈ r.1, ∃ i, i < row.length / 2 ∧ p = 256 + (R.length : Int) + (i : Int) := fun p hp => by
    have := OK.perm.mem_iff.mp hp
    unfold newSyms at this
    (refine Mine.el_EALL (List.mem_map.mp this) ?_; intro i hi rf2; subst rf2)
    exact ⟨i, List.mem_range.mp hi, rfl⟩
  have hw : ∀ p ∈ r.1, deep r.2.1 p = deep r.2.1 (ruleAt r.2.1 p).2 := fun p hp => by
    (refine Mine.el_EALL (hsym p hp) ?_; intro i hi rf2; subst rf2)
    have hlen : R.length + row.length / 2 ≤ r.2.1.length := by rw [hS]; simp [newRules]
    exact deep_step W (by exact Mine.om51) (ruleAt_some (by exact Mine.om216) (by exact Mine.om217 hi hlen))
  refine ⟨?_, ?_, ?_, by exact Mine.om83 hl hL hP, by exact Mine.om218 hl hL hP, by exact Mine.om85 h2 hL⟩
  · have e : row.map (deep r.2.1) = row.map (deep R) := List.map_congr_left fun x hx => hdeep x (h.ok x hx).1 (h.ok x hx).2.1
    rw [(hp.map _).nodup_iff, e]
    exact h.nd
  · unfold Srt partOf
    rw [List.pairwise_map]
    exact List.Pairwise.imp_of_mem (fun {a b} ha hb hab => by rw [← hw a ha, ← hw b hb]; exact hab) hs
  · intro k hk
    rw [hP] at hk
    have hm : r.1.getD k 0 ∈ r.1 := getD_mem hk
    have e1 : (lateOf r.2.1 row r.1).getD k 0 = (ruleAt r.2.1 (r.1.getD k 0)).1 := by
      unfold lateOf
      rw [List.getD_eq_getElem?_getD, List.getElem?_append_left (by simpa using hk), List.getElem?_map, List.getElem?_eq_getElem hk, List.getD_eq_getElem?_getD, List.getElem?_eq_getElem hk]
      rfl
    have e2 : (partOf r.2.1 r.1).getD k 0 = (ruleAt r.2.1 (r.1.getD k 0)).2 := by
      unfold partOf
      rw [List.getD_eq_getElem?_getD, List.getElem?_map, List.getElem?_eq_getElem hk, List.getD_eq_getElem?_getD, List.getElem?_eq_getElem hk]
      rfl
    rw [e1, e2]
    (refine Mine.el_EALL (hsym _ hm) ?_; intro i hi e)
    rw [e, hat i hi]
    (refine Mine.el_E2ALALL (newRule_idx R row i) ?_; intro p q hpq e3 hle)
    rw [e3]
    have hp' : p < row.length := by exact Mine.om219 hi hpq
    have hq' : q < row.length := by exact Mine.om52 hi hpq
    have vp := h.ok _ (getD_mem hp')
    have vq := h.ok _ (getD_mem hq')
    show deep r.2.1 (row.getD p 0) < deep r.2.1 (row.getD q 0)
    rw [hdeep _ vp.1 vp.2.1, hdeep _ vq.1 vq.2.1]
    have : deep R (row.getD p 0) ≠ deep R (row.getD q 0) := fun e => by
      have := deep_inj h hp' hq' e
      exact Mine.om220 hpq this
    exact Mine.om221 hle this
theorem inOrder_srt {V : Int → Prop} : ∀ (f : Nat) (row : List Int) (R : List (Int × Int)), InPre R V row → row.length ≤ f → row.length ≤ 20 →
    Srt (inOrder f row R).2.1 (inOrder f row R).1 ∧ (inOrder f row R).2.2.length ≤ cost f row.length
  | 0, row, R, _, hf, _ => by
    have : row = [] := List.eq_nil_of_length_eq_zero (by exact Mine.om222 hf)
    subst this
    exact ⟨List.Pairwise.nil, Nat.le_refl _⟩
  | f + 1, row, R, h, hf, h20 => by
    by_cases hl : row.length < 2
    · have e : inOrder (f + 1) row R = (row, R, []) := by simp only [inOrder, if_pos hl]
      rw [e]
      refine ⟨?_, Nat.zero_le _⟩
      match row, hl with
      | [], _ => exact List.Pairwise.nil
      | [x], _ => exact List.pairwise_singleton _ _
      | _ :: _ :: _, hl => simp at hl; exact (Mine.om223 hl).elim
    · have hns : (newSyms R (row.length / 2)).length = row.length / 2 := by simp [newSyms]
      have OK := inOrder_ok f _ _ (pre_new h) (by exact Mine.om105 hf hns) (by exact Mine.om106 h20 hns)
      have ih := inOrder_srt f _ _ (pre_new h) (by omega) (by exact Mine.om106 h20 hns)
      have Rk := mk_ranks h (by exact Mine.om224 hl) OK ih.1
      have Pl := mk_plan h (by omega) h20 OK
      have hlen := lateOf_length (inOrder f (newSyms R (row.length / 2)) (R ++ newRules R row (row.length / 2))).2.1 row (inOrder f (newSyms R (row.length / 2)) (R ++ newRules R row (row.length / 2))).1 (by rw [OK.perm.length_eq, hns])
      have kp := ks_perm _ Pl.le
      rw [Nat.max_eq_left Pl.pos] at kp
      have key : ∀ {L P : List Int} {RR : List (Int × Int)}, Ranks RR L P → (0 :: ksOf L.length).Perm (List.range L.length) → 0 < L.length →
          Srt RR (putAll RR P L (ksOf L.length) (L.getD 0 0 :: P)).1 ∧ (putAll RR P L (ksOf L.length) (L.getD 0 0 :: P)).2.length ≤ costKs (ksOf L.length) 1 := by
        intro L P RR H hk hpos
        refine putAll_srt H (ksOf L.length) [0] _ (List.perm_append_comm (l₁ := [L.getD 0 0])) ?_ (hk.nodup_iff.mpr List.nodup_range) (fun k hk' => List.mem_range.mp (hk.mem_iff.mp hk'))
        refine List.pairwise_cons.mpr ⟨fun y hy => ?_, H.srt⟩
        have hP0 : 0 < P.length := List.length_pos_of_mem hy
        have h0 := H.low 0 hP0
        obtain ⟨i, hi, rfl⟩ := List.getElem_of_mem hy
        have g : P[i] = P.getD i 0 := by rw [List.getD_eq_getElem?_getD, List.getElem?_eq_getElem hi]; rfl
        rw [g]
        rcases Nat.eq_zero_or_pos i with rfl | hp
        · exact h0
        · have := H.srt.lt hp hi
          exact Mine.om195 h0 this
      have k2 := key Rk kp Pl.pos
      have e : inOrder (f + 1) row R = inOrder (f + 1) row R := rfl
      conv at e => rhs; simp only [inOrder, if_neg hl]
      rw [e]
      refine ⟨k2.1, ?_⟩
      simp only [List.length_append]
      have i2 := ih.2
      rw [hns] at i2
      have k3 := k2.2
      rw [hlen] at k3 ⊢
      have c1 : cost (f + 1) row.length = row.length / 2 + cost f (row.length / 2) + costKs (ksOf (row.length / 2 + row.length % 2)) 1 := by simp only [cost, if_neg hl]
      have c2 : (newAns R row (row.length / 2)).length = row.length / 2 := by simp [newAns]
      rw [c1, c2]
      exact Nat.add_le_add (Nat.add_le_add_left i2 _) k3
/-- how many figures the number of the orders has -/
theorem cost_le : ∀ n, n ≤ 11 → 5 ≤ n → cost 20 n ≤ ([0, 0, 0, 0, 0, 7, 10, 13, 16, 19, 22, 26] : List Nat).getD n 0 := by decide
theorem srt_id {c : List Int} (h : Srt [] c) : c.Pairwise (· < ·) := by
  refine h.imp ?_
  intro a b hab
  exact hab
end Mine

namespace Mine
theorem toNum_bits : ∀ (ds : List Int), (∀ d ∈ ds, 0 ≤ d ∧ d ≤ 1) → bitsOf (toNum ds) ds.length = ds
  | [], _ => rfl
  | d :: ds, h => by
    have hd := h d (.head _)
    have hb := toNum_bound ds fun e he => h e (.tail _ he)
    have e1 : ds.length + 1 = 1 + ds.length := Nat.add_comm _ _
    rw [List.length_cons, e1, bitsOf_split _ _ _ (by simp only [toNum]; exact Mine.om225 hd.1 hb.1)]
    have e2 : toNum (d :: ds) % 2 ^ 1 = d := by simp only [toNum]; exact Mine.om226 hd.1 hd.2
    have e3 : toNum (d :: ds) / 2 ^ 1 = toNum ds := by simp only [toNum]; exact Mine.om227 e2
    rw [e2, e3, bitsOf_one d hd.1 (by exact Mine.om228 e2), toNum_bits ds fun e he => h e (.tail _ he)]
    rfl
theorem bI_ok (tr : List Bool) : ∀ d ∈ tr.map bI ++ [1], (0 : Int) ≤ d ∧ d ≤ 1 := by
  intro d hd
  rcases List.mem_append.mp hd with hd | hd
  · (refine Mine.el_EALL (List.mem_map.mp hd) ?_; intro b _ rf2; subst rf2)
    cases b <;> decide
  · rw [List.mem_singleton.mp hd]; decide
theorem toNum_intBits (tr : List Bool) : Builtin.Int.intBits (toNum (tr.map bI ++ [1])) = tr.length + 1 := by
  have h1 := toNum_bound (tr.map bI) fun d hd => bI_ok tr d (List.mem_append_left _ hd)
  have e : toNum (tr.map bI ++ [1]) = toNum (tr.map bI) + 2 ^ tr.length := by
    rw [toNum_append, List.length_map]; simp [toNum]
  rw [List.length_map] at h1
  (refine Mine.el_EL (Int.eq_ofNat_of_zero_le h1.1) ?_; intro m hm)
  have e2 : toNum (tr.map bI ++ [1]) = ((m + 2 ^ tr.length : Nat) : Int) := by rw [e, hm]; push_cast; rfl
  have h2 : m < 2 ^ tr.length := by have := h1.2; rw [hm] at this; exact_mod_cast this
  have h3 : 0 < 2 ^ tr.length := Nat.two_pow_pos _
  unfold Builtin.Int.intBits
  rw [e2, Int.natAbs_natCast]
  have hne : ((m + 2 ^ tr.length : Nat) : Int) ≠ 0 := by exact Mine.om229 h3
  rw [if_neg (by simpa using hne)]
  congr 1
  refine (Nat.log2_eq_iff (by exact Mine.om230 hne)).mpr ⟨by exact Mine.om231, by rw [Nat.pow_succ]; exact Mine.om232 h2⟩
end Mine

-- StrL
open PySem PySem.W PyProof.Rows
set_option Elab.async false
set_option maxRecDepth 100000
set_option maxHeartbeats 8000000
namespace Mine
open PySem.Calls PySem.Spec
section
variable {prog : Program} {w : World} {A : Around} {E : Value → Shared → Prop} {s : Shared} {env : Env} {h₀ : Heap} {x : Str} {body : List Stmt} {Q : Flow → Shared → Prop}
/-- a for over a text -/
theorem my_str {u : Str} {tu : Tok} {m₀ : Str → Option Value} {news : List (Addr × Obj)} (J : Nat → (Str → Option Value) → List (Addr × Obj) → Prop)
    (hh : A.handled = none) (F : Fr h₀ env.locals s.heap m₀) (N : News h₀ env.locals s.heap news) (hJ0 : J 0 m₀ news)
    (turn : ∀ i c t m₁ news₁ I io h tk, u.cps[i]? = some c → J i m₁ news₁ → (∀ p ∈ news₁, p.1 ≠ I) → (∀ p ∈ news, p.1 < I) → Fr h₀ env.locals h (fun y => if y = x then some (.str ⟨#[c]⟩ t) else m₁ y) → News h₀ env.locals h ((I, io) :: news₁) →
      wpAny (model prog w) A (execs body env) (TurnPost h₀ env.locals I io (J (i + 1)) { s with heap := h, toks := tk } Q) E { s with heap := h, toks := tk })
    (done : ∀ m' news' h tk, J u.cps.size m' news' → Fr h₀ env.locals h m' → News h₀ env.locals h news' → Q .next { s with heap := h, toks := tk }) :
    wpAny (model prog w) A (pyIter (.str u tu)) (fun it s₂ => LoopAtV prog w A h₀ env x body Q E it s₂) E s := by
  have hnew := next_is_new F
  have hlt : ∀ p ∈ news, p.1 < s.heap.objs.size := fun p hp => Heap.lt_size (N p hp).1
  have key : ∀ (ty : String), Walks prog w A s.heap.objs.size [s.heap.objs.size] [s.heap.objs.size] u.cps.size (SignAt u) (fun i h => h.IsStrIter s.heap.objs.size ty u tu i) →
      LoopAtV prog w A h₀ env x body Q E (.ref s.heap.objs.size) { s with heap := s.heap.push { cls := .type ty, data := .fields #[.str u tu, .int 0 0] } } := by
    intro ty W
    refine ⟨_, _, _, u.cps.size, _, _, m₀, news, J, rfl, W, ?_, ?_, ?_, ⟨_, Heap.get?_push_size _ rfl, rfl, rfl⟩, F.push _, (fun p hp => ⟨Heap.get?_push_of_some _ (N p hp).1, (N p hp).2⟩), hJ0, ?_, ?_⟩
    · intro hm
      exact absurd F.ns.lt ((List.mem_singleton.mp hm) ▸ Nat.lt_irrefl _)
    · intro b hb
      rw [List.mem_singleton.mp hb]
      exact hnew
    · intro p hp hI
      exact absurd (Heap.lt_size (N p hp).1) ((List.mem_singleton.mp hI) ▸ Nat.lt_irrefl _)
    · (intro i v m₁ news₁ s₁ own q1q hin q3q hJ hoff hown hget hall hst F₁ N₁; refine Mine.el_E2L q1q ?_; intro hh' tk' rf2; subst rf2; clear q1q; refine Mine.el_E2ALL q3q ?_; intro c t hc rf4; subst rf4; clear q3q)
      (refine Mine.el_EALALL (id hst) ?_; intro io hio hioc hiod)
      have hmem := hall s.heap.objs.size (List.mem_singleton.mpr rfl) hnew _ hio
      have hoff' : ∀ p ∈ news₁, p.1 ≠ s.heap.objs.size := fun p hp e => hoff p hp (List.mem_singleton.mpr e)
      have N₂ : News h₀ env.locals hh' ((s.heap.objs.size, io) :: news₁) := fun p hp => by
        rcases List.mem_cons.mp hp with rfl | hp
        · exact N₁ _ (List.mem_append_left _ hmem)
        · exact N₁ _ (List.mem_append_right _ hp)
      refine wpAny_mono (turn i c t m₁ news₁ _ _ hh' tk' hc hJ hoff' hlt F₁ N₂) (fun f s₂ p => ?_) fun _ _ e => e
      have fin : TurnEnd h₀ env.locals s.heap.objs.size io (J (i + 1)) { s with heap := hh', toks := tk' } s₂ →
          LoopStepU h₀ env.locals [s.heap.objs.size] own (J (i + 1)) { s with heap := hh', toks := tk' } .next s₂ := by
        (intro q5q; refine Mine.el_E4ALALALALL q5q ?_; intro h' tk m' news' e F' N' ho r; clear q5q)
        refine ⟨rfl, h', tk, m', news', e, F', fun p hp => ?_, fun p hp hI => ho p hp (List.mem_singleton.mp hI), r⟩
        rcases List.mem_append.mp hp with hp | hp
        · have h1 : p.1 = s.heap.objs.size := List.mem_singleton.mp (hown p hp)
          have h2 : hh'.get? p.1 = some p.2 := hget p hp
          have h3 : p = (s.heap.objs.size, io) := by
            rw [h1, hio] at h2
            exact Prod.ext h1 (Option.some.inj h2).symm
          rw [h3]; exact N' _ (List.mem_cons_self ..)
        · exact N' _ (List.mem_cons_of_mem _ hp)
      cases f with
      | ret v => exact .ret p
      | brk => exact .brk p
      | next => exact .next (fin p)
      | cont => exact .cont (fin p)
    · rintro h' tk m' news' F' N' _ hJ
      exact done m' news' h' tk hJ F' N'
  cases ha : u.cps.all (· < 128)
  · exact wpAny_pyIter_wide ha (key _ (Walks.strWide hh _ u tu))
  · exact wpAny_pyIter_ascii ha (key _ (Walks.strAscii hh _ u tu))
end
end Mine

-- Ws
open PySem PySem.W PyProof.Rows
set_option Elab.async false
set_option maxRecDepth 100000
set_option maxHeartbeats 2000000
namespace Mine
/-- what a lead's figures are: runs of blanks ahead of tabs, the trailing blanks, the letters, the tabs -/
structure Ws where
  cnt : List Int
  b : Nat
  n : Nat
  nt : Nat
def wsExt (c : List Int) (b : Nat) : List Int := if c.length ≤ b then c ++ List.replicate (b - c.length + 1) 0 else c
def Ws.step (s : Ws) (tab : Bool) : Ws := if tab then ⟨(wsExt s.cnt s.b).set s.b ((wsExt s.cnt s.b).getD s.b 0 + 1), 0, s.n + 1, s.nt + 1⟩ else ⟨s.cnt, s.b + 1, s.n + 1, s.nt⟩
def wsOf (l : List Bool) : Ws := l.foldl Ws.step ⟨[], 0, 0, 0⟩
def chOf (t : Bool) : Nat := if t then 9 else 32
theorem wsOf_snoc (l : List Bool) (t : Bool) : wsOf (l ++ [t]) = (wsOf l).step t := by simp [wsOf]
theorem wsOf_take {l : List Bool} {i : Nat} {t : Bool} (h : l[i]? = some t) : wsOf (l.take (i + 1)) = (wsOf (l.take i)).step t := by
  rw [List.take_add_one, h]; exact wsOf_snoc _ _
theorem wsExt_len (c : List Int) (b : Nat) : b < (wsExt c b).length := by
  unfold wsExt; split
  · simp; exact Mine.om233
  · exact Mine.om234 (by assumption)
theorem ws_bound (l : List Bool) : (wsOf l).b ≤ l.length ∧ (wsOf l).n = l.length ∧ (wsOf l).nt ≤ l.length ∧ (wsOf l).cnt.length ≤ l.length := by
  have key : ∀ (l : List Bool) (s : Ws) (k : Nat), s.b ≤ k → s.n = k → s.nt ≤ k → s.cnt.length ≤ k →
      (l.foldl Ws.step s).b ≤ k + l.length ∧ (l.foldl Ws.step s).n = k + l.length ∧ (l.foldl Ws.step s).nt ≤ k + l.length ∧ (l.foldl Ws.step s).cnt.length ≤ k + l.length := by
    intro l
    induction l with
    | nil => intro s k h1 h2 h3 h4; exact ⟨h1, h2, h3, h4⟩
    | cons t l ih =>
      intro s k h1 h2 h3 h4
      have e : (t :: l).length = 1 + l.length := by simp; exact Mine.om235
      rw [List.foldl_cons, e, ← Nat.add_assoc]
      refine ih _ (k + 1) ?_ ?_ ?_ ?_
      · cases t <;> simp [Ws.step] <;> omega
      · cases t <;> simp [Ws.step] <;> omega
      · cases t <;> simp [Ws.step] <;> (first | exact Mine.om236 h3 | omega)
      · cases t
        · simp [Ws.step]; exact Mine.om236 h4
        · simp only [Ws.step, if_true, List.length_set]
          unfold wsExt
          split
          · simp; exact Mine.om237 h1 (by assumption)
          · omega
  simpa [wsOf] using key l ⟨[], 0, 0, 0⟩ 0 (Nat.le_refl _) rfl (Nat.le_refl _) (Nat.le_refl _)
/-- the level of a lead at a tab's size -/
def levSum (ts : Nat) : List Int → Nat → Int
  | [], _ => 0
  | c :: r, i => ((i / ts : Nat) : Int) * c + levSum ts r (i + 1)
def Ws.lev (s : Ws) (ts : Nat) : Int := (s.b : Int) + ts * (levSum ts s.cnt 0 + s.nt)
theorem levSum_app (ts : Nat) : ∀ (a b : List Int) (i : Nat), levSum ts (a ++ b) i = levSum ts a i + levSum ts b (i + a.length)
  | [], b, i => by simp [levSum]
  | x :: a, b, i => by
    simp only [List.cons_append, levSum, levSum_app ts a b, List.length_cons]
    have : i + 1 + a.length = i + (a.length + 1) := by exact Mine.om238
    rw [this]; exact Mine.om239
theorem levSum_zero (ts k : Nat) : ∀ i, levSum ts (List.replicate k 0) i = 0 := by
  induction k with
  | zero => intro i; rfl
  | succ k ih => intro i; simp only [List.replicate_succ, levSum, ih]; simp
theorem levSum_ext (ts : Nat) (c : List Int) (b i : Nat) : levSum ts (wsExt c b) i = levSum ts c i := by
  unfold wsExt; split
  · rw [levSum_app, levSum_zero]; exact Mine.om240
  · rfl
theorem levSum_set (ts : Nat) : ∀ (c : List Int) (b i : Nat), b < c.length → levSum ts (c.set b (c.getD b 0 + 1)) i = levSum ts c i + (((i + b) / ts : Nat) : Int)
  | [], b, i, h => by simp at h
  | x :: c, 0, i, _ => by
    show ((i / ts : Nat) : Int) * (x + 1) + levSum ts c (i + 1) = ((i / ts : Nat) : Int) * x + levSum ts c (i + 1) + _
    rw [Int.mul_add]; simp; exact Mine.om241
  | x :: c, b + 1, i, h => by
    have ih := levSum_set ts c b (i + 1) (by simpa using h)
    have e : i + (b + 1) = i + 1 + b := by exact Mine.om242
    show ((i / ts : Nat) : Int) * x + levSum ts (c.set b (c.getD b 0 + 1)) (i + 1) = ((i / ts : Nat) : Int) * x + levSum ts c (i + 1) + _
    rw [ih, e]; exact Mine.om243
theorem lev_step (s : Ws) (t : Bool) (ts : Nat) (h : 0 < ts) : s.lev ts < (s.step t).lev ts := by
  cases t with
  | false => simp only [Ws.step, Ws.lev, Bool.false_eq_true, if_false]; push_cast; exact Mine.om244
  | true =>
    simp only [Ws.step, Ws.lev, if_true]
    rw [levSum_set _ _ _ _ (wsExt_len _ _), levSum_ext, Nat.zero_add]
    have h1 := Nat.div_add_mod s.b ts
    have h2 := Nat.mod_lt s.b h
    have e : ((0 : Nat) : Int) + (ts : Int) * (levSum ts s.cnt 0 + ((s.b / ts : Nat) : Int) + ((s.nt + 1 : Nat) : Int)) = (ts : Int) * (levSum ts s.cnt 0 + s.nt) + ((ts * (s.b / ts) : Nat) : Int) + ts := by
      push_cast
      rw [Int.mul_add, Int.mul_add, Int.mul_add, Int.mul_add]; exact Mine.om245
    rw [e]
    exact Mine.om246 h1 h2
theorem lev_lt (ts : Nat) (h : 0 < ts) : ∀ (l r : List Bool), r ≠ [] → (wsOf l).lev ts < (wsOf (l ++ r)).lev ts := by
  intro l r
  induction r generalizing l with
  | nil => intro e; exact absurd rfl e
  | cons t r ih =>
    intro _
    have h1 := lev_step (wsOf l) t ts h
    rw [← wsOf_snoc] at h1
    have e : l ++ t :: r = (l ++ [t]) ++ r := by simp
    rw [e]
    cases r with
    | nil => simpa using h1
    | cons u r => exact Int.lt_trans h1 (ih (l ++ [t]) (by simp))
theorem nt_le (l r : List Bool) : (wsOf l).nt ≤ (wsOf (l ++ r)).nt := by
  induction r generalizing l with
  | nil => simp
  | cons t r ih =>
    have e : l ++ t :: r = (l ++ [t]) ++ r := by simp
    rw [e]
    refine Nat.le_trans ?_ (ih (l ++ [t]))
    rw [wsOf_snoc]
    cases t <;> simp [Ws.step]
theorem ws_nonneg (l : List Bool) : (∀ c ∈ (wsOf l).cnt, 0 ≤ c) ∧ (wsOf l).cnt.sum = (wsOf l).nt := by
  have key : ∀ (l : List Bool) (s : Ws), (∀ c ∈ s.cnt, 0 ≤ c) → s.cnt.sum = s.nt → (∀ c ∈ (l.foldl Ws.step s).cnt, 0 ≤ c) ∧ (l.foldl Ws.step s).cnt.sum = (l.foldl Ws.step s).nt := by
    intro l
    induction l with
    | nil => intro s h1 h2; exact ⟨h1, h2⟩
    | cons t l ih =>
      intro s h1 h2
      rw [List.foldl_cons]
      have hx : (∀ c ∈ wsExt s.cnt s.b, 0 ≤ c) ∧ (wsExt s.cnt s.b).sum = s.nt := by
        unfold wsExt
        split
        · refine ⟨fun c hc => ?_, ?_⟩
          · rcases List.mem_append.mp hc with hc | hc
            · exact h1 c hc
            · rw [(List.mem_replicate.mp hc).2]; exact Int.le_refl _
          · have z : ∀ k, (List.replicate k (0 : Int)).sum = 0 := fun k => by induction k with | zero => rfl | succ k ih => simp [List.replicate_succ, ih]
            rw [List.sum_append, z, h2]; exact Mine.om247
        · exact ⟨h1, h2⟩
      cases t with
      | false => exact ih _ (by simpa [Ws.step] using h1) (by simpa [Ws.step] using h2)
      | true =>
        have hlt := wsExt_len s.cnt s.b
        have hge : 0 ≤ (wsExt s.cnt s.b).getD s.b 0 := by
          rw [List.getD_eq_getElem?_getD, List.getElem?_eq_getElem hlt]
          exact hx.1 _ (List.getElem_mem _)
        refine ih _ ?_ ?_
        · intro c hc
          simp only [Ws.step, if_true] at hc
          rcases List.mem_or_eq_of_mem_set hc with hc | rfl
          · exact hx.1 c hc
          · exact Mine.om248 hge
        · simp only [Ws.step, if_true]
          have : ∀ (c : List Int) (b : Nat), b < c.length → (c.set b (c.getD b 0 + 1)).sum = c.sum + 1 := by
            intro c
            induction c with
            | nil => intro b h; simp at h
            | cons y c ihc =>
              intro b h
              cases b with
              | zero => show (y + 1) + c.sum = y + c.sum + 1; exact Mine.om249
              | succ b =>
                have := ihc b (by simpa using h)
                show y + (c.set b (c.getD b 0 + 1)).sum = y + c.sum + 1
                exact Mine.om250 this
          rw [this _ _ hlt, hx.2]; push_cast; rfl
  exact key l _ (by simp) rfl
theorem levSum_bound (ts : Nat) : ∀ (c : List Int) (i m : Nat), (∀ x ∈ c, 0 ≤ x) → i + c.length ≤ m → 0 ≤ levSum ts c i ∧ levSum ts c i ≤ m * c.sum
  | [], i, m, _, _ => by simp [levSum]
  | x :: c, i, m, h, hm => by
    have ih := levSum_bound ts c (i + 1) m (fun y hy => h y (.tail _ hy)) (by simp at hm; exact Mine.om251 hm)
    have hx := h x (.head _)
    have h1 : (((i / ts : Nat)) : Int) ≤ (m : Int) := by
      have := Nat.div_le_self i ts
      simp at hm
      exact Mine.om252 hm this
    have h2 : 0 ≤ ((i / ts : Nat) : Int) * x := Int.mul_nonneg (Int.natCast_nonneg _) hx
    have h3 : ((i / ts : Nat) : Int) * x ≤ (m : Int) * x := Int.mul_le_mul_of_nonneg_right h1 hx
    simp only [levSum, List.sum_cons, Int.mul_add]
    exact Mine.om253 ih.1 ih.2 h2 h3
theorem levSum_low (ts : Nat) : ∀ (c : List Int) (i : Nat), i + c.length ≤ ts → levSum ts c i = 0
  | [], _, _ => rfl
  | x :: c, i, h => by
    have e : i / ts = 0 := Nat.div_eq_of_lt (by simp at h; exact Mine.om254 h)
    simp only [levSum, e, levSum_low ts c (i + 1) (by simp at h; exact Mine.om251 h)]
    simp
theorem levSum_next (ts : Nat) (c : List Int) (k : Nat) (h : k < c.length) : levSum ts (c.take (k + 1)) 0 = levSum ts (c.take k) 0 + ((k / ts : Nat) : Int) * c.getD k 0 := by
  rw [List.take_add_one, levSum_app, List.getElem?_eq_getElem h, List.getD_eq_getElem?_getD, List.getElem?_eq_getElem h]
  have e : 0 + (c.take k).length = k := by rw [List.length_take]; exact Mine.om255 h
  rw [e]
  simp [levSum]
end Mine

-- WsI
open PySem PySem.W PyProof.Rows
set_option Elab.async false
set_option maxRecDepth 100000
set_option maxHeartbeats 8000000
namespace Mine
open PySem.Calls PySem.Spec
theorem canon5 {x1 x2 x3 x4 x5 : Str} {m m0 : Str → Option Value} (h : ∀ z, z ≠ x1 → z ≠ x2 → z ≠ x3 → z ≠ x4 → z ≠ x5 → m z = m0 z) : m = fun z => if z = x1 then m x1 else if z = x2 then m x2 else if z = x3 then m x3 else if z = x4 then m x4 else if z = x5 then m x5 else m0 z := by
  funext z
  by_cases e1 : z = x1
  · subst e1; simp
  by_cases e2 : z = x2
  · subst e2; simp only [if_neg e1, if_true]
  by_cases e3 : z = x3
  · subst e3; simp only [if_neg e1, if_neg e2, if_true]
  by_cases e4 : z = x4
  · subst e4; simp only [if_neg e1, if_neg e2, if_neg e3, if_true]
  by_cases e5 : z = x5
  · subst e5; simp only [if_neg e1, if_neg e2, if_neg e3, if_neg e4, if_true]
  · simp only [if_neg e1, if_neg e2, if_neg e3, if_neg e4, if_neg e5]; exact h z e1 e2 e3 e4 e5
/-- a contract of a callee that the machine itself calls -/
def ConC (w : World) (dmax umax : Nat) (f : Value) (vs : List Value) (kw : List (Str × Value)) (fp : List Addr) (Pre : Heap → Prop) (Post : Heap → Value → Heap → Prop) : Prop :=
  ∀ (p : Program) (loose : List Str) (mean : ExcName → Option Value) (mg mb : Str → Option Value)
    (A : Around) (env : Env) (outer : List Env) (A₀ : Around) (base h₀ : Heap) (L : Addr) (m : Str → Option Value) (s : Shared) (R : Result → Shared → Prop),
    Below A₀ base outer h₀ → Fr h₀ L s.heap m → (Mine.hd.heap_39 w.params).In h₀ → Top p loose mean mg mb h₀ →
    A.frames = some (env :: outer) → env.frame = some L → env.scope.kind = .function → A.handled = none →
    A.depth ≤ dmax → A.units ≤ umax → (∀ b ∈ fp, b ≠ L ∧ h₀.get? b = none) → Pre s.heap →
    (∀ r h' tk', Keeps fp s.heap h' → Post s.heap r h' → R (.ok (.ret r)) { s with heap := h', toks := tk' }) →
    codeAny (model PP w) A (.call f ⟨vs, kw⟩) R s
theorem codeAny_le {M : Model} {A A' : Around} {c : Code} {R : Result → Shared → Prop} {s : Shared} (hh : A'.handled = A.handled) (hd : A.depth ≤ A'.depth) (hf : A'.frames = A.frames) (hg : A'.guards = A.guards) (hu : A.units ≤ A'.units)
    (h : codeAny M A' c R s) : codeAny M A c R s :=
  fun Γ p hc hΓ => h Γ p hc ⟨hΓ.1.trans hh.symm, Nat.le_trans hΓ.2.1 hd, fun l hl => hΓ.2.2.1 l (hf ▸ hl), fun g hl => hΓ.2.2.2.1 g (hg ▸ hl), Nat.le_trans hΓ.2.2.2.2 hu⟩
section
variable {w : World} {dmax umax : Nat} {fp : List Addr} {Pre : Heap → Prop} {Post : Heap → Value → Heap → Prop} {name qual : Str} {params : Arguments} {body : List Stmt} {scope : Scope} {dV kV doc pm cdv ct oc : Value} {an od : Option Addr} {osl : Array (Option Value)} {f : Addr} {vs : List Value} {kw : List (Str × Value)} {binds : List (Str × Value)}
theorem ConC.fnK (ho : (Mine.hd.heap_39 w.params).lookup f = some ⟨oc, od, .func (fnOf name qual params body scope dV kV doc pm an cdv ct), osl⟩) (hcd : codeIn (Mine.hd.heap_39 w.params) cdv qual = true)
    (hroom : dmax < recursionLimit)
    (hbind : ∀ s : Shared, (Mine.hd.heap_39 w.params).In s.heap → BindsTo s (fnOf name qual params body scope dV kV doc pm an cdv ct) ⟨vs, kw⟩ binds) (hloc : (binds.all fun x => decide (scope.names.lookup x.1 = some .local)) = true)
    (hcell : ∀ x ∈ scope.names, x.2 ≠ .cell) (hco : scope.isCoroutine = false) (hgen : scope.isGenerator = false) (hk : scope.kind = .function)
    (hb : ∀ (p : Program) (loose : List Str) (mean : ExcName → Option Value) (mg mb : Str → Option Value) (gd : Option (List Code)) (env : Env) (outer : List Env) (base g : Heap) (L' : Addr) (h₁ : Heap) (s : Shared) (tk₁ : Nat),
      Pre s.heap → Enter w fp s g L' h₁ → Fr g L' h₁ (fun y => binds.reverse.lookup y) → Below (AT dmax umax gd env outer) base (env :: outer) g → (Mine.hd.heap_39 w.params).In g → Top p loose mean mg mb g →
      wpAny (model PySem.Challenge.rw_sn0068_01.row.prog w) ((AT dmax umax gd env outer).deeper (envOf qual scope L' f cdv)) (execs body (envOf qual scope L' f cdv))
        (fun fl s' => Fin g { s with heap := h₁, toks := tk₁ } (Post s.heap) (match fl with | .ret v => v | _ => .none) s') (fun _ _ => False)
        { s with heap := h₁, toks := tk₁ }) : ConC w dmax umax (.ref f) vs kw fp Pre Post := by
  intro p loose mean mg mb A env outer A₀ base h₀ L m s R B F X T hA hf hke hh hd hu hfp hpre hret
  refine codeAny_le (A' := AT dmax umax A.guards env outer) hh.symm hd hA.symm rfl hu ?_
  (refine Mine.el_ALALL (ground (A := AT dmax umax A.guards env outer) B F hfp rfl hf hke) ?_; intro FG BG st)
  refine codeAny_call_def (fd := fnOf name qual params body scope dV kV doc pm an cdv ct) (body := body) (binds := binds) hroom ((X.keeps F.keep) _ _ ho) rfl (T.nolimit.keeps F.keep) (codeRec_of (X.keeps F.keep) hcd) rfl (hbind s (X.keeps F.keep)) hcell (locs hloc) (fun h₁ hns hk₁ => ?_) hco hgen hk
  have En : Enter w fp s (hideAll s.heap fp) s.heap.objs.size h₁ := Enter.of hk₁ (X.keeps st)
  have := hb p loose mean mg mb A.guards env outer base (hideAll s.heap fp) s.heap.objs.size h₁ s (s.toks + binds.length) hpre En ⟨hns, fun b o e => hk₁ b o (of_hideAll _ e), Nat.le_of_eq (hideAll_size _ _)⟩ BG (X.keeps st) (T.keeps st)
  exact wpAny_mono this (fun fl s' hl => hl.done (Q := fun v s' => R (.ok (.ret v)) s') En hret) fun _ _ q => q.elim
end
section
variable {w : World} {dmax umax : Nat} {f : Value} {vs : List Value} {kw : List (Str × Value)} {fp : List Addr} {Pre : Heap → Prop} {Post : Heap → Value → Heap → Prop}
theorem ConC.use (C : ConC w dmax umax f vs kw fp Pre Post) {p : Program} {loose : List Str} {mean : ExcName → Option Value} {mg mb : Str → Option Value}
    {A : Around} {env : Env} {outer : List Env} {A₀ : Around} {base h₀ : Heap} {L : Addr} {m : Str → Option Value} {s : Shared} {R : Result → Shared → Prop} {full oth : List (Addr × Obj)}
    (B : Below A₀ base outer h₀) (F : Fr h₀ L s.heap m) (X : (Mine.hd.heap_39 w.params).In h₀) (T : Top p loose mean mg mb h₀) (N : News h₀ L s.heap full)
    (hA : A.frames = some (env :: outer)) (hf : env.frame = some L) (hke : env.scope.kind = .function) (hh : A.handled = none) (hd : A.depth ≤ dmax) (hu : A.units ≤ umax)
    (hfp : ∀ b ∈ fp, ∃ o, (b, o) ∈ full) (hoth : ∀ p ∈ oth, p ∈ full ∧ p.1 ∉ fp) (hpre : Pre s.heap)
    (ret : ∀ r h' tk', Fr h₀ L h' m → News h₀ L h' oth → Keeps fp s.heap h' → Post s.heap r h' → R (.ok (.ret r)) { s with heap := h', toks := tk' }) :
    codeAny (model PySem.Challenge.rw_sn0068_01.row.prog w) A (.call f ⟨vs, kw⟩) R s := by
  have hfp' : ∀ b ∈ fp, b ≠ L ∧ h₀.get? b = none := fun b hb => let ⟨o, ho⟩ := hfp b hb; (N _ ho).2
  refine C p loose mean mg mb A env outer A₀ base h₀ L m s R B F X T hA hf hke hh hd hu hfp' hpre fun r h' tk' K P => ?_
  have nL : L ∉ fp := fun q => (hfp' L q).1 rfl
  have nm : ∀ b o, h₀.get? b = some o → b ∉ fp := fun b o e q => by rw [(hfp' b q).2] at e; cases e
  (refine Mine.el_E3ALALALL (F.ns) ?_; intro oL es ep hL hLd hLk hLf)
  refine ret r h' tk' ⟨⟨oL, es, ep, K _ _ hL nL, hLd, hLk, hLf⟩, fun b o e => K _ _ (F.keep b o e) (nm b o e), F.above⟩ (fun p hp => ?_) K P
  (refine Mine.el_ALL (hoth p hp) ?_; intro h1 h2)
  exact ⟨K _ _ (N p h1).1 h2, (N p h1).2⟩
end
theorem add_ints_led {prog : Program} {w : World} {A : Around} {E : Value → Shared → Prop} {s : Shared} {h₀ : Heap} {L : Addr} {m : Str → Option Value} {news : List (Addr × Obj)} {l b : Addr} {vs us : List Value} {ns ms : List Int} {n n2 : Nat} {Q : Value → Shared → Prop}
    (F : Fr h₀ L s.heap m) (N : News h₀ L s.heap news) (hl : s.heap.get? l = some (lstO vs n)) (hb : s.heap.get? b = some (lstO us n2)) (hi : IntsAre vs ns) (hj : IntsAre us ms) (hsz : ns.length + ms.length ≤ 1000)
    (h : ∀ q h' xs, Fr h₀ L h' m → News h₀ L h' ((q, lstO xs 0) :: news) → IntsAre xs (ns ++ ms) → (∀ p ∈ news, p.1 < q) → Q (.ref q) { s with heap := h' }) :
    wpAny (model prog w) A (binaryOp .Add (.ref l) (.ref b)) Q E s :=
  add_lists_ints F N ⟨_, hl, rfl, n, rfl⟩ ⟨_, hb, rfl, n2, rfl⟩ hi hj (fun h' F' N' hx => h _ _ _ F' N' hx fun p hp => Heap.lt_size (N p hp).1) (Nat.le_trans hsz (by decide))
theorem News.list_of {h₀ h : Heap} {L : Addr} {l : List (Addr × Obj)} (_ : News h₀ L h l) : ∃ l', l' = l := ⟨_, rfl⟩
section
local macro_rules | `(tactic| walk_at "pyIter str") => `(tactic| refine Hold.on ?_)
local macro_rules | `(tactic| walk_at "call builtin:len") => `(tactic| refine Hold.on ?_)
local macro_rules | `(tactic| walk_at "binaryOp Mult ref int") => `(tactic| refine Hold.on ?_)
local macro_rules | `(tactic| walk_at "binaryOp Add ref ref") => `(tactic| refine Hold.on ?_)
local macro_rules | `(tactic| walk_at "call type:tuple") => `(tactic| refine Hold.on ?_)
local macro_rules | `(tactic| walk_at "subscriptTail") => `(tactic| refine Hold.on ?_)
def initJ (m0 : Str → Option Value) (l : List Bool) (rest : List (Addr × Obj)) (i : Nat) (m : Str → Option Value) (news : List (Addr × Obj)) : Prop :=
  ∃ ca cv cn tb tn tnt, news = (ca, lstO cv cn) :: rest ∧ IntsAre cv (wsOf (l.take i)).cnt ∧ (∀ p ∈ rest, @LT.lt Nat _ p.1 ca) ∧ m (Str.ofString "count") = some (.ref ca) ∧ m (Str.ofString "b") = some (.int (wsOf (l.take i)).b tb) ∧
    m (Str.ofString "n") = some (.int (wsOf (l.take i)).n tn) ∧ m (Str.ofString "nt") = some (.int (wsOf (l.take i)).nt tnt) ∧
    ∀ z, z ≠ Str.ofString "ch" → z ≠ Str.ofString "count" → z ≠ Str.ofString "b" → z ≠ Str.ofString "n" → z ≠ Str.ofString "nt" → m z = m0 z
/-- a Whitespace that stands on the heap -/
def WsG (gl : List (Addr × Obj)) (x : Addr) (W : Ws) : Prop :=
  ∃ dx nr cr h1 h2 h3 h4 h5 k1 k2 k3 k4 k5 v1 t2 t3 tb m n1 n2 cv, (x, instObj 115 dx) ∈ gl ∧
    (dx, dictOf [⟨h1, .str (Str.ofString "raw") k1, v1⟩, ⟨h2, .str (Str.ofString "n") k2, .int W.n t2⟩, ⟨h3, .str (Str.ofString "nt") k3, .int W.nt t3⟩, ⟨h4, .str (Str.ofString "norm") k4, .ref nr⟩, ⟨h5, .str (Str.ofString "is_simple") k5, .bool (decide (W.cnt.length ≤ 1))⟩] m) ∈ gl ∧
    (nr, tupO [.ref cr, .int W.b tb] n1) ∈ gl ∧ (cr, tupO cv n2) ∈ gl ∧ IntsAre cv W.cnt
theorem init_con (w : World) (x dx : Addr) (u : Str) (tu : Tok) (l : List Bool) (hu : u.cps = (l.map chOf).toArray) (hl : l.length ≤ 12) :
    ConC w 800 8000 (Value.ref 70) [Value.ref x, Value.str u tu] [] [x, dx]
      (fun h => h.get? x = some (instObj 115 dx) ∧ h.get? dx = some emptyDict)
      (fun h r h' => r = .none ∧ ∃ gl, GL gl h' ∧ WsG gl x (wsOf l) ∧ ∀ p ∈ gl, p.1 = x ∨ p.1 = dx ∨ h.get? p.1 = none) := by
  refine' ConC.fnK (ho := ?o) (hcd := ?c) ?room ?bind ?loc ?cell ?co ?gen ?k ?body
  case o => k_is
  case c => k_is
  case room => decide
  case bind => intro s _; exact BindsTo.of_eq rfl
  case loc => rfl
  case cell => decide
  case co => rfl
  case gen => rfl
  case k => rfl
  intro p' loose mean mg mb gd env outer base g L' h₁ s tk₁ hpre En F B X T
  have l1 := En.led _ _ hpre.1 (by simp)
  have l2 := En.led _ _ hpre.2 (by simp)
  have q1 := ltN (En.lt hpre.1)
  have q2 := ltN (En.lt hpre.2)
  have q3 : @Ne Nat x dx := fun e => by have := hpre.1; rw [e, hpre.2] at this; cases this
  have N : News g L' h₁ [(x, instObj 115 dx), (dx, emptyDict)] := News.cons' (News.cons' News.nil l2.1 l2.2.1 l2.2.2) l1.1 l1.2.1 l1.2.2
  k_steps
  rename_i h2 D h3 l3 h4 h5 h6 tk7 ca h8 l8 h9 h10 h11 h12 F1 N1
  (refine Mine.el_EL (Fr.map_of F1) ?_; intro m0 hm0)
  have F1' := F1
  rw [← hm0] at F1'
  (refine Mine.el_EL (News.list_of (News.tl N1)) ?_; intro rest hrest)
  have N1' : News g L' h12 ((ca, lstO [] 0) :: rest) := by rw [hrest]; exact N1
  refine Hold.off ?_
  refine my_str (initJ m0 l rest) rfl F1' N1' ⟨ca, [], 0, _, _, _, rfl, IntsAre.nil, ?j0, by rw [hm0]; rfl, by rw [hm0]; rfl, by rw [hm0]; rfl, by rw [hm0]; rfl, fun _ _ _ _ _ _ => rfl⟩ ?turn ?done
  case j0 => rw [hrest]; simp [l8]
  case turn =>
    (intro i c t m₁ news₁ I io h' tk' hc q1q hoff hlt F2 N2; refine Mine.el_E6ALALALALALALALL q1q ?_; intro ca' cv cn tb tn tnt rf2 hcv hca e1 e2 e3 e4 hm; subst rf2; clear q1q)
    rw [canon5 hm, e1, e2, e3, e4, hm0] at F2
    have hca0 := hca
    rw [hrest] at hca N2
    simp only [List.mem_cons, List.not_mem_nil, or_false, forall_eq_or_imp, forall_eq] at hca
    change Fr g L' h' _ at F2
    change News g L' h' _ at N2
    clear F1 F1' N1 N1'
    have hl2 : i < l.length := by
      rw [hu] at hc
      have := (Array.getElem?_eq_some_iff.mp hc).1
      simpa using this
    (refine Mine.el_EL (show ∃ tab, l[i]? = some tab from (⟨_, List.getElem?_eq_getElem hl2⟩)) ?_; intro tab htab)
    have hc2 : c = chOf tab := by
      rw [hu] at hc
      simp [htab] at hc
      exact hc.symm
    subst hc2
    have hst := wsOf_take htab
    have hbd := ws_bound (l.take i)
    have hlen : cv.length = (wsOf (l.take i)).cnt.length := hcv.length
    have i1 := neN (hoff (ca', _) (.head _))
    have h12 : (l.take i).length ≤ 12 := by rw [List.length_take]; exact Mine.om256 hl
    have e12 : 12 ≤ sizeLine := by decide
    cases tab
    · k_steps
      rename_i h20 h21 F3 N3
      have e9 : ((wsOf (l.take (i + 1))).n : Int) = (wsOf (l.take i)).n + 1 := by rw [hst]; simp [Ws.step]
      have e8 : ((wsOf (l.take (i + 1))).b : Int) = (wsOf (l.take i)).b + 1 := by rw [hst]; simp [Ws.step]
      have e7 : (wsOf (l.take (i + 1))).cnt = (wsOf (l.take i)).cnt := by rw [hst]; simp [Ws.step]
      have e6 : (wsOf (l.take (i + 1))).nt = (wsOf (l.take i)).nt := by rw [hst]; simp [Ws.step]
      refine TurnPost.next (news' := (ca', lstO cv cn) :: rest) F3 N3 (fun p hp => by rw [hrest] at hp; exact hp) (fun p hp => hoff p hp) ⟨ca', cv, cn, _, _, tnt, rfl, by rw [e7]; exact hcv, hca0, rfl, by rw [e8]; rfl, by rw [e9]; rfl, by rw [e6]; rfl, ?_⟩
      intro z z1 z2 z3 z4 z5
      simp only [if_neg z1, if_neg z2, if_neg z3, if_neg z4, if_neg z5, hm0]
    · k_steps
      rename_i h20 h21 F3 N3
      refine Hold.off ?_
      refine call_len_list ⟨_, News.get N3 (a := ca') (o := lstO cv cn) (by simp), rfl, _, rfl⟩ (by simp; exact Mine.om257 hbd.2.2.2 hlen h12) ?_
      k_steps
      · rename_i hge la h23 F4 N4 l4
        refine Hold.off ?_
        have hge' : cv.length ≤ (wsOf (l.take i)).b := by
          have : ((cv.toArray.size : Nat) : Int) ≤ ((wsOf (l.take i)).b : Int) := hge
          simp at this
          exact this
        refine call_len_list ⟨_, News.get N4 (a := ca') (o := lstO cv cn) (by simp), rfl, _, rfl⟩ (by simp; exact Mine.om257 hbd.2.2.2 hlen h12) ?_
        k_steps
        refine Hold.off ?_
        refine mul_one_led (n := 0) (by k_asm) (by k_asm) (News.hd (by k_asm)).1 (by simp; exact Mine.om258 hge') (by simp; exact Mine.om259 hbd.1 h12) ?_
        intro q h24 F5 N5 l5
        k_lt l5
        k_steps
        refine Hold.off ?_
        have hrep : IntsAre (List.replicate ((((wsOf (l.take i)).b : Int) - ((cv.toArray.size : Nat) : Int) + 1).toNat) (Value.int 0 tk)) (List.replicate ((wsOf (l.take i)).b - (wsOf (l.take i)).cnt.length + 1) 0) := by
          have e : (((wsOf (l.take i)).b : Int) - ((cv.toArray.size : Nat) : Int) + 1).toNat = (wsOf (l.take i)).b - (wsOf (l.take i)).cnt.length + 1 := by simp; exact Mine.om260 hlen hge'
          rw [e]
          exact ints_rep _ _
        refine add_ints_led (l := ca') (b := q) (by k_asm) N5 (News.get N5 (a := ca') (o := lstO cv cn) (by simp)) (News.first N5) hcv hrep ?asz ?_
        case asz => simp; exact Mine.om261 hbd.1 hbd.2.2.2 h12
        intro la2 h25 cv2 F6 N6 hcv2 l6
        k_lt l6
        (refine Mine.el_EL (show ∃ c, c = wsExt (wsOf (l.take i)).cnt (wsOf (l.take i)).b from (⟨_, rfl⟩)) ?_; intro cnt2 hcnt2)
        have hcnt3 : (wsOf (l.take i)).cnt ++ List.replicate ((wsOf (l.take i)).b - (wsOf (l.take i)).cnt.length + 1) 0 = cnt2 := by
          rw [hcnt2]; unfold wsExt; rw [if_pos (by exact Mine.om262 hlen hge')]
        rw [hcnt3] at hcv2
        have hlt2 : (wsOf (l.take i)).b < cnt2.length := by rw [hcnt2]; exact wsExt_len _ _
        have hge2 : ¬ ((cv2.toArray.size : Nat) : Int) ≤ ((wsOf (l.take i)).b : Int) := by
          have := hcv2.length
          simp; exact Mine.om263 hlt2 this
        (try clear hrep); (try clear F4); (try clear N4); (try clear F5); (try clear N5); (try clear hge)
        k_steps
        rename_i h26 tok h27 hcv3 hlen3 hsum3 h28 F7 N7
        have e9 : ((wsOf (l.take (i + 1))).n : Int) = (wsOf (l.take i)).n + 1 := by rw [hst]; simp [Ws.step]
        have e8 : ((wsOf (l.take (i + 1))).b : Int) = 0 := by rw [hst]; simp [Ws.step]
        have e7 : (wsOf (l.take (i + 1))).cnt = (cnt2.set (wsOf (l.take i)).b (cnt2.getD (wsOf (l.take i)).b 0 + 1)) := by rw [hst, hcnt2]; simp [Ws.step]
        have e6 : ((wsOf (l.take (i + 1))).nt : Int) = (wsOf (l.take i)).nt + 1 := by rw [hst]; simp [Ws.step]
        refine TurnPost.next (news' := (la2, lstO _ 0) :: rest) F7 N7 (fun p hp => by
          rw [hrest] at hp
          rcases List.mem_cons.mp hp with rfl | hp
          · exact .tail _ (.tail _ (.tail _ (.head _)))
          rcases List.mem_cons.mp hp with rfl | hp
          · exact .head _
          · exact .tail _ (.tail _ (.tail _ (.tail _ (.tail _ hp))))) (fun p hp => ?_) ⟨la2, _, 0, _, _, _, rfl, by rw [e7]; exact hcv3, fun p hp => Nat.lt_trans (hca0 p hp) l6.2.2.2.1, rfl, by rw [e8]; rfl, by rw [e9]; rfl, by rw [e6]; rfl, ?_⟩
        · rcases List.mem_cons.mp hp with rfl | hp
          · exact neN (a := la2) (b := I) (by exact Mine.om264 l6.2.2.1)
          · exact hoff p (.tail _ hp)
        · intro z z1 z2 z3 z4 z5
          simp only [if_neg z1, if_neg z2, if_neg z3, if_neg z4, if_neg z5, hm0]
      · rename_i hge tok hi3 hcv3 hlen3 hsum3 h23 F4 N4
        have hcnt3 : wsExt (wsOf (l.take i)).cnt (wsOf (l.take i)).b = (wsOf (l.take i)).cnt := by
          unfold wsExt
          rw [if_neg]
          have : ¬ ((cv.toArray.size : Nat) : Int) ≤ ((wsOf (l.take i)).b : Int) := hge
          simp at this
          exact Mine.om265 hlen this
        have e9 : ((wsOf (l.take (i + 1))).n : Int) = (wsOf (l.take i)).n + 1 := by rw [hst]; simp [Ws.step]
        have e8 : ((wsOf (l.take (i + 1))).b : Int) = 0 := by rw [hst]; simp [Ws.step]
        have e7 : (wsOf (l.take (i + 1))).cnt = ((wsOf (l.take i)).cnt.set (wsOf (l.take i)).b ((wsOf (l.take i)).cnt.getD (wsOf (l.take i)).b 0 + 1)) := by rw [hst]; simp [Ws.step, hcnt3]
        have e6 : ((wsOf (l.take (i + 1))).nt : Int) = (wsOf (l.take i)).nt + 1 := by rw [hst]; simp [Ws.step]
        refine TurnPost.next (news' := (ca', lstO _ cn) :: rest) F4 N4 (fun p hp => by rw [hrest] at hp; exact hp) (fun p hp => ?_) ⟨ca', _, cn, _, _, _, rfl, by rw [e7]; exact hcv3, hca0, rfl, by rw [e8]; rfl, by rw [e9]; rfl, by rw [e6]; rfl, ?_⟩
        · rcases List.mem_cons.mp hp with rfl | hp
          · exact i1
          · exact hoff p (.tail _ hp)
        · intro z z1 z2 z3 z4 z5
          simp only [if_neg z1, if_neg z2, if_neg z3, if_neg z4, if_neg z5, hm0]
  case done =>
    (intro m₁ news₁ h' tk' q3q F2 N2; refine Mine.el_E6ALALALALALALALL q3q ?_; intro ca' cv cn tb tn tnt rf4 hcv hca e1 e2 e3 e4 hm; subst rf4; clear q3q)
    have hsz : u.cps.size = l.length := by rw [hu]; simp
    rw [hsz, List.take_length] at e2 e3 e4 hcv
    rw [canon5 hm, e1, e2, e3, e4, hm0] at F2
    have hca0 := hca
    rw [hrest] at hca N2
    simp only [List.mem_cons, List.not_mem_nil, or_false, forall_eq_or_imp, forall_eq] at hca
    change Fr g L' h' _ at F2
    change News g L' h' _ at N2
    clear F1 F1' N1 N1'
    k_steps
    rename_i h20 h21 F3 N3
    have hbd := ws_bound l
    have hlen : cv.length = (wsOf l).cnt.length := hcv.length
    refine Hold.off ?_
    refine kde_tupleOf (items := cv.toArray) (zs := cv) (by k_asm) (by k_asm) (News.isList (by k_asm) (by k_mem)) (by simp; exact Mine.om266 hl hbd.2.2.2 hlen) (by simp) ?_
    intro D2 h22 F4 N4 l4
    k_lt l4
    k_steps
    rename_i D3 h26 l26 h27 F5 N5
    refine Hold.off ?_
    have hsi : ((cv.toArray.size : Nat) : Int) ≤ 1 ↔ (wsOf l).cnt.length ≤ 1 := by simp; exact Mine.om267 hlen
    refine call_len_list ⟨_, News.get N5 (a := ca') (o := lstO cv cn) (by simp), rfl, _, rfl⟩ (by simp; exact Mine.om268 hl hbd.2.2.2 hlen) ?_
    k_steps
    rename_i h28 F6 N6
    have hfr : ∀ b, g.get? b = none → @Ne Nat b x → @Ne Nat b dx → s.heap.get? b = none := fun b hb n1 n2 => by
      cases e : s.heap.get? b with
      | none => rfl
      | some o => rw [En.inn _ _ e (by simp; exact ⟨n1, n2⟩)] at hb; cases hb
    rw [decide_eq_decide.mpr hsi] at N6
    have d3 := News.hd N6
    have d2 := News.hd (News.tl N6)
    have dX := News.hd (News.tl (News.tl (News.tl (News.tl N6))))
    have dD := News.hd (News.tl (News.tl (News.tl (News.tl (News.tl N6)))))
    refine Fin.mk' F6 ⟨rfl, [(D3, _), (D2, _), (x, _), (dx, _)], GL.cons d3.1 (GL.cons d2.1 (GL.cons dX.1 (GL.cons dD.1 GL.nil))), ?_, ?_⟩
    · exact ⟨dx, D3, D2, _, _, _, _, _, _, _, _, _, _, _, _, _, _, _, _, _, cv, .tail _ (.tail _ (.head _)), .tail _ (.tail _ (.tail _ (.head _))), .head _, .tail _ (.head _), hcv⟩
    · intro p hp
      simp only [List.mem_cons, List.not_mem_nil, or_false] at hp
      rcases hp with rfl | rfl | rfl | rfl
      · exact .inr (.inr (hfr _ d3.2.2 (neN (a := D3) (b := x) (by exact Mine.om264 l26.2.2.2.1)) (neN (a := D3) (b := dx) (by omega))))
      · exact .inr (.inr (hfr _ d2.2.2 (neN (a := D2) (b := x) (by exact Mine.om264 l4.2.2.1)) (neN (a := D2) (b := dx) (by omega))))
      · exact .inl rfl
      · exact .inr (.inl rfl)
end
end Mine

-- WsM
open PySem PySem.W PyProof.Rows
set_option Elab.async false
set_option maxRecDepth 100000
set_option maxHeartbeats 8000000
namespace Mine
open PySem.Calls PySem.Spec
theorem ints_at : ∀ {vs : List Value} {ns : List Int} {j : Nat}, IntsAre vs ns → j < ns.length → ∃ t, vs[j]? = some (.int (ns.getD j 0) t)
  | _, _, 0, .cons n t _, _ => ⟨t, rfl⟩
  | _, _, j + 1, .cons n t r, h => ints_at (j := j) r (by simpa using h)
  | _, _, _, .nil, h => absurd h (Nat.not_lt_zero _)
theorem fdiv_nat (a b : Nat) : ((a : Int)).fdiv (b : Int) = ((a / b : Nat) : Int) := by
  rw [Int.fdiv_eq_ediv_of_nonneg _ (Int.natCast_nonneg _)]; rfl
theorem bits_nat {n : Nat} (h : n ≤ 1000) : Builtin.Int.intBits (n : Int) ≤ 64 := intBits_le_64 (by exact Mine.om269) (by exact Mine.om270 h)
theorem InstAt.ground {g h : Heap} {L : Addr} {m : Str → Option Value} {x dx : Addr} {es : List DictEntry} {n : Nat} (F : Fr g L h m) (h1 : g.get? x = some (instObj 115 dx)) (h2 : g.get? dx = some (dictOf es n)) : InstAt h x (instObj 115 dx) 115 (some (dictOf es n)) :=
  ⟨F.keep _ _ h1, rfl, rfl, F.keep _ _ h2⟩
section
local macro_rules | `(tactic| k_inst) => `(tactic| exact InstAt.ground (by k_asm) (by with_reducible assumption) (by with_reducible assumption))
local macro_rules | `(tactic| walk_at "assign Tuple") => `(tactic| refine Hold.on ?_)
local macro_rules | `(tactic| walk_at "call builtin:len") => `(tactic| refine Hold.on ?_)
theorem long_con (w : World) (gl : List (Addr × Obj)) (x : Addr) (W : Ws) (H : WsG gl x W) (hl : W.cnt.length ≤ 12) :
    Con w 970 9700 (Value.ref 77) [Value.ref x] [] [] (fun h => GL gl h) (fun _ r _ => ∃ t, r = .int (max ((W.cnt.length : Int) - 1) W.b) t) := by
  (refine Mine.el_E21ALALALALL (H) ?_; intro dx nr cr h1 h2 h3 h4 h5 k1 k2 k3 k4 k5 v1 t2 t3 tb m n1 n2 cv mx md mn mc hcv; try clear H)
  refine' Con.fnK (ho := ?o) (hcd := ?c) ?room ?bind ?loc ?cell ?co ?gen ?k ?body
  case o => k_is
  case c => k_is
  case room => decide
  case bind => intro s _; exact BindsTo.of_eq rfl
  case loc => rfl
  case cell => decide
  case co => rfl
  case gen => rfl
  case k => rfl
  intro p' loose mean mg mb gd env outer base g L' h₁ s tk₁ hpre En F B X T
  have hg : GL gl g := hpre.inn En (by simp)
  have z1 := hg _ mx
  have z2 := hg _ md
  have z3 := hg _ mn
  have z4 := hg _ mc
  have N : News g L' h₁ [] := News.nil
  k_steps
  refine Hold.off ?_
  refine unpackN_ F N ⟨_, F.keep _ _ z3, rfl, _, rfl⟩ rfl rfl rfl fun h2 F2 N2 => ?_
  clear F N
  k_steps
  rename_i h3 h4 F4 N4
  refine Hold.off ?_
  refine len_tuple ⟨_, F4.keep _ _ z4, rfl, _, rfl⟩ (by simp; have := hcv.length; exact Mine.om271 hl this) ?_
  k_steps
  rename_i h5 tk5 F5 N5
  refine Fin.mk' F5 ⟨_, congrArg (fun z => Value.int z _) ?_⟩
  have e : ((cv.toArray.size : Nat) : Int) = (W.cnt.length : Int) := by rw [← hcv.length]; simp
  rw [e]
  split <;> (first | exact Mine.om272 (by assumption) | exact Mine.om273 (by assumption) | omega)
local macro_rules | `(tactic| walk_at "pyIter ref") => `(tactic| ((with_reducible rename RgMark => rgM'); clear rgM'; refine Hold.on ?_))
local macro_rules | `(tactic| walk_at "subscriptTail") => `(tactic| refine Hold.on ?_)
local macro_rules | `(tactic| walk_at "binaryOp Mult int int") => `(tactic| refine Hold.on ?_)
theorem level_con (w : World) (gl : List (Addr × Obj)) (x : Addr) (l : List Bool) (ts : Nat) (tt : Tok) (H : WsG gl x (wsOf l)) (hl : l.length ≤ 12) (h0 : 2 ≤ ts) (h1 : ts ≤ 20) :
    Con w 970 9700 (Value.ref 84) [Value.ref x, Value.int ts tt] [] [] (fun h => GL gl h) (fun _ r _ => ∃ t, r = .int ((wsOf l).lev ts) t) := by
  (refine Mine.el_E21ALALALALL (H) ?_; intro dx nr cr h1 h2 h3 h4 h5 k1 k2 k3 k4 k5 v1 t2 t3 tb m n1 n2 cv mx md mn mc hcv; try clear H)
  have hbd := ws_bound l
  have hlen := hcv.length
  have rgM := RgMark.mk
  refine' Con.fnK (ho := ?o) (hcd := ?c) ?room ?bind ?loc ?cell ?co ?gen ?k ?body
  case o => k_is
  case c => k_is
  case room => decide
  case bind => intro s _; exact BindsTo.of_eq rfl
  case loc => rfl
  case cell => decide
  case co => rfl
  case gen => rfl
  case k => rfl
  intro p' loose mean mg mb gd env outer base g L' h₁ s tk₁ hpre En F B X T
  have hg : GL gl g := hpre.inn En (by simp)
  have z1 := hg _ mx
  have z2 := hg _ md
  have z3 := hg _ mn
  have z4 := hg _ mc
  have N : News g L' h₁ [] := News.nil
  k_steps
  refine Hold.off ?_
  refine unpackN_ F N ⟨_, F.keep _ _ z3, rfl, _, rfl⟩ rfl rfl rfl fun h2 F2 N2 => ?_
  clear F N
  k_steps
  rename_i h3' h4' h5' F5 N5
  refine Hold.off ?_
  refine len_tuple ⟨_, F5.keep _ _ z4, rfl, _, rfl⟩ (by simp; exact Mine.om268 hl hbd.2.2.2 hlen) ?_
  have esz : ((cv.toArray.size : Nat) : Int) = ((wsOf l).cnt.length : Int) := by rw [← hlen]; simp
  rw [esz]
  k_steps
  rename_i h6 tk6 t6 u6 v6 hrg F6 N6 hkp
  refine Hold.off ?_
  (refine Mine.el_EL (Fr.map_of F6) ?_; intro m0 hm0)
  have F6' := F6
  rw [← hm0] at F6'
  refine my_range (n := (wsOf l).cnt.length - ts) (fun i m news => news = [] ∧ (∃ u, m (Str.ofString "il") = some (.int (levSum ts ((wsOf l).cnt.take (ts + i)) 0) u)) ∧ ∀ z, z ≠ Str.ofString "i" → z ≠ Str.ofString "il" → m z = m0 z) rfl hrg ?sm ?rs F6' N6 ?j0 ?turn ?done
  case sm => exact small_one (by exact Mine.om274) (by exact Mine.om275 (by assumption)) (by exact Mine.om274) (by exact Mine.om276 hl hbd.2.2.2)
  case rs => rw [rangeSize_one]; split <;> (first | exact Mine.om277 (by assumption) | exact Mine.om278 (by assumption) | omega)
  case j0 => exact ⟨rfl, ⟨_, by rw [levSum_low _ _ _ (by rw [List.length_take]; exact Mine.om279), hm0]; rfl⟩, fun _ _ _ => rfl⟩
  case turn =>
    (intro i m₁ news₁ I io t h' tk' hi hnt q1q hoff hlt F7 N7; refine Mine.el_ALAELL q1q ?_; intro rf2 u e1 hm; subst rf2; clear q1q)
    rw [canon2 hm, e1, hm0] at F7
    have hk : ts + i < (wsOf l).cnt.length := by exact Mine.om203 hi
    have ei : (ts : Int) + (i : Int) * 1 = ((ts + i : Nat) : Int) := by exact Mine.om280
    rw [ei] at F7
    clear F6 F6' N6
    k_steps
    refine Hold.off ?_
    (refine Mine.el_EL (ints_at hcv hk) ?_; intro tc htc)
    refine sub_tup_g F7 z4 (by exact Mine.om281) (by exact Mine.om282 hl hbd.2.2.2 hk) (seqIndex_of (by exact Mine.om283) (by exact Mine.om284 hlen hk)) (by rw [Int.toNat_natCast]; exact htc) ?_
    k_steps
    refine Hold.off ?_
    rw [fdiv_nat]
    have hq : (ts + i) / ts ≤ ts + i := Nat.div_le_self _ _
    refine mul_int (hm := IntMulOk.of_left (bits_nat (by exact Mine.om285 hl hbd.2.2.2 hk hq))) ?_
    k_steps
    rename_i h8 F8 N8
    refine TurnPost.next F8 N8 (fun p hp => hp) (fun p hp => nomatch hp) ⟨rfl, ⟨_, by rw [← Nat.add_assoc, levSum_next _ _ _ hk]; rfl⟩, fun z y1 y2 => ?_⟩
    · simp only [if_neg y1, if_neg y2, hm0]
  case done =>
    (intro m₁ news₁ h' tk' q3q F7 N7; refine Mine.el_ALAELL q3q ?_; intro rf4 u e1 hm; subst rf4; clear q3q)
    rw [List.take_of_length_le (by exact Mine.om286)] at e1
    rw [canon2 hm, e1, hm0] at F7
    clear F6 F6' N6
    k_steps
    refine Hold.off ?_
    refine mul_int (hm := IntMulOk.of_left (bits_nat (by exact Mine.om287 (by assumption)))) ?_
    k_steps
    exact Fin.mk' F7 ⟨_, rfl⟩
local macro_rules | `(tactic| walk_at "callWith ref") => `(tactic| ((with_reducible rename FnAt _ _ => fnX); refine callWith_F (FnAt.keep fnX (Fr.keep (by k_asm))) ?_))
local macro_rules | `(tactic| walk_at "call ref") => `(tactic| refine Hold.on ?_)
local macro_rules | `(tactic| walk_at "exec If") => `(tactic| ((with_reducible rename IfMark => ifM'); clear ifM'; refine Hold.on ?_))
def LessMid (s : Shared) (g : Heap) (L : Addr) (m : Str → Option Value) (f : Flow) (s' : Shared) : Prop := (f = Flow.ret (.bool true) ∨ f = Flow.next) ∧ ∃ h' tk, s' = { s with heap := h', toks := tk } ∧ Fr g L h' m ∧ News g L h' []
theorem less_con (w : World) (gl : List (Addr × Obj)) (x y : Addr) (l r : List Bool) (H : WsG gl x (wsOf l)) (H' : WsG gl y (wsOf r)) (hl : l.length ≤ 12) (hr : r.length ≤ 12) (hp : (∃ d, r = l ++ d) ∨ ∃ d, l = r ++ d) :
    Con w 960 9600 (Value.ref 105) [Value.ref x, Value.ref y] [] [] (fun h => GL gl h) (fun _ v _ => v = .bool (decide (l.length < r.length))) := by
  have HH := H
  have HH' := H'
  (refine Mine.el_E21ALALALALL (H) ?_; intro dx nr cr h1 h2 h3 h4 h5 k1 k2 k3 k4 k5 v1 t2 t3 tb m n1 n2 cv mx md mn mc hcv; try clear H)
  (refine Mine.el_E21ALALALALL (H') ?_; intro dx' nr' cr' h1' h2' h3' h4' h5' k1' k2' k3' k4' k5' v1' t2' t3' tb' m' n1' n2' cv' mx' md' mn' mc' hcv'; try clear H')
  have hbl := ws_bound l
  have hbr := ws_bound r
  have rgM := RgMark.mk
  refine' Con.fnK (ho := ?o) (hcd := ?c) ?room ?bind ?loc ?cell ?co ?gen ?k ?body
  case o => k_is
  case c => k_is
  case room => decide
  case bind => intro s _; exact BindsTo.of_eq rfl
  case loc => rfl
  case cell => decide
  case co => rfl
  case gen => rfl
  case k => rfl
  intro p' loose mean mg mb gd env outer base g L' h₁ s tk₁ hpre En F B X T
  have hg : GL gl g := hpre.inn En (by simp)
  have z1 := hg _ mx
  have z2 := hg _ md
  have z1' := hg _ mx'
  have z2' := hg _ md'
  have N : News g L' h₁ [] := News.nil
  have mk1 := IfMark.mk
  k_steps
  refine Hold.off ?_
  walk1
  have mk2 := IfMark.mk
  k_steps
  · rename_i hge
    exact Fin.mk' F (by rw [decide_eq_false]; exact Mine.om288 hbl.2.1 hbr.2.1 hge)
  rename_i hlt
  have hll : l.length < r.length := by
    have : ¬ ((wsOf r).n : Int) ≤ ((wsOf l).n : Int) := hlt
    exact Mine.om289 hbl.2.1 hbr.2.1 this
  obtain ⟨d, hd⟩ : ∃ d, r = l ++ d := by
    rcases hp with h | ⟨d, h⟩
    · exact h
    · exfalso; rw [h] at hll; simp at hll; exact Mine.om290 hll
  refine Hold.off ?_
  (refine Mine.el_EL (Fr.map_of F) ?_; intro m0 hm0)
  refine wpAny_mono (Q := LessMid s g L' m0) ?br ?rest (fun _ _ x => x)
  case br =>
    have hnt := nt_le l d
    rw [← hd] at hnt
    k_steps
    · exact ⟨.inl (by rw [decide_eq_true (by exact Mine.om291 hnt)]), _, _, rfl, by rw [hm0]; exact F, N⟩
    · exact ⟨.inr rfl, _, _, rfl, by rw [hm0]; exact F, N⟩
    · exact ⟨.inr rfl, _, _, rfl, by rw [hm0]; exact F, N⟩
  case rest =>
    (intro f s' q5q; refine Mine.el_ALE2ALALL q5q ?_; intro hf h' tk' rf6 F2 N2; subst rf6; clear q5q)
    rw [hm0] at F2
    clear F N
    rcases hf with rfl | rfl
    · exact Fin.mk' F2 (by rw [decide_eq_true hll])
    dsimp only
    k_steps
    refine Hold.off ?_
    dsimp only [List.append_nil]
    refine Con.use0 (long_con w gl x (wsOf l) HH (by exact Mine.om292 hl hbl.2.2.2)) B F2 X T N2 rfl rfl rfl rfl (Nat.le_of_ble_eq_true rfl) (Nat.le_of_ble_eq_true rfl) (hg.keep (Fr.keep F2)) ?_
    (intro r3 h3 tk3 F3 N3 _ q7q; refine Mine.el_EL q7q ?_; intro u3 rf8; subst rf8; clear q7q)
    clear F2 N2
    k_steps
    refine Hold.off ?_
    dsimp only [List.append_nil]
    refine Con.use0 (long_con w gl y (wsOf r) HH' (by exact Mine.om292 hr hbr.2.2.2)) B F3 X T N3 rfl rfl rfl rfl (Nat.le_of_ble_eq_true rfl) (Nat.le_of_ble_eq_true rfl) (hg.keep (Fr.keep F3)) ?_
    (intro r4 h4 tk4 F4 N4 _ q9q; refine Mine.el_EL q9q ?_; intro u4 rf10; subst rf10; clear q9q)
    clear F3 N3
    (refine Mine.el_EL (show ∃ a1, a1 = max (((wsOf l).cnt.length : Int) - 1) (wsOf l).b from (⟨_, rfl⟩)) ?_; intro a1 ha1)
    (refine Mine.el_EL (show ∃ a2, a2 = max (((wsOf r).cnt.length : Int) - 1) (wsOf r).b from (⟨_, rfl⟩)) ?_; intro a2 ha2)
    rw [← ha1, ← ha2]
    have hb1 : 0 ≤ a1 ∧ a1 ≤ 12 := by exact Mine.om293 hl hbl.1 hbl.2.2.2 ha1
    have hb2 : 0 ≤ a2 ∧ a2 ≤ 12 := by exact Mine.om293 hr hbr.1 hbr.2.2.2 ha2
    k_steps
    rename_i h5 tk5 h6 F6 N6 h7 tk7 t7 u7 v7 hrg F7 N7 hkp
    refine Hold.off ?_
    (refine Mine.el_EL (show ∃ nn : Int, nn = (if a2 > a1 then a2 else a1) + 1 + 1 from (⟨_, rfl⟩)) ?_; intro nn hnn)
    have hn1 : nn ≤ 14 ∧ 2 ≤ nn := by rw [hnn]; split <;> (first | exact Mine.om294 hb2.1 hb2.2 | exact Mine.om295 hb1.2 hb2.1 (by assumption) | omega)
    rw [← hnn] at hrg
    (refine Mine.el_EL (Fr.map_of F7) ?_; intro m1 hm1)
    have F7' := F7
    rw [← hm1] at F7'
    refine my_range (n := (nn - 2).toNat) (fun i m news => news = [] ∧ ∀ z, z ≠ Str.ofString "ts" → m z = m1 z) rfl hrg ?sm ?rs F7' N7 ⟨rfl, fun _ _ => rfl⟩ ?turn ?done
    case sm => exact small_one (by exact Mine.om296) (by exact Mine.om297) (by exact Mine.om298 hn1.2) (by exact Mine.om299 hn1.1)
    case rs => rw [rangeSize_one]; split <;> (first | exact Mine.om300 (by assumption) | exact Mine.om301 (by assumption) | omega)
    case turn =>
      (intro i m₁ news₁ I io t h' tk' hi hnt q11q hoff hlt F8 N8; refine Mine.el_ALL q11q ?_; intro rf12 hm; subst rf12; clear q11q)
      rw [canon1 hm, hm1] at F8
      have ei : (2 : Int) + (i : Int) * 1 = ((2 + i : Nat) : Int) := by exact Mine.om302
      rw [ei] at F8
      clear F7 F7' N7 F6 N6
      k_steps
      refine Hold.off ?_
      (try dsimp only [List.append_nil, List.cons_append, List.nil_append])
      refine Con.use0 (level_con w gl x l (2 + i) t HH hl (by exact Mine.om303) (by exact Mine.om304 hn1.1 hi)) B F8 X T N8 rfl rfl rfl rfl (Nat.le_of_ble_eq_true rfl) (Nat.le_of_ble_eq_true rfl) (hg.keep (Fr.keep F8)) ?_
      (intro r9 h9 tk9 F9 N9 _ q13q; refine Mine.el_EL q13q ?_; intro u9 rf14; subst rf14; clear q13q)
      clear F8 N8
      k_steps
      refine Hold.off ?_
      (try dsimp only [List.append_nil, List.cons_append, List.nil_append])
      refine Con.use0 (level_con w gl y r (2 + i) t HH' hr (by omega) (by omega)) B F9 X T N9 rfl rfl rfl rfl (Nat.le_of_ble_eq_true rfl) (Nat.le_of_ble_eq_true rfl) (hg.keep (Fr.keep F9)) ?_
      (intro r10 h10 tk10 F10 N10 _ q15q; refine Mine.el_EL q15q ?_; intro u10 rf16; subst rf16; clear q15q)
      clear F9 N9
      have hlev : (wsOf l).lev (2 + i) < (wsOf r).lev (2 + i) := by
        rw [hd]
        exact lev_lt _ (by exact Mine.om305) l d (by intro e; rw [hd, e] at hll; simp at hll)
      k_steps
      all_goals first | (exfalso; omega) | exact TurnPost.next F10 N10 (fun p hp => hp) (fun p hp => nomatch hp) ⟨rfl, fun z y1 => by simp only [if_neg y1, hm1]⟩
    case done =>
      (intro m₁ news₁ h' tk' q17q F8 N8; refine Mine.el_ALL q17q ?_; intro rf18 hm; subst rf18; clear q17q)
      clear F7 F7' N7 F6 N6
      k_steps
      exact Fin.mk' F8 (by rw [decide_eq_true hll])
end
end Mine

-- Asked
open PySem PySem.W PyProof.Rows
set_option Elab.async false
set_option maxRecDepth 100000
set_option maxHeartbeats 8000000
namespace Mine
open PySem.Calls PySem.Spec
theorem sub_dict_g {prog : Program} {w : World} {A : Around} {E : Value → Shared → Prop} {s : Shared} {d : Addr} {kvs : List (Int × Value)} {k : Int} {u : Tok} {v : Value} {value slice : PySem.Expr} {Q : Value → Shared → Prop} {o : Obj}
    (ho : s.heap.get? d = some o) (hd : o.IsDictOf (PySem.intKind prog w) kvs) (hl : valueAt kvs k = some v) (h : Q v { s with toks := s.toks + 1 })
    (hs : subscripted slice false (.ref d) (.int k u) = operate [.ref d, .int k u] (getItem (.ref d) (.int k u)) := by with_unfolding_all rfl) (hg : ∀ r, letTemporaryGo value (.ref d) r = pure () := by intro _; with_unfolding_all rfl) :
    wpAny (model prog w) A (subscriptTail value slice (.ref d) (.int k u)) Q E s :=
  have hD : s.heap.DictOf (PySem.intKind prog w) d kvs := Heap.dictOf_iff.mpr ⟨o, ho, hd⟩
  subscriptTail_builtin hD.typeIs slot_dict_getitem.lookup (wpAny_getItem_of (intKind_is _ _ _ _) hD.mapOf hl h) hs hg
theorem GL.four {h : Heap} {a1 a2 a3 a4 : Addr} {o1 o2 o3 o4 : Obj} (e1 : h.get? a1 = some o1) (e2 : h.get? a2 = some o2) (e3 : h.get? a3 = some o3) (e4 : h.get? a4 = some o4) :
    ∃ gg, GL gg h ∧ (a1, o1) ∈ gg ∧ (a2, o2) ∈ gg ∧ (a3, o3) ∈ gg ∧ (a4, o4) ∈ gg ∧ ∀ p ∈ gg, p.1 = a1 ∨ p.1 = a2 ∨ p.1 = a3 ∨ p.1 = a4 :=
  ⟨[(a1, o1), (a2, o2), (a3, o3), (a4, o4)], GL.cons e1 (GL.cons e2 (GL.cons e3 (GL.cons e4 GL.nil))), .head _, .tail _ (.head _), .tail _ (.tail _ (.head _)), .tail _ (.tail _ (.tail _ (.head _))), by simp⟩
theorem take_prefix {α : Type} (l : List α) (i j : Nat) : (∃ d, l.take j = l.take i ++ d) ∨ ∃ d, l.take i = l.take j ++ d := by
  rcases Nat.le_total i j with h | h
  · exact .inl ⟨(l.take j).drop i, by have := List.take_append_drop i (l.take j); rw [List.take_take, Nat.min_eq_left h] at this; exact this.symm⟩
  · exact .inr ⟨(l.take i).drop j, by have := List.take_append_drop j (l.take i); rw [List.take_take, Nat.min_eq_left h] at this; exact this.symm⟩
theorem WsG.mono {gl gl' : List (Addr × Obj)} {x : Addr} {W : Ws} (H : WsG gl x W) (h : ∀ p ∈ gl, p ∈ gl') : WsG gl' x W := by
  (refine Mine.el_E21ALALALALL (H) ?_; intro dx nr cr h1 h2 h3 h4 h5 k1 k2 k3 k4 k5 v1 t2 t3 tb m n1 n2 cv mx md mn mc hcv; try clear H)
  exact ⟨dx, nr, cr, h1, h2, h3, h4, h5, k1, k2, k3, k4, k5, v1, t2, t3, tb, m, n1, n2, cv, h _ mx, h _ md, h _ mn, h _ mc, hcv⟩
/-- the leads: a dict from symbols to Whitespaces -/
def LeadsG (w : World) (gl : List (Addr × Obj)) (la : Addr) (S : List Int) (whole : List Bool) : Prop :=
  ∃ lo kvs, (la, lo) ∈ gl ∧ lo.IsDictOf (PySem.intKind PP w) kvs ∧ ∀ s ∈ S, ∃ x, valueAt kvs s = some (.ref x) ∧ WsG gl x (wsOf (whole.take (s - 13).toNat))
def AskedSt (hist : List Bool) (o : Obj) : Prop := ∃ vs n, o = lstO vs n ∧ IntsAre vs (hist.map bI)
def Askd (q : Addr) (trace : List Bool) (gl : List (Addr × Obj)) (off : ∀ p ∈ gl, p.1 ≠ q) : Asker where
  aa := q
  St := AskedSt
  ok := fun hist => ∃ rest, trace = hist ++ rest
  gl := gl
  okp := fun a b ⟨r, e⟩ => ⟨b ++ r, by rw [e, List.append_assoc]⟩
  off := off
  lst := fun _ _ ⟨vs, n, e, _⟩ => ⟨vs, n, e⟩
section
local macro_rules | `(tactic| k_inst) => `(tactic| exact InstAt.ground (by k_asm) (by with_reducible assumption) (by with_reducible assumption))
local macro_rules | `(tactic| walk_at "And") => `(tactic| ((with_reducible show FnAt _ _ ∧ _); refine ⟨FnAt.keep (by with_reducible assumption) (Fr.keep (by k_asm)), ?_⟩))
local macro_rules | `(tactic| k_all) => `(tactic| with_reducible assumption)
local macro_rules | `(tactic| walk_at "call ref") => `(tactic| refine Hold.on ?_)
local macro_rules | `(tactic| walk_at "eval Name") => `(tactic| (k_here; k_dflt (refine' nameX_FH ?F ?c ?v ?d ?_ ?hk ?hx; (case hk => rfl); (case hx => rfl); (case F => k_asm); (case c => rfl); (case v => with_reducible assumption); (case d => with_reducible assumption); k_whole)))
local macro_rules | `(tactic| walk_at "callWith ref") => `(tactic| ((with_reducible rename FnAt _ _ => fnX); refine callWith_F (FnAt.keep fnX (Fr.keep (by k_asm))) ?_))
local macro_rules | `(tactic| walk_at "exec FunctionDef") => `(tactic| refine Hold.on ?_)
local macro_rules | `(tactic| walk_at "subscriptTail") => `(tactic| refine Hold.on ?_)
local macro_rules | `(tactic| walk_at "call builtin:list.append") => `(tactic| refine Hold.on ?_)
theorem asked_con (w : World) (la rowa : Addr) (row : List Int) (whole : List Bool) (gl : List (Addr × Obj)) (f : Nat) (hL : LeadsG w gl la row whole) (hS : ∀ s ∈ row, 14 ≤ s ∧ s < 14 + (whole.length : Int)) (hw : whole.length ≤ 12) (hnd : row.Nodup)
    (hl : row.length ≤ f) (hf : f ≤ 20) (hf1 : 1 ≤ f) (htr : (inOrder f row []).2.2.length ≤ 60) (off : ∀ p ∈ gl, p.1 ≠ 174 ∧ p.1 ≠ 162) :
    Con w 400 4000 (Value.ref 179) [Value.ref la, Value.ref rowa] [] [174, 162]
      (fun h => h.get? 174 = some (tabObj #[]) ∧ PutTab h ∧ GL gl h ∧ ∃ vs n, h.get? rowa = some (lstO vs n) ∧ IntsAre vs row)
      (fun h r h' => PutTab h' ∧ GrownAt 174 h' ∧ ∃ q l a qn vs n avs an, r = Value.ref q ∧ h.get? q = none ∧ h.get? a = none ∧ (l = rowa ∨ h.get? l = none) ∧ h'.get? q = some (tupO [.ref l, .ref a] qn) ∧
        h'.get? l = some (lstO vs n) ∧ IntsAre vs (inOrder f row []).1 ∧ h'.get? a = some (lstO avs an) ∧ IntsAre avs ((inOrder f row []).2.2.map bI)) := by
  refine' Con.fnC (ho := ?o) (hcd := ?c) ?room ?bind ?kind ?nd ?co ?gen ?k ?body
  case o => k_is
  case c => k_is
  case room => decide
  case bind => intro s _; exact BindsTo.of_eq rfl
  case kind => rfl
  case nd => decide +kernel
  case co => rfl
  case gen => rfl
  case k => rfl
  intro p' loose mean mg mb gd env outer base g L' h₁ s tk₁ cells hpre En F NC Y hcf B X T
  (refine Mine.el_ALAEALLALE2ALL (hpre) ?_; intro h174 to2 hto2 htab2 hgl vs nn hrow hints; try clear hpre)
  have l1 := En.led _ _ h174 (by simp)
  have l3 := En.led _ _ hto2 (by simp)
  have q174 := ltN (En.lt h174)
  have q162 := ltN (En.lt hto2)
  have hgg : GL gl g := hgl.inn En (fun p hp => by simp; exact off p hp)
  k_cells Y
  rename_i oA0 oL dA0 dL
  have N := News.app NC (News.cons' (News.cons' News.nil l3.1 l3.2.1 l3.2.2) l1.1 l1.2.1 l1.2.2)
  simp only [List.cons_append, List.nil_append] at N
  k_steps
  rename_i al h2 l2 h3 oA F2 N2 dA
  refine Hold.off ?_
  k_dflt (refine' nestDef_K ?d0 ?k0 ?a0 ?_; (case d0 => exact rfl); (case k0 => exact rfl); (case a0 => exact rfl))
  refine' def_any (L := L') (P := 174) (to := tabObj #[]) ?F ?N T ?C ?cd ?tab ?U ?cl ?_
  case F => k_asm
  case N => k_asm
  case C => exact codeHd_of_K (c := 178) (P := 174) X (by kernel_rfl)
  case cd => exact rfl
  case tab => exact .inl rfl
  case U => k_updF
  case cl => exact rfl
  intro f' c' oc vs' t' ctv doc h' tk' to' ex F3 N3 hc' hex hd' hv' hP' hto3 l4
  k_lt l4
  simp only [List.cons_append, List.nil_append] at N3
  have hx1 := hex _ (.head _)
  have hx2 := hex _ (.tail _ (.head _))
  have hx3 := hex _ (.tail _ (.tail _ (.head _)))
  k_steps
  rename_i h7 ra h8 F8 N8 l8
  refine Hold.off ?_
  have dL' : oL.data = .cell (some (Value.ref la)) := dL
  have hfo := News.hd (News.tl N8)
  have hal := News.hd (News.tl (News.tl N8))
  have hcA := News.hd (News.tl (News.tl (News.tl N8)))
  have hcL := News.hd (News.tl (News.tl (News.tl (News.tl N8))))
  have h162 := News.hd (News.tl (News.tl (News.tl (News.tl (News.tl (News.tl N8))))))
  have hra8 := News.hd N8
  have hc8 : h8.get? c' = some oc := by
    rcases hc' with e | e
    · exact F8.keep _ _ e
    · exact (N8 _ (.tail _ (.tail _ (.tail _ (.tail _ (.tail _ (.tail _ (.tail _ e)))))))).1
  (refine Mine.el_EALL (htab2.its) ?_; intro i2 hi2 hn2)
  have ncal : c' ≠ al := fun e => by rw [e, hal.1] at hc8; cases hc8; cases hd'
  have ncra : c' ≠ ra := fun e => by rw [e, hra8.1] at hc8; cases hc8; cases hd'
  have nc162 : c' ≠ 162 := fun e => by rw [e, h162.1] at hc8; cases hc8; exact tab_not hi2 hn2 hd' hv'
  (refine Mine.el_EALALALALALL (GL.four hc8 hfo.1 hcA.1 hcL.1) ?_; intro g3 G3 mc mf mA mL hg3)
  have hgl8 : GL gl h8 := hgg.keep (Fr.keep F8)
  have offg : ∀ p ∈ gl ++ g3, p.1 ≠ al ∧ p.1 ≠ ra ∧ p.1 ≠ 162 := fun p hp => by
    rcases List.mem_append.mp hp with hp | hp
    · have := hgg p hp
      exact ⟨fun e => (by rw [e, hal.2.2] at this; cases this), fun e => (by rw [e, hra8.2.2] at this; cases this), (off p hp).2⟩
    · rcases hg3 p hp with e | e | e | e <;> rw [e]
      · exact ⟨ncal, ncra, nc162⟩
      · exact ⟨neN (a := f') (b := al) (by exact Mine.om264 l4.1), neN (a := f') (b := ra) (by exact Mine.om306 l8.1), neN (a := f') (b := 162) (by exact Mine.om307 l4.2.2.2.2)⟩
      · exact ⟨neN (a := L' + 1 + 1) (b := al) (by exact Mine.om308 l2.1), neN (a := L' + 1 + 1) (b := ra) (by exact Mine.om308 l8.2.2.1), neN (a := L' + 1 + 1) (b := 162) (by exact Mine.om309 q162)⟩
      · exact ⟨neN (a := L' + 1) (b := al) (by exact Mine.om310 l2.2.1), neN (a := L' + 1) (b := ra) (by exact Mine.om310 l8.2.2.2.1), neN (a := L' + 1) (b := 162) (by exact Mine.om186 q162)⟩
  have hAsk : AskC w f' (Askd al (inOrder f row []).2.2 (gl ++ g3) (fun p hp => (offg p hp).1)) (fun z => z ∈ row) := by
    refine ⟨⟨_, _, List.mem_append_right _ mf, rfl⟩, fun hist a b ta tb va vb hok => ?_⟩
    (refine Mine.el_EL (hok) ?_; intro rest2 hrest2; try clear hok)
    refine' Con.fn (hfn := ?bfn) ?broom ?bbind ?bloc ?bcell ?bco ?bgen ?bk ?bbody
    case bfn => exact fun h hp => ⟨_, hp.1 _ (List.mem_append_right _ mf), rfl, c', oc, vs', t', rfl, hp.1 _ (List.mem_append_right _ mc), hd', hv'⟩
    case broom => decide
    case bbind => intro s _; exact BindsTo.of_eq rfl
    case bloc => exact locs rfl
    case bcell => decide
    case bco => rfl
    case bgen => rfl
    case bk => rfl
    intro p2 loose2 mean2 mg2 mb2 gd2 env2 outer2 base2 g2 L2 h2 s2 tk2 hpre2 En2 F2 B2 X2 T2
    (refine Mine.el_ALEALE2ALL (hpre2) ?_; intro hg7 o7 ho7 vs7 n7 rf5 hi7; subst rf5; try clear hpre2)
    have hgg2 : GL (gl ++ g3) g2 := GL.inn hg7 En2 (fun p hp => by simpa [Askd] using (offg p hp).1)
    have lq := En2.led _ _ ho7 (by simp [Askd])
    have N2 : News g2 L2 h2 [(al, lstO vs7 n7)] := News.cons' News.nil lq.1 lq.2.1 lq.2.2
    have zA : g2.get? (L' + 1 + 1) = some oA := hgg2 _ (List.mem_append_right _ mA)
    have zL : g2.get? (L' + 1) = some oL := hgg2 _ (List.mem_append_right _ mL)
    have hgx : GL gl g2 := fun p hp => hgg2 p (List.mem_append_left _ hp)
    (refine Mine.el_E2ALALL (hL) ?_; intro lo kvs hlo hdict hv; try clear hL)
    (refine Mine.el_EALL (hv a va) ?_; intro wx hvx HX)
    (refine Mine.el_EALL (hv b vb) ?_; intro wy hvy HY)
    have HX' := HX
    (refine Mine.el_E21ALALALALL (HX') ?_; intro dx nr cr k1 k2 k3 k4 k5 k6 k7 k8 k9 k10 v1 t2 t3 tb' m n1 n2 cv mx md mn mc2 hcv; try clear HX')
    have zx := hgx _ mx
    have zd := hgx _ md
    have sa := hS a va
    have sb := hS b vb
    k_steps
    refine Hold.off ?_
    refine sub_dict_g (Fr.keep F2 _ _ (hgx _ hlo)) hdict hvx ?_
    k_steps
    refine Hold.off ?_
    refine sub_dict_g (Fr.keep F2 _ _ (hgx _ hlo)) hdict hvy ?_
    k_steps
    refine Hold.off ?_
    (try dsimp only [List.append_nil, List.cons_append, List.nil_append])
    refine Con.use0 (less_con w gl wx wy _ _ HX HY (by rw [List.length_take]; exact Mine.om311 hw) (by rw [List.length_take]; exact Mine.om311 hw) (take_prefix _ _ _)) B2 F2 X2 T2 N2 rfl rfl rfl rfl (Nat.le_of_ble_eq_true rfl) (Nat.le_of_ble_eq_true rfl) (hgx.keep (Fr.keep F2)) ?_
    rintro r3 h3 tk3 F3 N3 _ rfl
    clear F2 N2
    have hlt : decide ((whole.take (a - 13).toNat).length < (whole.take (b - 13).toNat).length) = decide (a < b) := by
      apply decide_eq_decide.mpr
      rw [List.length_take, List.length_take]
      exact Mine.om312 sb.1 sb.2
    rw [hlt]
    have hlen7 : vs7.length ≤ 60 := by
      have h1 := hi7.length
      have h2 := congrArg List.length hrest2
      simp at h1 h2
      exact Mine.om313 htr h1 h2
    (refine Mine.el_EL (show ∃ bb, bb = decide (a < b) from (⟨_, rfl⟩)) ?_; intro bb hbb)
    rw [← hbb]
    cases bb
    · k_steps
      rename_i h4 F4 N4
      refine Hold.off ?_
      refine append_K F4 N4 (Upd.head (fun p hp => nomatch hp)) ?_ (by rw [PySem.sizeLine_eq]; simp; exact Mine.om314 hlen7)
      intro h5 F5 N5
      rw [List.push_toArray] at N5
      k_steps
      exact Fin.mk' F5 ⟨by rw [hbb], hgg2.keep (Fr.keep F5), _, News.first N5, _, _, rfl, by rw [List.map_append]; exact hi7.append (IntsAre.cons _ _ .nil)⟩
    · k_steps
      rename_i h4 F4 N4
      refine Hold.off ?_
      refine append_K F4 N4 (Upd.head (fun p hp => nomatch hp)) ?_ (by rw [PySem.sizeLine_eq]; simp; omega)
      intro h5 F5 N5
      rw [List.push_toArray] at N5
      k_steps
      exact Fin.mk' F5 ⟨by rw [hbb], hgg2.keep (Fr.keep F5), _, News.first N5, _, _, rfl, by rw [List.map_append]; exact hi7.append (IntsAre.cons _ _ .nil)⟩
  have hra' : g.get? rowa = some (lstO vs nn) := En.inn _ _ hrow (by
    simp only [List.mem_cons, List.not_mem_nil, or_false]
    rintro (e | e)
    · rw [e, h174] at hrow; cases hrow
    · rw [e, hto2, hi2] at hrow; cases hrow)
  have nral : rowa ≠ al := fun e => by rw [e, hal.2.2] at hra'; cases hra'
  have nrra : rowa ≠ ra := fun e => by rw [e, hra8.2.2] at hra'; cases hra'
  have hin : InPre [] (fun z => z ∈ row) row := by
    have hd : ∀ z ∈ row, deep [] z = z := fun z hz => deep_low (by have := hS z hz; exact Mine.om315 hw this.2)
    refine ⟨fun i a b e => by simp at e, fun z hz => ?_, ?_⟩
    · have := hS z hz
      rw [hd z hz]
      exact ⟨by exact Mine.om316 this.1, by simp; exact Mine.om315 hw this.2, hz⟩
    · have e : row.map (deep []) = row := by rw [List.map_congr_left hd, List.map_id']
      rw [e]; exact hnd
  have hord := ord_con w (Askd al (inOrder f row []).2.2 (gl ++ g3) (fun p hp => (offg p hp).1)) f' (fun z => z ∈ row) hAsk f 401 4003 (by exact Mine.om317 hf) (by exact Mine.om318 hf) hf1 [] ra rowa [] row hin hl (by exact Mine.om184 hl hf) (by simp; exact Mine.om185 hl hf) ⟨[], by simp⟩
    (neN (a := ra) (b := al) (by exact Mine.om264 l8.2.1)) nral nrra (neN (a := al) (b := 162) (by exact Mine.om307 l2.2.2.2)) (fun p hp => ⟨(offg p hp).2.1, (offg p hp).2.2⟩)
  have htab2' : TabOk h8 162 194 43 putQ to2 := htab2.keep2 fun b o fv t hd hv hP hb => Fr.keep F8 _ _ (En.inn _ _ hb (by
    intro hm
    simp only [List.mem_cons, List.not_mem_nil, or_false] at hm
    rcases hm with rfl | rfl
    · rw [h174] at hb; cases hb; exact tab_not rfl (by simp) hd hv
    · exact hP rfl))
  refine Con.use hord (oth := [(L' + 1 + 1, oA), (174, to')]) B F8 X T N8 rfl rfl rfl rfl (Nat.le_of_ble_eq_true rfl) (Nat.le_of_ble_eq_true rfl) ?g1 ?g2
    ⟨⟨hgl8.app G3, _, hal.1, [], 0, rfl, .nil⟩, ⟨[], 0, hra8.1, rfl, fun i a b e => by simp at e⟩, ⟨vs, nn, Fr.keep F8 _ _ hra', hints⟩, to2, h162.1, htab2'⟩ ?_
  case g1 =>
    intro b hb
    simp only [List.mem_cons, List.not_mem_nil, or_false, Askd] at hb
    rcases hb with rfl | rfl | rfl
    · exact ⟨_, .tail _ (.tail _ (.head _))⟩
    · exact ⟨_, .head _⟩
    · exact ⟨_, .tail _ (.tail _ (.tail _ (.tail _ (.tail _ (.tail _ (.head _))))))⟩
  case g2 =>
    have key : ∀ b : Nat, @Ne Nat b al → @Ne Nat b ra → @Ne Nat b 162 → b ∉ ([al, ra, 162] : List Addr) := fun b h1 h2 h3 hm => by
      simp only [List.mem_cons, List.not_mem_nil, or_false] at hm
      rcases hm with e | e | e
      · exact h1 e
      · exact h2 e
      · exact h3 e
    intro p hp
    simp only [List.mem_cons, List.not_mem_nil, or_false] at hp
    rcases hp with rfl | rfl
    · exact ⟨.tail _ (.tail _ (.tail _ (.head _))), key _ (neN (a := L' + 1 + 1) (b := al) (by omega)) (neN (a := L' + 1 + 1) (b := ra) (by omega)) (neN (a := L' + 1 + 1) (b := 162) (by omega))⟩
    · exact ⟨.tail _ (.tail _ (.tail _ (.tail _ (.tail _ (.head _))))), key _ (neN (a := 174) (b := al) (by exact Mine.om319 l2.2.2.1)) (neN (a := 174) (b := ra) (by exact Mine.om319 l8.2.2.2.2.1)) (show (174:Nat) ≠ 162 by decide)⟩
  (intro r h9 tk9 F9 N9 K9 q1q; refine Mine.el_EALALAE2ALLALAALEALE2ALLL q1q ?_; intro l9 rf2 hfr9 lv ln hl9 hli hrul9 hgl9 o9 ho9 vs9 n9 rf3 hi9 htab9; subst rf2; subst rf3; clear q1q)
  (refine Mine.el_EALL (htab9) ?_; intro to9 hto9 htb9; try clear htab9)
  (refine Mine.el_EALALALL (TabG.of (tl := []) htb9 F9 (fun q hq => nomatch hq) (fun q hq => nomatch hq)) ?_; intro tl9 ntl9 hs9 hto9' htg9)
  have hx9 : ∃ ex, News g L' h9 ex ∧ ∀ (h' : Heap) (m' : Str → Option Value), Fr g L' h' m' → News g L' h' ex → h'.get? l9 = some (lstO lv ln) := by
    rcases hfr9 with e | e
    · refine ⟨[], News.nil, fun h' m' F' _ => ?_⟩
      rw [e] at hl9 ⊢
      rw [Fr.keep F9 _ _ hra'] at hl9
      rw [← hl9]
      exact Fr.keep F' _ _ hra'
    · refine ⟨[(l9, lstO lv ln)], News.cons' News.nil hl9 (Fr.ne_seq F9 hl9) ?_, fun h' m' _ N' => (N' _ (.head _)).1⟩
      cases e1 : g.get? l9 with
      | none => rfl
      | some o => have := Fr.keep F8 _ _ e1; rw [e] at this; cases this
  (refine Mine.el_EALL (hx9) ?_; intro ex9 nex hex9; try clear hx9)
  have ho9' : h9.get? al = some (lstO vs9 n9) := ho9
  have n174 := News.hd (News.tl N9)
  have N10 : News g L' h9 ((L' + 1 + 1, oA) :: (al, lstO vs9 n9) :: (162, to9) :: (174, to') :: (tl9 ++ ex9)) :=
    News.cons' (News.cons' (News.cons' (News.cons' (News.app ntl9 nex) n174.1 n174.2.1 n174.2.2) hto9 l3.2.1 l3.2.2) ho9' hal.2.1 hal.2.2) (News.hd N9).1 (News.hd N9).2.1 (News.hd N9).2.2
  have h174' : h8.get? 174 = some to' := (News.hd (News.tl (News.tl (News.tl (News.tl (News.tl N8)))))).1
  have hfr : ∀ b, g.get? b = none → @Ne Nat b 174 → @Ne Nat b 162 → s.heap.get? b = none := fun b hb n1 n2 => by
    cases e : s.heap.get? b with
    | none => rfl
    | some o => rw [En.inn _ _ e (by simp; exact ⟨n1, n2⟩)] at hb; cases hb
  have hl9f : l9 = rowa ∨ s.heap.get? l9 = none := by
    rcases hfr9 with e | e
    · exact .inl e
    · refine .inr (hfr l9 ?_ (fun q => ?_) (fun q => ?_))
      · cases e1 : g.get? l9 with
        | none => rfl
        | some o => have := Fr.keep F8 _ _ e1; rw [e] at this; cases this
      · rw [q] at e; rw [h174'] at e; cases e
      · rw [q] at e; rw [h162.1] at e; cases e
  clear N9 N8 F8
  k_steps
  rename_i q h11 F11 N11 l11
  have nT := News.tl (News.tl (News.tl (News.tl (News.tl N11))))
  have h162' := (News.hd (News.tl (News.tl (News.tl N11)))).1
  refine Fin.mk' F11 ⟨⟨to9, h162', htg9.ok F11 fun p hp => nT p (List.mem_append_left _ hp)⟩, ⟨_, by rw [← hto3]; exact (News.hd (News.tl (News.tl (News.tl (News.tl N11))))).1⟩, q, l9, al, _, lv, ln, vs9, n9, rfl,
    hfr q (News.hd N11).2.2 (neN (a := q) (b := 174) (by exact Mine.om320 l11.2.2.2.1)) (neN (a := q) (b := 162) (by exact Mine.om321 l11.2.2.2.1)),
    hfr al hal.2.2 (neN (a := al) (b := 174) (by exact Mine.om320 l2.2.2.1)) (neN (a := al) (b := 162) (by exact Mine.om307 l2.2.2.2)), hl9f, (News.hd N11).1, ?_, hli, (News.hd (News.tl (News.tl N11))).1, hi9⟩
  exact hex9 _ _ F11 fun p hp => nT p (List.mem_append_right _ hp)
end
end Mine

-- DictL
open PySem PySem.W PyProof.Rows
set_option Elab.async false
set_option maxRecDepth 100000
set_option maxHeartbeats 8000000
namespace Mine
open PySem.Calls PySem.Spec
section
variable {prog : Program} {w : World} {A : Around} {E : Value → Shared → Prop} {h₀ : Heap} {L : Addr} {m : Str → Option Value} {env : Env}
def DictTurn (prog : Program) (w : World) (A : Around) (h₀ : Heap) (L : Addr) (m : Str → Option Value) (env : Env) (kx vx : PySem.Expr) (x : Str) (scope : Scope) (cl : List (Str × Addr)) (s₁ : Shared) (its : Array Value) (J : Nat → List (Int × Value) → List (Addr × Obj) → Prop) : Prop :=
  ∀ i v kvs I oI C oC D oD m₂ h tk news (E' : Value → Shared → Prop), its[i]? = some v → J i kvs news → LCg.NsObj oC m₂ → m₂ x = some v → Fr h₀ L h m → News h₀ L h ((I, oI) :: (C, oC) :: (D, oD) :: news) →
    LCg.Off3 I C D news → ((@Ne Nat I C) ∧ (@Ne Nat I D) ∧ (@Ne Nat C D)) →
    wpAny (model prog w) A (eval kx (compEnvC scope cl C env)) (fun key s₃ => wpAny (model prog w) A (eval vx (compEnvC scope cl C env)) (fun y s₄ => ∃ kk h4 tk4 news4, s₄ = { s₁ with heap := h4, toks := tk4 } ∧ (PySem.intKind prog w).is kk key = true ∧
      Fr h₀ L h4 m ∧ News h₀ L h4 ((I, oI) :: (C, oC) :: (D, oD) :: news4) ∧ LCg.Off3 I C D news4 ∧ J (i + 1) (stored kvs kk y) news4) E' s₃) E' { s₁ with heap := h, toks := tk }
def DictSrc (prog : Program) (w : World) (A : Around) (h₀ : Heap) (L : Addr) (m : Str → Option Value) (env : Env) (kx vx : PySem.Expr) (x : Str) (scope : Scope) (cl : List (Str × Addr)) (Q : Value → Shared → Prop) (xv : Value) (s₁ : Shared) : Prop :=
  ∃ ax its news J, xv = .ref ax ∧ A.handled = none ∧ Fr h₀ L s₁.heap m ∧ News h₀ L s₁.heap news ∧ h₀.IsList ax its ∧ its.size ≤ 1000 ∧ J 0 [] news ∧
    (∀ s₂ : Shared, (∃ h, s₂ = { s₁ with heap := h }) → DictTurn prog w A h₀ L m env kx vx x scope cl s₂ its J) ∧
    ∀ D oD kvs h tk news', J its.size kvs news' → oD.IsDictOf (PySem.intKind prog w) kvs → Fr h₀ L h m → News h₀ L h ((D, oD) :: news') → LCg.Off1 D news' → Q (.ref D) { s₁ with heap := h, toks := tk }
theorem stored_len {K : Type} [DecidableEq K] (kvs : List (K × Value)) (k : K) (y : Value) : (stored kvs k y).length ≤ kvs.length + 1 := by
  unfold stored
  split <;> simp
theorem my_dict {s : Shared} {kx vx iter : PySem.Expr} {x : Str} {px : Pos} {scope : Scope} {cl : List (Str × Addr)} {pos : Pos} {Q : Value → Shared → Prop}
    (hclos : closureFor scope env = pure cl) (hcell : ∀ y ∈ scope.names, y.2 ≠ .cell) (hkind : scope.kind = .function)
    (hnames : ∀ y ∈ scope.names, y.2 = .local → scope.names.lookup y.1 = some .local) (hx : scope.names.lookup x = some .local)
    (h : wpAny (model prog w) A (eval iter env) (DictSrc prog w A h₀ L m env kx vx x scope cl Q) E s)
    (hs : ∀ x, foldedSetIterable iter env x = pure x := by intro _; rfl) :
    wpAny (model prog w) A (eval (.DictComp kx vx [⟨.Name x px, iter, [], 0⟩] scope pos) env) Q E s := by
  rw [arm_eval_DictComp]
  refine wpAny_comprehension_free (use := none) rfl hs hclos hkind hnames (wpAny_mono h (fun xv s₁ h₁ => ?_) fun _ _ e => e)
  (refine Mine.el_E4ALALALALALALALALL (h₁) ?_; intro ax its news J rf4 hh F N hl₀ hsz hJ0 turn fin; subst rf4; try clear h₁)
  have hl : s₁.heap.IsList ax its := let ⟨o, e, r⟩ := hl₀; ⟨o, F.keep _ _ e, r⟩
  have hlt : ax < s₁.heap.objs.size := by (refine Mine.el_EALL (hl) ?_; intro _ e _; try clear hl); exact Heap.lt_size e
  refine wpAny_pyIter_list hl ?_
  -- the iterator, the dict, the comprehension's names: three new objects
  generalize hI : s₁.heap.objs.size = I at *
  have hIlt : L < I := by rw [← hI]; exact F.ns.lt
  have up : ∀ b o, s₁.heap.get? b = some o → (s₁.heap.push { cls := .type "list_iterator", data := .fields #[.ref ax, .int 0 0] }).get? b = some o := fun b o e => Heap.get?_push_of_some _ e
  have hst0 : (s₁.heap.push { cls := .type "list_iterator", data := .fields #[.ref ax, .int 0 0] }).IsListIter I ax 0 := ⟨_, by rw [← hI]; exact Heap.get?_push_size _ rfl, rfl, rfl⟩
  have hHs : (s₁.heap.push { cls := .type "list_iterator", data := .fields #[.ref ax, .int 0 0] }).objs.size = I + 1 := by rw [Heap.size_push, hI]
  generalize hH1 : s₁.heap.push { cls := .type "list_iterator", data := .fields #[.ref ax, .int 0 0] } = H1 at *
  refine wpAny_newObj_type (wpAny_newFunctionEnv hcell (by intro y hy; simp at hy) (fun h₁ hns₁ hsb₁ => ?_) hkind)
  dsimp only at hns₁ hsb₁ ⊢
  generalize hH2 : H1.push { cls := .type "dict", dict := none, data := .dict #[] } = H2 at hns₁ hsb₁ ⊢
  have hC : H2.objs.size = I + 1 + 1 := by rw [← hH2, Heap.size_push, hHs]
  rw [hHs]
  rw [hC] at hns₁ hsb₁ ⊢
  have old1 : ∀ b o, H1.get? b = some o → h₁.get? b = some o := fun b o e => hsb₁.extBut b o (fun q => by have := Heap.lt_size e; rw [hHs, q] at this; exact absurd this (by show ¬ (I + 1 + 1 < I + 1); exact Mine.om322)) (Heap.get?_push_of_some _ (hH2 ▸ Heap.get?_push_of_some _ e))
  have old : ∀ b o, s₁.heap.get? b = some o → h₁.get? b = some o := fun b o e => old1 b o (up b o e)
  have hnone : ∀ a, @LE.le Nat _ I a → h₀.get? a = none := fun a ha => by
    cases e : h₀.get? a with
    | none => rfl
    | some o => have := Heap.lt_size (F.keep a o e); rw [hI] at this; exact absurd this (Nat.not_lt.mpr ha)
  have hlow : ∀ p ∈ news, @LT.lt Nat _ p.1 I := fun p hp => by have := Heap.lt_size (N p hp).1; rw [hI] at this; exact this
  have hD₁ : h₁.get? (I + 1) = some emptyDict := hsb₁.extBut _ _ (by show ¬ (I + 1 = I + 1 + 1); exact Mine.om323) (Heap.get?_push_of_some _ (by rw [← hH2, ← hHs]; exact Heap.get?_push_size _ rfl))
  have hD0 : (emptyDict : Obj).IsDictOf (PySem.intKind prog w) [] := by
    (refine Mine.el_EALL (Heap.dictOf_iff.mp (Heap.DictOf.new (knd := PySem.intKind prog w) H1)) ?_; intro o e r)
    rw [Heap.get?_push_size _ rfl] at e
    cases e
    exact r
  have nIL : I ≠ L := Nat.ne_of_gt hIlt
  have nCL : I + 1 + 1 ≠ L := Nat.ne_of_gt (Nat.lt_succ_of_lt (Nat.lt_succ_of_lt hIlt))
  have nDL : I + 1 ≠ L := Nat.ne_of_gt (Nat.lt_succ_of_lt hIlt)
  have nIC : @Ne Nat I (I + 1 + 1) := by exact Mine.om324
  have nID : @Ne Nat I (I + 1) := by exact Mine.om325
  have nCD : @Ne Nat (I + 1 + 1) (I + 1) := by exact Mine.om326
  have n0I := hnone I (Nat.le_refl _)
  have n0C := hnone (I + 1 + 1) (by show I ≤ I + 1 + 1; exact Mine.om327)
  have n0D := hnone (I + 1) (by show I ≤ I + 1; exact Mine.om328)
  have nax : ax ≠ I := Nat.ne_of_lt (by rw [← hI] at *; exact hlt)
  have loop : ∀ s₃ : Shared, s₃ = { s₁ with heap := h₁, toks := s₁.toks + ([] : List (Str × Value)).length } →
      codeAny (model prog w) A (.compLoop (.DictComp kx vx [⟨.Name x px, iter, [], 0⟩] scope pos) 0 (.ref I) (.ref (I + 1)) (compEnvC scope cl (I + 1 + 1) env))
        (compPost (model prog w) A E none Q (.ref (I + 1)) (I + 1 + 1)) s₃ := by
    rintro s₃ rfl
    refine codeAny_compLoop_testsD
      (fun k s' => ∃ h' tk i kvs oD m' news', s' = { s₁ with heap := h', toks := tk } ∧ i ≤ its.size ∧ k = its.size + 1 - i ∧ kvs.length ≤ i ∧ h'.IsListIter I ax i ∧ Fr h₀ L h' m ∧ h'.Ns (I + 1 + 1) m' ∧ oD.IsDictOf (PySem.intKind prog w) kvs ∧
        News h₀ L h' ((I + 1, oD) :: news') ∧ LCg.Off3 I (I + 1 + 1) (I + 1) news' ∧ J i kvs news') ?_ (its.size + 1)
      ⟨h₁, _, 0, [], emptyDict, _, news, rfl, Nat.zero_le _, rfl, Nat.le_refl _, (let ⟨o, e, r⟩ := hst0; ⟨o, old1 _ _ e, r⟩), F.keeps old, hns₁, hD0, ?_, ?_, hJ0⟩
    · (intro k s' q1q; refine Mine.el_E7ALALALALALALALALALALL q1q ?_; intro h' tk i kvs oD m' news' rf2 hi rf3 hkl hst' F' hn' hdict N' off' hJ; subst rf2; subst rf3; clear q1q)
      have hl' : h'.IsList ax its := let ⟨o, e, r⟩ := hl₀; ⟨o, F'.keep _ _ e, r⟩
      have W := Walks.list (prog := prog) (w := w) hh I ax nax its
      have off3 := off'.mem
      by_cases hlt2 : i < its.size
      · refine W.item i _ _ _ hlt2 ⟨hst', hl'⟩ fun v h₂ tk₂ hPv hst₂ hk₂ => ?_
        refine wpAny_assign_Name (wpAny_storeName_local (lookup_relabel_local hx) (hn'.at' fun o e => hk₂ _ o (by simpa using nIC.symm) e) (fun h₃ hn₃ hs₃ => ?_) (by simp [compEnvC, relabel, hkind]))
        refine wpAny_tests_nil ?_
        simp only [if_true]
        (refine Mine.el_EALALL (hst₂.1) ?_; intro oI heI hcI hdI)
        (refine Mine.el_EALL (LCg.ns_obj hn₃) ?_; intro oC heC hoC)
        have F₃ : Fr h₀ L h₃ m := (LCg.fr_but F' hk₂ (Ne.symm nIL) n0I).change hs₃ nCL n0C
        have N₂ : News h₀ L h₂ ((I + 1, oD) :: news') := LCg.news_but N' hk₂ fun p hp => by
          rcases List.mem_cons.mp hp with rfl | hp
          · exact Ne.symm nID
          · exact (off3 p hp).1
        have heI3 := hs₃.extBut _ _ nIC heI
        have N₃ : News h₀ L h₃ ((I, oI) :: (I + 1 + 1, oC) :: (I + 1, oD) :: news') := fun p hp => by
          rcases List.mem_cons.mp hp with rfl | hp
          · exact ⟨heI3, nIL, n0I⟩
          · rcases List.mem_cons.mp hp with rfl | hp
            · exact ⟨heC, nCL, n0C⟩
            · have z := N₂ p hp
              refine ⟨hs₃.extBut _ _ ?_ z.1, z.2⟩
              rcases List.mem_cons.mp hp with rfl | hp
              · exact Ne.symm nCD
              · exact (off3 p hp).2.1
        refine wpAny_mono (turn { s₁ with heap := h₁ } ⟨_, rfl⟩ i v kvs I oI (I + 1 + 1) oC (I + 1) oD _ h₃ _ news' _ hPv hJ hoC (by simp) F₃ N₃ off' ⟨nIC, nID, nCD⟩) (fun key s₄ h₄ => wpAny_mono h₄ (fun y s₅ h₅ => ?_) fun _ _ e => e) fun _ _ e => e
        (refine Mine.el_E4ALALALALALL (h₅) ?_; intro kk h₆ tk₆ news₆ rf4 hkey F₆ N₆ off₆ hJ₆; subst rf4; try clear h₅)
        have zI := (N₆ (I, oI) List.mem_cons_self).1
        have zC := (N₆ (I + 1 + 1, oC) (List.mem_cons_of_mem _ List.mem_cons_self)).1
        have zD := (N₆ (I + 1, oD) (List.mem_cons_of_mem _ (List.mem_cons_of_mem _ List.mem_cons_self))).1
        have N₆' : News h₀ L h₆ news₆ := fun p hp => N₆ p (List.mem_cons_of_mem _ (List.mem_cons_of_mem _ (List.mem_cons_of_mem _ hp)))
        have off6 := off₆.mem
        refine wpAny_dictSet_pairs (hsz := by rw [sizeLine_eq]; exact Mine.om329 hsz hkl hlt2) hkey (Heap.dictOf_iff.mpr ⟨oD, zD, hdict⟩) fun h₇ hl₇ hs₇ => ?_
        (refine Mine.el_EALL (Heap.dictOf_iff.mp hl₇) ?_; intro oD' zD' hdict')
        refine ⟨its.size + 1 - (i + 1), by exact Mine.om330 hlt2, h₇, _, i + 1, stored kvs kk y, oD', _, news₆, rfl, hlt2, rfl, Nat.le_trans (stored_len _ _ _) (Nat.succ_le_succ hkl), ⟨oI, hs₇.extBut _ _ nID zI, hcI, hdI⟩, F₆.change hs₇ nDL n0D,
          (hoC.ns zC).sameBut hs₇ nCD, hdict', fun p hp => ?_, off₆, hJ₆⟩
        rcases List.mem_cons.mp hp with rfl | hp
        · exact ⟨zD', nDL, n0D⟩
        · exact ⟨hs₇.extBut _ _ (off6 p hp).2.2 (N₆' p hp).1, (N₆' p hp).2⟩
      · (refine Mine.el_L (show i = its.size from (Nat.le_antisymm hi (Nat.not_lt.mp hlt2))) ?_; intro rf4; subst rf4)
        refine W.done _ _ _ ⟨hst', hl'⟩ fun h₂ tk₂ hk₂ => ?_
        have N₂ : News h₀ L h₂ ((I + 1, oD) :: news') := LCg.news_but N' hk₂ fun p hp => by
          rcases List.mem_cons.mp hp with rfl | hp
          · exact Ne.symm nID
          · exact (off3 p hp).1
        have F₂ := LCg.fr_but F' hk₂ (Ne.symm nIL) n0I
        refine ⟨_, hn'.at' fun o e => hk₂ _ o (by simpa using nIC.symm) e, fun h'' hs'' => fin (I + 1) oD kvs h'' tk₂ news' hJ hdict (F₂.change hs'' nCL n0C) (fun p hp => ?_) off'.one⟩
        refine ⟨hs''.extBut _ _ ?_ (N₂ p hp).1, (N₂ p hp).2⟩
        rcases List.mem_cons.mp hp with rfl | hp
        · exact Ne.symm nCD
        · exact (off3 p hp).2.1
    · intro p hp
      rcases List.mem_cons.mp hp with rfl | hp
      · exact ⟨hD₁, nDL, n0D⟩
      · exact ⟨old _ _ (N p hp).1, (N p hp).2⟩
    · exact LCg.Off3.of fun p hp => by
        have := hlow p hp
        exact ⟨Nat.ne_of_lt this, Nat.ne_of_lt (Nat.lt_succ_of_lt (Nat.lt_succ_of_lt this)), Nat.ne_of_lt (Nat.lt_succ_of_lt this)⟩
  exact codeAny_compStart_dict (loop _ rfl) ((Walks.list (prog := prog) (w := w) hh I ax nax its).self 0 _ _ _ ⟨let ⟨o, e, r⟩ := hst0; ⟨o, old1 _ _ e, r⟩, let ⟨o, e, r⟩ := hl₀; ⟨o, old _ _ (F.keep _ _ e), r⟩⟩ (loop _ rfl))
end
end Mine

-- Leads
open PySem PySem.W PyProof.Rows
set_option Elab.async false
set_option maxRecDepth 100000
set_option maxHeartbeats 8000000
namespace Mine
open PySem.Calls PySem.Spec
section
local macro_rules | `(tactic| walk_at "And") => `(tactic| ((with_reducible show FnAt _ _ ∧ _); refine ⟨FnAt.keep (by with_reducible assumption) (Fr.keep (by k_asm)), ?_⟩))
local macro_rules | `(tactic| walk_at "call ref") => `(tactic| refine Hold.on ?_)
local macro_rules | `(tactic| walk_at "call builtin:len") => `(tactic| refine Hold.on ?_)
local macro_rules | `(tactic| walk_at "pyIter ref") => `(tactic| refine Hold.on ?_)
local macro_rules | `(tactic| walk_at "subscriptTail Name Name ref int") => `(tactic| refine Hold.on ?_)
local macro_rules | `(tactic| walk_at "binaryOp Add str str") => `(tactic| refine Hold.on ?_)
local macro_rules | `(tactic| walk_at "subscriptTail Name Slice str ref") => `(tactic| refine Hold.on ?_)
local macro_rules | `(tactic| walk_at "eval DictComp") => `(tactic| refine Hold.on ?_)
theorem str_app_cps (u v : Str) : (u ++ v).cps = u.cps ++ v.cps := rfl
/-- is a tab the place's letter -/
def tabAt (cells : List Int) (k : Nat) : Bool := decide ((cells.getD k 0 + (k : Int)) % 3 = 1)
def wholeOf (cells : List Int) : List Bool := (List.range cells.length).map (tabAt cells)
theorem whole_get {cells : List Int} {i : Nat} (h : i < cells.length) : (wholeOf cells)[i]? = some (tabAt cells i) := by
  unfold wholeOf
  rw [List.getElem?_map, List.getElem?_range h]; rfl
theorem valueAt_stored {kvs : List (Int × Value)} {k k' : Int} {v : Value} : valueAt (stored kvs k v) k' = if k = k' then some v else valueAt kvs k' := by
  unfold stored
  split
  · rename_i hany
    unfold valueAt
    rw [List.find?_map]
    have e : ((fun kv : Int × Value => decide (kv.1 = k')) ∘ fun kv => if kv.1 = k then (kv.1, v) else kv) = fun kv => decide (kv.1 = k') := by
      funext kv
      simp only [Function.comp]
      split <;> rfl
    rw [e]
    cases hf : kvs.find? (fun kv => decide (kv.1 = k')) with
    | none =>
      simp only [Option.map_none]
      split
      · rename_i hk
        subst hk
        (refine Mine.el_EALL (List.any_eq_true.mp hany) ?_; intro kv hm hq)
        exact absurd hq (List.find?_eq_none.mp hf kv hm)
      · rfl
    | some kv =>
      have hq := List.find?_some hf
      have hq : kv.1 = k' := by simpa using hq
      simp only [Option.map_some]
      by_cases hk : k = k'
      · rw [if_pos hk, if_pos (hq.trans hk.symm)]
      · rw [if_neg hk, if_neg (fun q => hk (q.symm.trans hq))]
  · rename_i hany
    unfold valueAt
    rw [List.find?_append]
    cases hf : kvs.find? (fun kv => decide (kv.1 = k')) with
    | none =>
      simp only [Option.none_or, Option.map_none]
      by_cases hk : k = k'
      · simp [List.find?, hk]
      · simp [List.find?, hk]
    | some kv =>
      have hq := List.find?_some hf
      have hq : kv.1 = k' := by simpa using hq
      simp only [Option.some_or, Option.map_some]
      rw [if_neg]
      intro hk
      refine hany (List.any_eq_true.mpr ⟨kv, List.mem_of_find?_eq_some hf, ?_⟩)
      simp [hq, hk]
theorem slice_cps {u : Str} {W : List Bool} {j : Int} (hu : u.cps = (W.map chOf).toArray) (h0 : 0 ≤ j) (h1 : j ≤ W.length) : (Txt.slice u none (some j)).cps = ((W.take j.toNat).map chOf).toArray := by
  have h := eq_of_beq (slice_closes_toL (x := u) h0 (by show j ≤ (u.cps.size : Int); rw [hu]; simpa using h1))
  rw [h]
  simp [hu, List.map_take]
theorem leads_con (w : World) (ca rowa : Addr) (cells row : List Int) (hc : cells.length ≤ 11) (hcb : ∀ c ∈ cells, 0 ≤ c ∧ c < 840) (hr : row.length ≤ 11) (hS : ∀ s ∈ row, 14 ≤ s ∧ s < 14 + (cells.length : Int)) (hnd : row.Nodup) :
    Con w 400 4000 (Value.ref 153) [Value.ref ca, Value.ref rowa] [] []
      (fun h => (∃ vs n, h.get? ca = some (lstO vs n) ∧ IntsAre vs cells) ∧ ∃ vs n, h.get? rowa = some (lstO vs n) ∧ IntsAre vs row)
      (fun h r h' => ∃ la gl, r = .ref la ∧ h.get? la = none ∧ GL gl h' ∧ LeadsG w gl la row (wholeOf cells) ∧ ∀ p ∈ gl, h.get? p.1 = none) := by
  refine' Con.fnC (ho := ?o) (hcd := ?c) ?room ?bind ?kind ?nd ?co ?gen ?k ?body
  case o => k_is
  case c => k_is
  case room => decide
  case bind => intro s _; exact BindsTo.of_eq rfl
  case kind => rfl
  case nd => decide +kernel
  case co => rfl
  case gen => rfl
  case k => rfl
  intro p' loose mean mg mb gd env outer base g L' h₁ s tk₁ cells' hpre En F NC Y hcf B X T
  (refine Mine.el_AE2ALLE2ALL (hpre) ?_; intro cv cn hca hci rv rn hra hri; try clear hpre)
  have hca' := En.inn _ _ hca (by simp)
  have hra' := En.inn _ _ hra (by simp)
  k_cells Y
  rename_i oF0 oW0 dF0 dW0
  k_steps
  rename_i h2 oW F2 N2 dW
  refine Hold.off ?_
  have hlc := hci.length
  refine call_len_list ⟨_, F2.keep _ _ hca', rfl, _, rfl⟩ (by simp; exact Mine.om331 hc hlc) ?_
  have esz : ((cv.toArray.size : Nat) : Int) = (cells.length : Int) := by simp [hlc]
  rw [esz]
  k_steps
  rename_i h3 tk3 t3 u3 v3 hrg F3 N3 hkp
  refine Hold.off ?_
  (refine Mine.el_EL (Fr.map_of F3) ?_; intro m0 hm0)
  have F3' := F3
  rw [← hm0] at F3'
  refine my_range (n := cells.length) (fun i m news => (∃ oW, news = [(L' + 1 + 1, oF0), (L' + 1, oW)] ∧ ∃ u t, oW.data = .cell (some (.str u t)) ∧ u.cps = (((wholeOf cells).take i).map chOf).toArray) ∧ ∀ z, z ≠ Str.ofString "k" → m z = m0 z) rfl hrg ?sm ?rs F3' N3 ?j0 ?turn ?done
  case sm => exact small_one (by exact Mine.om332) (by exact Mine.om333) (by exact Mine.om274) (by exact Mine.om334 hc)
  case rs => rw [rangeSize_one]; split <;> (first | exact Mine.om335 | exact Mine.om336 (by assumption) | omega)
  case j0 => exact ⟨⟨oW, rfl, _, _, dW, rfl⟩, fun _ _ => rfl⟩
  case turn =>
    (intro i m₁ news₁ I io t h' tk' hi hnt q1q hoff hlt F4 N4; refine Mine.el_AEALE2ALLL q1q ?_; intro oW2 rf2 u tu dW2 hu hm; subst rf2; clear q1q)
    rw [canon1 hm, hm0] at F4
    have hoff2 : ∀ (o : Obj), ∀ p ∈ [(L' + 1 + 1, oF0), (L' + 1, o)], p.1 ≠ I := fun o p hp => by
      rcases List.mem_cons.mp hp with rfl | hp
      · exact hoff (L' + 1 + 1, oF0) (.head _)
      · rw [List.mem_singleton.mp hp]; exact hoff (L' + 1, oW2) (.tail _ (.head _))
    have i1 := neN (hoff (L' + 1 + 1, _) (.head _))
    have i2 := neN (hoff (L' + 1, _) (.tail _ (.head _)))
    have ei : (0 : Int) + (i : Int) * 1 = (i : Int) := by exact Mine.om337
    rw [ei] at F4
    clear F3 F3' N3
    k_steps
    refine Hold.off ?_
    (refine Mine.el_EL (ints_at hci hi) ?_; intro tc htc)
    have hci2 := hcb _ (getD_mem hi)
    refine sub_list_g F4 hca' (by exact Mine.om158) (by exact Mine.om338 hc hi) (by rw [Int.toNat_natCast]; exact htc) ?_
    have hwi := whole_get hi
    have hcps : u.cps.size ≤ 11 := by rw [hu]; simp; exact Mine.om339 hc hi
    k_steps
    · rename_i hmod
      refine Hold.off ?_
      refine add_str (fun t5 tk5 => ?_) (by rw [sizeLine_eq]; show u.cps.size + 1 ≤ _; exact Mine.om340 hcps)
      k_steps
      rename_i h5 oW5 F5 N5 dW5
      refine TurnPost.next F5 N5 (fun p hp => hp) (hoff2 _) ⟨⟨oW5, rfl, _, _, dW5, ?_⟩, fun z y1 => by simp only [if_neg y1, hm0]⟩
      have e : tabAt cells i = true := by
        unfold tabAt
        rw [Int.fmod_eq_emod_of_nonneg _ (by decide)] at hmod
        exact decide_eq_true hmod
      rw [str_app_cps, hu, List.take_add_one, hwi, e]
      simp [chOf]
      rfl
    · rename_i hmod
      refine Hold.off ?_
      refine add_str (fun t5 tk5 => ?_) (by rw [sizeLine_eq]; show u.cps.size + 1 ≤ _; omega)
      k_steps
      rename_i h5 oW5 F5 N5 dW5
      refine TurnPost.next F5 N5 (fun p hp => hp) (hoff2 _) ⟨⟨oW5, rfl, _, _, dW5, ?_⟩, fun z y1 => by simp only [if_neg y1, hm0]⟩
      have e : tabAt cells i = false := by
        unfold tabAt
        rw [Int.fmod_eq_emod_of_nonneg _ (by decide)] at hmod
        exact decide_eq_false hmod
      rw [str_app_cps, hu, List.take_add_one, hwi, e]
      simp [chOf]
      rfl
  case done =>
    (intro m₁ news₁ h' tk' q3q F4 N4; refine Mine.el_AEALE2ALLL q3q ?_; intro oW2 rf4 u tu dW2 hu hm; subst rf4; clear q3q)
    rw [canon1 hm, hm0] at F4
    clear F3 F3' N3
    rw [List.take_of_length_le (by simp [wholeOf])] at hu
    k_steps
    rename_i h5 oF F5 N5 dF
    refine Hold.off ?_
    (refine Mine.el_EL (Fr.map_of F5) ?_; intro m5 hm5)
    refine' my_dict (L := L') (h₀ := g) (m := m5) (cl := ?dcl) ?hclos ?hcell ?hkind ?hnames ?hx ?hit
    case hclos => exact rfl
    case hcell => decide
    case hkind => rfl
    case hnames => decide
    case hx => rfl
    case hit =>
      k_steps
      rw [← hm5] at F5
      have hlr := hri.length
      refine ⟨rowa, rv.toArray, [(L' + 1 + 1, oF), (L' + 1, oW2)], fun i kvs news => ∃ ext, news = (L' + 1 + 1, oF) :: (L' + 1, oW2) :: ext ∧
        ∀ j, j < i → ∃ xx, valueAt kvs (row.getD j 0) = some (.ref xx) ∧ WsG ext xx (wsOf ((wholeOf cells).take ((row.getD j 0) - 13).toNat)), rfl, rfl, F5, N5, ⟨_, hra', rfl, _, rfl⟩, by simp; exact Mine.om341 hr hlr, ⟨[], rfl, fun j hj => absurd hj (Nat.not_lt_zero _)⟩, ?dturn, ?dfin⟩
      case dturn =>
        (intro s2 q5q i v kvs I oI C oC D oD m₂ h tk news E' hv q7q nsX hm2 F6 N6 off6 nes; refine Mine.el_EL q5q ?_; intro h9 rf6; subst rf6; clear q5q; refine Mine.el_EALL q7q ?_; intro ext rf8 hJ; subst rf8; clear q7q)
        have hii : i < row.length := by
          have := (Array.getElem?_eq_some_iff.mp hv).1
          simp at this
          exact Mine.om342 hlr this
        (refine Mine.el_EL (ints_at hri hii) ?_; intro tv htv)
        have hv' : v = .int (row.getD i 0) tv := by
          simp at hv
          rw [htv] at hv
          exact (Option.some.inj hv).symm
        subst hv'
        have hsy := hS _ (getD_mem hii)
        clear F5 N5
        k_steps
        refine Hold.off ?_
        refine slice_strN_ns (hsz := ?dsz) (s := ⟨_, _, _, _, _⟩) F6 N6 (fun h10 t10 k10 F10 N10 => ?_)
        case dsz => rw [sizeLine_eq]; show u.cps.size ≤ _; rw [hu]; simp [wholeOf]; exact Mine.om343 hc
        clear F6 N6
        k_steps
        refine Hold.off ?_
        have hwl : (wholeOf cells).length = cells.length := by simp [wholeOf]
        have ej : (row.getD i 0 - 14 + 1).toNat = (row.getD i 0 - 13).toNat := by exact Mine.om344
        have hcps := slice_cps (j := row.getD i 0 - 14 + 1) hu (by exact Mine.om345 hsy.1) (by rw [hwl]; exact Mine.om346 hsy.2)
        rw [ej] at hcps
        refine call_cls (C := 115) (fI := 70) F10 X N10 (by k_is) (by k_is) (by k_is) (fun x dx h11 F11 N11 l1 l2 => ?_)
        have nx := News.hd N11
        have ndx := News.hd (News.tl N11)
        refine ConC.use (init_con w x dx _ _ _ hcps (by rw [List.length_take]; simp [wholeOf]; exact Mine.om347 hc)) (oth := (I, oI) :: (C, oC) :: (D, oD) :: (L' + 1 + 1, oF) :: (L' + 1, oW2) :: ext) B F11 X T N11 rfl rfl rfl rfl ?id ?iu ?ifp ?ioth ⟨nx.1, ndx.1⟩ ?_
        case id => exact Nat.le_of_ble_eq_true rfl
        case iu => exact Nat.le_of_ble_eq_true rfl
        case ifp =>
          intro b hb
          simp only [List.mem_cons, List.not_mem_nil, or_false] at hb
          rcases hb with rfl | rfl
          · exact ⟨_, .head _⟩
          · exact ⟨_, .tail _ (.head _)⟩
        case ioth =>
          intro p hp
          refine ⟨.tail _ (.tail _ hp), ?_⟩
          have := l1 p hp
          simp only [List.mem_cons, List.not_mem_nil, or_false]
          rintro (e | e)
          · exact absurd e (Nat.ne_of_lt (Nat.lt_trans this l2))
          · exact absurd e (Nat.ne_of_lt this)
        (intro r h12 tk12 F12 N12 _ q9q; refine Mine.el_ALEALALL q9q ?_; intro hrn gl G12 hW hgl; clear q9q)
        have hfresh : ∀ p ∈ gl, p.1 ≠ L' ∧ g.get? p.1 = none ∧ p.1 ≠ I ∧ p.1 ≠ C ∧ p.1 ≠ D := by
          intro p hp
          have a1 := l1 (I, oI) (.head _)
          have a2 := l1 (C, oC) (.tail _ (.head _))
          have a3 := l1 (D, oD) (.tail _ (.tail _ (.head _)))
          rcases hgl p hp with e | e | e
          · rw [e]; exact ⟨nx.2.1, nx.2.2, Nat.ne_of_gt (Nat.lt_trans a1 l2), Nat.ne_of_gt (Nat.lt_trans a2 l2), Nat.ne_of_gt (Nat.lt_trans a3 l2)⟩
          · rw [e]; exact ⟨ndx.2.1, ndx.2.2, Nat.ne_of_gt a1, Nat.ne_of_gt a2, Nat.ne_of_gt a3⟩
          · have e' : h11.get? p.1 = none := e
            (refine Mine.el_E3ALL (F11.ns) ?_; intro oL _ _ hL _)
            refine ⟨fun q => ?_, ?_, fun q => ?_, fun q => ?_, fun q => ?_⟩
            · rw [q, hL] at e'; cases e'
            · cases eg : g.get? p.1 with
              | none => rfl
              | some o => rw [F11.keep _ _ eg] at e'; cases e'
            · rw [q, (News.hd (News.tl (News.tl N11))).1] at e'; cases e'
            · rw [q, (News.hd (News.tl (News.tl (News.tl N11)))).1] at e'; cases e'
            · rw [q, (News.hd (News.tl (News.tl (News.tl (News.tl N11))))).1] at e'; cases e'
        refine ⟨hrn, row.getD i 0, h12, tk12, (L' + 1 + 1, oF) :: (L' + 1, oW2) :: (ext ++ gl), rfl, intKind_is _ _ _ _, F12, ?_, ?_, ext ++ gl, rfl, ?_⟩
        · intro p hp
          simp only [List.mem_cons, List.mem_append] at hp
          rcases hp with rfl | rfl | rfl | rfl | rfl | hp | hp
          · exact N12 _ (.head _)
          · exact N12 _ (.tail _ (.head _))
          · exact N12 _ (.tail _ (.tail _ (.head _)))
          · exact N12 _ (.tail _ (.tail _ (.tail _ (.head _))))
          · exact N12 _ (.tail _ (.tail _ (.tail _ (.tail _ (.head _)))))
          · exact N12 _ (.tail _ (.tail _ (.tail _ (.tail _ (.tail _ hp)))))
          · exact ⟨G12 p hp, (hfresh p hp).1, (hfresh p hp).2.1⟩
        · have o6 := off6.mem
          refine LCg.Off3.of fun p hp => ?_
          simp only [List.mem_cons, List.mem_append] at hp
          rcases hp with rfl | rfl | hp | hp
          · exact o6 _ (.head _)
          · exact o6 _ (.tail _ (.head _))
          · exact o6 _ (.tail _ (.tail _ hp))
          · exact (hfresh p hp).2.2
        · intro j hj
          by_cases hji : j = i
          · subst hji
            exact ⟨x, by rw [valueAt_stored, if_pos rfl], hW.mono fun p hp => List.mem_append_right _ hp⟩
          · (refine Mine.el_EALL (hJ j (by exact Mine.om348 hj hji)) ?_; intro xx h1 h2)
            exact ⟨xx, by rw [valueAt_stored, if_neg (fun q => nodup_getD_ne hnd (by exact Mine.om349 hii hj) hii hji q.symm), h1], h2.mono fun p hp => List.mem_append_left _ hp⟩
      case dfin =>
        (intro D oD kvs h tk news q10q hdict F6 N6 off6; refine Mine.el_EALL q10q ?_; intro ext rf11 hJ; subst rf11; clear q10q)
        clear F5 N5
        k_steps
        have hsz : rv.toArray.size = row.length := by simp [hlr]
        have hfr : ∀ b, g.get? b = none → s.heap.get? b = none := fun b hb => by
          cases e : s.heap.get? b with
          | none => rfl
          | some o => rw [En.inn _ _ e (by simp)] at hb; cases hb
        have nD := News.hd N6
        have nE := News.tl (News.tl (News.tl N6))
        refine Fin.mk' F6 ⟨D, (D, oD) :: ext, rfl, hfr _ nD.2.2, GL.cons nD.1 (fun p hp => (nE p hp).1), ⟨oD, kvs, .head _, hdict, fun z hz => ?_⟩, fun p hp => ?_⟩
        · obtain ⟨j, hj, rfl⟩ := List.getElem_of_mem hz
          (refine Mine.el_EALL (hJ j (by rw [hsz]; exact hj)) ?_; intro xx h1 h2)
          have e : row.getD j 0 = row[j] := by rw [List.getD_eq_getElem?_getD, List.getElem?_eq_getElem hj]; rfl
          rw [e] at h1 h2
          exact ⟨xx, h1, h2.mono fun p hp => .tail _ hp⟩
        · rcases List.mem_cons.mp hp with rfl | hp
          · exact hfr _ nD.2.2
          · exact hfr _ (nE p hp).2.2
end
end Mine

-- Row
open PySem PySem.W PyProof.Rows
set_option Elab.async false
set_option maxRecDepth 100000
set_option maxHeartbeats 8000000
namespace Mine
open PySem.Calls PySem.Spec
/-- one-letter texts -/
inductive CharsAre : List Value → List Nat → Prop
  | nil : CharsAre [] []
  | cons (c : Nat) (t : Tok) {vs cs} : CharsAre vs cs → CharsAre (.str ⟨#[c]⟩ t :: vs) (c :: cs)
theorem CharsAre.length {vs : List Value} {cs : List Nat} (h : CharsAre vs cs) : vs.length = cs.length := by
  induction h with
  | nil => rfl
  | cons _ _ _ ih => simp [ih]
theorem CharsAre.cut : ∀ {vs : List Value} {cs : List Nat} {j : Nat}, CharsAre vs cs → j < cs.length → ∃ t, kl_cut vs j = some (vs.take j, .str ⟨#[cs.getD j 0]⟩ t, vs.drop (j + 1)) ∧ CharsAre (vs.take j ++ vs.drop (j + 1)) (cs.take j ++ cs.drop (j + 1))
  | _, _, _, .nil, h => absurd h (Nat.not_lt_zero _)
  | _, _, 0, .cons c t r, _ => ⟨t, rfl, r⟩
  | _ :: vs, _ :: cs, j + 1, .cons c t r, h => by
    (refine Mine.el_EALL (CharsAre.cut (j := j) r (by simpa using h)) ?_; intro t' h1 h2)
    exact ⟨t', by simp only [kl_cut, h1]; rfl, .cons c t h2⟩
theorem CharsAre.of_strs : ∀ {vs : List Value} {cs : List Nat}, StrsAre vs (cs.map fun n => (⟨#[n]⟩ : Str)) → CharsAre vs cs
  | _, [], h => by cases h; exact .nil
  | _, c :: cs, h => by
    cases h with
    | cons _ t r => exact .cons c t (CharsAre.of_strs r)
theorem CharsAre.of_items : ∀ (vs : List Value) (cs : List Nat), vs.length = cs.length → (∀ (j : Nat) (v : Value), vs[j]? = some v → ∃ c u, cs[j]? = some c ∧ v = Value.str ⟨#[c]⟩ u) → CharsAre vs cs
  | [], [], _, _ => .nil
  | v :: vs, c :: cs, hl, h => by
    (refine Mine.el_E2ALL (h 0 v rfl) ?_; intro c' u e1 rf3; subst rf3)
    cases e1
    exact .cons c u (CharsAre.of_items vs cs (by simpa using hl) fun j v hj => h (j + 1) v hj)
  | [], _ :: _, hl, _ => by simp at hl
  | _ :: _, [], hl, _ => by simp at hl
def opChars : List Nat := [43, 45, 42, 47, 124, 38, 60, 62, 61, 46, 37]
def tokOf (c : Nat) : Int := 14 + (opChars.idxOf c : Int)
theorem slice_take {u : Str} {cs : List Nat} {j : Nat} (hu : u.cps = cs.toArray) (h1 : j ≤ cs.length) : (Txt.slice u none (some (j : Int))).cps = (cs.take j).toArray := by
  have h := eq_of_beq (slice_closes_toL (x := u) (j := (j : Int)) (by exact Mine.om158) (by show (j : Int) ≤ (u.cps.size : Int); rw [hu]; simp; omega))
  rw [h]
  simp [hu]
theorem op_cps : (Str.ofString "+-*/|&<>=.%").cps = opChars.toArray := by decide +kernel
theorem getD_mem_nat {l : List Nat} {i : Nat} (hi : i < l.length) : l.getD i 0 ∈ l := by
  rw [List.getD_eq_getElem?_getD, List.getElem?_eq_getElem hi]; exact List.getElem_mem _
def tokT (c : Nat) : Nat := 367 + 2 * opChars.idxOf c
theorem tok_K {w : World} {A : Around} {E : Value → Shared → Prop} {s : Shared} {h₀ : Heap} {L : Addr} {m : Str → Option Value} {value slice : PySem.Expr} {Q : Value → Shared → Prop} {c : Nat} {t : Tok} (F : Fr h₀ L s.heap m) (X : (Mine.hd.heap_39 w.params).In h₀) (hc : c ∈ opChars)
    (h : Q (.int (tokOf c) (tokT c)) { s with toks := s.toks + 1 })
    (hs : subscripted slice false (.ref 120) (.str ⟨#[c]⟩ t) = operate [.ref 120, .str ⟨#[c]⟩ t] (getItem (.ref 120) (.str ⟨#[c]⟩ t)) := by with_unfolding_all rfl) :
    wpAny (model PySem.Challenge.rw_sn0068_01.row.prog w) A (subscriptTail value slice (.ref 120) (.str ⟨#[c]⟩ t)) Q E s := by
  refine' topItem_K F X ?l ?k ?e h hs
  case l => k_is
  case k => k_keys
  case e =>
    simp only [opChars, List.mem_cons, List.not_mem_nil, or_false] at hc
    rcases hc with rfl | rfl | rfl | rfl | rfl | rfl | rfl | rfl | rfl | rfl | rfl <;> k_is
section
local macro_rules | `(tactic| walk_at "call builtin:len") => `(tactic| refine Hold.on ?_)
local macro_rules | `(tactic| walk_at "pyIter ref") => `(tactic| refine Hold.on ?_)
local macro_rules | `(tactic| walk_at "subscriptTail Name Name ref int") => `(tactic| refine Hold.on ?_)
local macro_rules | `(tactic| walk_at "call builtin:list.pop") => `(tactic| refine Hold.on ?_)
local macro_rules | `(tactic| walk_at "call builtin:list.append") => `(tactic| refine Hold.on ?_)
local macro_rules | `(tactic| walk_at "binaryOp Mod int int") => `(tactic| refine Hold.on ?_)
local macro_rules | `(tactic| walk_at "subscriptTail Name Name ref str") => `(tactic| refine Hold.on ?_)
local macro_rules | `(tactic| walk_at "call type:list") => `(tactic| refine Hold.on ?_)
local macro_rules | `(tactic| walk_at "of Row") => `(tactic| skip)
theorem row_con (w : World) (ca : Addr) (cells : List Int) (hc : cells.length ≤ 11) (hcb : ∀ c ∈ cells, 0 ≤ c ∧ c < 840) :
    Con w 400 4000 (Value.ref 148) [Value.ref ca] [] []
      (fun h => ∃ vs n, h.get? ca = some (lstO vs n) ∧ IntsAre vs cells)
      (fun h v h' => ∃ ra rv rn r, v = .ref ra ∧ h.get? ra = none ∧ h'.get? ra = some (lstO rv rn) ∧ IntsAre rv r ∧ r.Perm ((opChars.take cells.length).map tokOf)) := by
  refine' Con.fnK (ho := ?o) (hcd := ?c) ?room ?bind ?loc ?cell ?co ?gen ?k ?body
  case o => k_is
  case c => k_is
  case room => decide
  case bind => intro s _; exact BindsTo.of_eq rfl
  case loc => rfl
  case cell => decide
  case co => rfl
  case gen => rfl
  case k => rfl
  intro p' loose mean mg mb gd env outer base g L' h₁ s tk₁ hpre En F B X T
  (refine Mine.el_E2ALL (hpre) ?_; intro cv cn hca hci; try clear hpre)
  have hca' := En.inn _ _ hca (by simp)
  have hlc := hci.length
  have N : News g L' h₁ [] := News.nil
  have esz : ((cv.toArray.size : Nat) : Int) = (cells.length : Int) := by simp [hlc]
  k_steps
  refine Hold.off ?_
  refine call_len_list ⟨_, F.keep _ _ hca', rfl, _, rfl⟩ (by simp; exact Mine.om331 hc hlc) ?_
  rw [esz]
  k_steps
  rename_i h2 t2 k2 F2 N2
  refine Hold.off ?_
  have hop : (Txt.slice (Str.ofString "+-*/|&<>=.%") none (some (cells.length : Int))).cps = (opChars.take cells.length).toArray := slice_take op_cps (by show _ ≤ 11; exact hc)
  refine call_list_str rfl _ _ (fun h3 tk3 acc c3 hk3 hg3 hit3 => ?_) (by rw [hop, sizeLine_eq]; simp; exact Mine.om350 hc)
  have F3 : Fr g L' h3 _ := F2.keeps hk3
  have hS0 : g.get? h2.objs.size = none := by
    cases e : g.get? h2.objs.size with
    | none => rfl
    | some o => exact absurd (Heap.lt_size (F2.keep _ _ e)) (Nat.lt_irrefl _)
  have hchars : CharsAre acc.toList (opChars.take cells.length) := by
    refine CharsAre.of_items _ _ ?_ fun j v hj => ?_
    · have := hit3.1; rw [hop] at this; simpa using this
    · (refine Mine.el_E2ALL (hit3.2 j v (by simpa using hj)) ?_; intro c u e1 e2)
      rw [hop] at e1
      exact ⟨c, u, by simpa using e1, e2⟩
  dsimp only at hg3
  generalize hSS : h2.objs.size = S at hg3 hS0 ⊢
  have N3 : News g L' h3 [(S, lstO acc.toList c3)] := News.cons' News.nil (by rw [hg3]) (Fr.ne_seq F3 hg3) hS0
  clear F2 N2
  k_steps
  rename_i h4 tk4 ra h5 l5 h6 F6 N6
  refine Hold.off ?_
  refine call_len_list ⟨_, F6.keep _ _ hca', rfl, _, rfl⟩ (by simp; exact Mine.om331 hc hlc) ?_
  rw [esz]
  k_steps
  rename_i h7 tk7 t7 u7 v7 hrg F7 N7 hkp
  refine Hold.off ?_
  (refine Mine.el_EL (Fr.map_of F7) ?_; intro m0 hm0)
  have F7' := F7
  rw [← hm0] at F7'
  refine my_range (n := cells.length) (fun i m news => (∃ rv rn sv sn r cs, news = [(ra, lstO rv rn), (S, lstO sv sn)] ∧ CharsAre sv cs ∧ cs.length = cells.length - i ∧ (∀ c ∈ cs, c ∈ opChars) ∧ IntsAre rv r ∧ (r ++ cs.map tokOf).Perm ((opChars.take cells.length).map tokOf)) ∧
      ∀ z, z ≠ Str.ofString "k" → z ≠ Str.ofString "sign" → m z = m0 z) rfl hrg ?sm ?rs F7' N7 ?j0 ?turn ?done
  case sm => exact small_one (by exact Mine.om332) (by exact Mine.om333) (by exact Mine.om274) (by exact Mine.om334 hc)
  case rs => rw [rangeSize_one]; split <;> (first | exact Mine.om335 | exact Mine.om336 (by assumption) | omega)
  case j0 => exact ⟨⟨[], 0, _, _, [], _, rfl, hchars, by rw [List.length_take]; show min _ 11 = _; exact Mine.om351 hc, fun c hc => List.mem_of_mem_take hc, .nil, List.Perm.refl _⟩, fun _ _ _ => rfl⟩
  case turn =>
    (intro i m₁ news₁ I io t h' tk' hi hnt q1q hoff hlt F8 N8; refine Mine.el_AE6ALALALALALLL q1q ?_; intro rv rn sv sn r cs rf2 hsv hcl hcm hrv hperm hm; subst rf2; clear q1q)
    rw [canon2 hm, hm0] at F8
    have i1 := neN (hoff (ra, _) (.head _))
    have i2 := neN (hoff (S, _) (.tail _ (.head _)))
    have ei : (0 : Int) + (i : Int) * 1 = (i : Int) := by exact Mine.om337
    rw [ei] at F8
    clear F7 F7' N7
    k_steps
    refine Hold.off ?_
    (refine Mine.el_EL (ints_at hci hi) ?_; intro tc htc)
    have hci2 := hcb _ (getD_mem hi)
    refine sub_list_g F8 hca' (by exact Mine.om158) (by exact Mine.om338 hc hi) (by rw [Int.toNat_natCast]; exact htc) ?_
    k_steps
    refine Hold.off ?_
    refine call_len_list ⟨_, News.get N8 (a := S) (o := lstO sv sn) (by simp), rfl, _, rfl⟩ (by simp; have := hsv.length; exact Mine.om352 hc hcl this) ?_
    k_steps
    refine Hold.off ?_
    have hcs : ((sv.toArray.size : Nat) : Int) = ((cells.length - i : Nat) : Int) := by rw [← hcl, ← hsv.length]; simp
    rw [hcs]
    refine mod_int (by exact Mine.om353 hi) ?_
    k_steps
    refine Hold.off ?_
    have hpos : (0 : Int) < ((cells.length - i : Nat) : Int) := by exact Mine.om354 hi
    generalize hX : Int.fmod _ ((cells.length - i : Nat) : Int) = jx
    have hj0 : 0 ≤ jx := by rw [← hX]; exact Int.fmod_nonneg_of_pos _ hpos
    have hj1 : jx < ((cells.length - i : Nat) : Int) := by rw [← hX]; exact Int.fmod_lt_of_pos _ hpos
    clear hX
    (refine Mine.el_EL (Int.eq_ofNat_of_zero_le hj0) ?_; intro j rf1; subst rf1)
    have hjl : j < cs.length := by exact Mine.om355 hcl hj1
    (refine Mine.el_EALL (hsv.cut hjl) ?_; intro ty hcut hsv2)
    have hsz := hsv.length
    refine kl_popAt (its := sv.toArray) (n := sn) F8 N8 (by unfold Builtin.List.listFitsIndex; simp; exact Mine.om356 hc hj1) (seqIndex_of (by omega) (by simp; exact Mine.om263 hjl hsz)) (by rw [Int.toNat_natCast]; exact hcut) (Upd.tail (by show @Ne Nat I S; exact Mine.om357 i2) (Upd.tail (by show @Ne Nat ra S; exact Mine.om264 l5) (Upd.head (fun p hp => nomatch hp)))) (by rw [sizeLine_eq]; simp; exact Mine.om358 hc hcl hsz) ?_
    intro h9 F9 N9
    have hcm2 := hcm _ (getD_mem_nat hjl)
    clear F8 N8
    k_steps
    refine Hold.off ?_
    refine tok_K (c := cs.getD j 0) (by k_asm) X hcm2 ?_
    k_steps
    rename_i h10 F10 N10
    refine Hold.off ?_
    have hrl : r.length + cs.length = cells.length := by
      have := hperm.length_eq
      simp only [List.length_append, List.length_map, List.length_take] at this
      have e : opChars.length = 11 := rfl
      exact Mine.om359 hc this e
    have hrv2 := hrv.length
    refine append_K F10 N10 (Upd.tail (by show @Ne Nat I ra; exact Mine.om357 i1) (Upd.head (fun p hp => by rw [List.mem_singleton.mp hp]; show @Ne Nat S ra; exact Mine.om306 l5))) ?_ (by rw [sizeLine_eq]; simp; exact Mine.om360 hc hrl hrv2)
    intro h11 F11 N11
    rw [List.push_toArray] at N11
    k_steps
    have hsplit : cs = cs.take j ++ cs.getD j 0 :: cs.drop (j + 1) := by
      have := List.take_append_drop j cs
      rw [List.drop_eq_getElem_cons hjl] at this
      rw [List.getD_eq_getElem?_getD, List.getElem?_eq_getElem hjl]
      exact this.symm
    refine TurnPost.next F11 N11 (fun p hp => hp) ?_ ⟨⟨_, _, _, _, r ++ [tokOf (cs.getD j 0)], cs.take j ++ cs.drop (j + 1), rfl, hsv2, ?_, fun c hc => hcm c ?_, hrv.append (IntsAre.cons _ _ .nil), ?_⟩, fun z y1 y2 => by simp only [if_neg y1, if_neg y2, hm0]⟩
    · intro p hp
      rcases List.mem_cons.mp hp with rfl | hp
      · show ra ≠ I; exact i1
      · rw [List.mem_singleton.mp hp]; exact i2
    · rw [List.length_append, List.length_take, List.length_drop]; exact Mine.om361 hcl hjl
    · rcases List.mem_append.mp hc with hc | hc
      · exact List.mem_of_mem_take hc
      · exact List.mem_of_mem_drop hc
    · refine List.Perm.trans ?_ hperm
      rw [List.append_assoc]
      refine List.Perm.append_left _ ?_
      rw [List.singleton_append, ← List.map_cons]
      refine List.Perm.map _ ?_
      conv => rhs; rw [hsplit]
      exact List.perm_middle.symm
  case done =>
    (intro m₁ news₁ h' tk' q3q F8 N8; refine Mine.el_AE6ALALALALALLL q3q ?_; intro rv rn sv sn r cs rf4 hsv hcl hcm hrv hperm hm; subst rf4; clear q3q)
    rw [canon2 hm, hm0] at F8
    clear F7 F7' N7
    k_steps
    have hcs0 : cs = [] := List.eq_nil_of_length_eq_zero (by exact Mine.om362 hcl)
    rw [hcs0, List.map_nil, List.append_nil] at hperm
    refine Fin.mk' F8 ⟨ra, rv, rn, r, rfl, ?_, (News.hd N8).1, hrv, hperm⟩
    cases e : s.heap.get? ra with
    | none => rfl
    | some o => have := En.inn _ _ e (by simp); rw [(News.hd N8).2.2] at this; cases this
end
end Mine

-- Cells
open PySem PySem.W PyProof.Rows
set_option Elab.async false
set_option maxRecDepth 100000
set_option maxHeartbeats 8000000
namespace Mine
open PySem.Calls PySem.Spec
section
local macro_rules | `(tactic| walk_at "call builtin:len") => `(tactic| refine Hold.on ?_)
theorem cells_con (w : World) (sa : Addr) (vs : List Value) (xs : List Int) (hi : IntsAre vs xs) (hl : xs.length ≤ 63) :
    Con w 400 4000 (Value.ref 141) [Value.ref sa] [] []
      (fun h => h.IsList sa vs.toArray)
      (fun h v h' => ∃ ca cv cn cells, v = .ref ca ∧ h.get? ca = none ∧ h'.get? ca = some (lstO cv cn) ∧ IntsAre cv cells ∧ 5 ≤ cells.length ∧ cells.length ≤ 11 ∧ ∀ c ∈ cells, 0 ≤ c ∧ c < 840) := by
  refine' Con.fnK (ho := ?o) (hcd := ?c) ?room ?bind ?loc ?cell ?co ?gen ?k ?body
  case o => k_is
  case c => k_is
  case room => decide
  case bind => intro s _; exact BindsTo.of_eq rfl
  case loc => rfl
  case cell => decide
  case co => rfl
  case gen => rfl
  case k => rfl
  intro p' loose mean mg mb gd env outer base g L' h₁ s tk₁ hpre En F B X T
  have hls : g.IsList sa vs.toArray := let ⟨o, e, r⟩ := hpre; ⟨o, En.inn _ _ e (by simp), r⟩
  have N : News g L' h₁ [] := News.nil
  have hlv := hi.length
  k_steps
  rename_i D ws h9 F9 N9 hI hC hL l9
  generalize (xs.take 11) = ys at hI hC
  generalize hzz : Int.fmod _ 7 = zz at hI hC
  have hz0 : 0 ≤ zz := by rw [← hzz]; exact Int.fmod_nonneg_of_pos _ (by decide)
  have hz1 : zz < 7 := by rw [← hzz]; exact Int.fmod_lt_of_pos _ (by decide)
  have h0 : (List.replicate 11 [(0 : Int)]).flatten = List.replicate 11 0 := by decide
  rw [h0] at hI hC
  refine Fin.mk' F9 ⟨D, ws, 0, _, rfl, ?_, (News.hd N9).1, hI, ?_, ?_, fun c hc => ?_⟩
  · cases e : s.heap.get? D with
    | none => rfl
    | some o => have := En.inn _ _ e (by simp); rw [(News.hd N9).2.2] at this; cases this
  · rw [hC]; simp; exact Mine.om363 hz0
  · rw [hC]; simp; exact Mine.om364 hz1
  · rcases List.mem_append.mp (List.mem_of_mem_take hc) with hc | hc
    · (refine Mine.el_EALL (List.mem_map.mp hc) ?_; intro y _ rf2; subst rf2)
      exact ⟨Int.fmod_nonneg_of_pos _ (by decide), Int.fmod_lt_of_pos _ (by decide)⟩
    · rw [(List.mem_replicate.mp hc).2]; decide
end
end Mine

-- Law
open PySem PySem.W PyProof.Rows
set_option Elab.async false
set_option maxRecDepth 100000
set_option maxHeartbeats 8000000
namespace Mine
open PySem.Calls PySem.Spec
/-- no table of inner code objects -/
def LedOk (p : Addr × Obj) : Prop := ∀ (its : Array Value), (∀ (u : Str) (t : Tok), its[1]? ≠ some (.str u t)) → p.2 ≠ tabObj its
theorem LedOk.list {a : Addr} {vs : List Value} {n : Nat} : LedOk (a, lstO vs n) := fun its _ e => by cases e
theorem LedOk.tup {a : Addr} {vs : List Value} {n : Nat} : LedOk (a, tupO vs n) := fun its _ e => by cases e
theorem LedOk.ne {p : Addr × Obj} {h : Heap} {b : Addr} {its : Array Value} (x : LedOk p) (e1 : h.get? p.1 = some p.2) (e2 : h.get? b = some (tabObj its)) (hn : ∀ (u : Str) (t : Tok), its[1]? ≠ some (.str u t)) : p.1 ≠ b := fun q => by
  rw [q, e2] at e1
  exact x its hn (Option.some.inj e1).symm
theorem TabOk.led {g h : Heap} {L : Addr} {m : Str → Option Value} {P : Addr} {line col : Nat} {qual : Str} {o : Obj} (x : TabOk h P line col qual o) (F : Fr g L h m) :
    ∃ tl, News g L h tl ∧ (∀ p ∈ tl, LedOk p) ∧ ∀ (h' : Heap) (m' : Str → Option Value), Fr g L h' m' → News g L h' tl → TabOk h' P line col qual o := by
  rcases x with e | ⟨c', oc, vs, t, e, hc, hd, hv, hP⟩
  · exact ⟨[], News.nil, (fun p hp => nomatch hp), fun _ _ _ _ => .inl e⟩
  · cases hg : g.get? c' with
    | some o2 =>
      have := F.keep _ _ hg
      rw [hc] at this
      cases this
      exact ⟨[], News.nil, (fun p hp => nomatch hp), fun h' m' F' _ => .inr ⟨c', oc, vs, t, e, F'.keep _ _ hg, hd, hv, hP⟩⟩
    | none =>
      refine ⟨[(c', oc)], News.cons' News.nil hc ?_ hg, fun p hp => ?_, fun h' m' _ N' => .inr ⟨c', oc, vs, t, e, (N' _ (.head _)).1, hd, hv, hP⟩⟩
      · rintro rfl
        (refine Mine.el_E3ALALL (F.ns) ?_; intro oL es ep hL hLd _)
        rw [hc] at hL; cases hL; rw [hd] at hLd; cases hLd
      · rw [List.mem_singleton.mp hp]
        intro its hn q
        exact tab_not q hn hd hv
theorem Fr.new {g h : Heap} {L a : Addr} {m : Str → Option Value} (F : Fr g L h m) (e : h.get? a = none) : a ≠ L ∧ g.get? a = none := by
  (refine Mine.el_E3ALL (F.ns) ?_; intro oL es ep hL _)
  refine ⟨fun q => ?_, ?_⟩
  · rw [q, hL] at e; cases e
  · cases eg : g.get? a with
    | none => rfl
    | some o => rw [F.keep _ _ eg] at e; cases e
theorem tok_range : ∀ n, n ≤ 11 → (opChars.take n).map tokOf = (List.range n).map fun (i : Nat) => (14 + (i : Int) : Int) := by decide
theorem row_facts {n : Nat} {r : List Int} (hn : n ≤ 11) (h : r.Perm ((opChars.take n).map tokOf)) : r.length = n ∧ r.Nodup ∧ ∀ s ∈ r, 14 ≤ s ∧ s < 14 + (n : Int) := by
  rw [tok_range n hn] at h
  refine ⟨by rw [h.length_eq]; simp, h.nodup_iff.mpr ?_, fun s hs => ?_⟩
  · refine nodup_map_of List.nodup_range fun i _ j _ e => by exact Mine.om365 e
  · (refine Mine.el_EALL (List.mem_map.mp (h.mem_iff.mp hs)) ?_; intro i hi rf2; subst rf2)
    have := List.mem_range.mp hi
    exact Mine.om366 this
theorem mk_in {n : Nat} {row : List Int} (hn : n ≤ 11) (hnd : row.Nodup) (hS : ∀ s ∈ row, 14 ≤ s ∧ s < 14 + (n : Int)) : InPre [] (fun _ => True) row := by
  have hd : ∀ z ∈ row, deep [] z = z := fun z hz => deep_low (by have := hS z hz; exact Mine.om367 hn this.2)
  refine ⟨fun i a b e => by simp at e, fun z hz => ?_, ?_⟩
  · have := hS z hz
    exact ⟨by exact Mine.om316 this.1, by simp; exact Mine.om367 hn this.2, trivial⟩
  · have e : row.map (deep []) = row := by rw [List.map_congr_left hd, List.map_id']
    rw [e]; exact hnd
def tbl (n : Nat) : Nat := ([0, 0, 0, 0, 0, 7, 10, 13, 16, 19, 22, 26] : List Nat).getD n 0
theorem tbl_le : ∀ n, n ≤ 11 → tbl n ≤ 26 := by decide
def fac : Nat → Nat
  | 0 => 1
  | n + 1 => (n + 1) * fac n
theorem fac_bits : ∀ n, n ≤ 11 → 5 ≤ n → Builtin.Int.intBits ((fac n : Int) - 1) = tbl n ∧ 0 ≤ (fac n : Int) - 1 ∧ (fac n : Int) - 1 < 2 ^ tbl n := by decide
theorem fac_le : ∀ n, n ≤ 11 → fac n ≤ 39916800 := by decide
def facts (j : Nat) : List Int := (List.range j).map fun (i : Nat) => (fac (i + 1) : Int)
theorem facts_snoc (j : Nat) : facts (j + 1) = facts j ++ [(fac (j + 1) : Int)] := by simp [facts, List.range_succ]
section
variable {prog : Program} {w : World} {A : Around} {E : Value → Shared → Prop} {s : Shared} {q : Addr} {vs : List Value} {n : Nat} {v : Value} {u : Tok} {Q : Value → Shared → Prop} {value slice : PySem.Expr}
theorem sub_last {k : Nat} (hl : s.heap.get? q = some (lstO vs n)) (hk : vs.length = k + 1) (hk2 : k < 1000) (hx : vs[k]? = some v) (h : Q v s)
    (hs : subscripted slice false (.ref q) (.int (-1) u) = operate [.ref q, .int (-1) u] (getItem (.ref q) (.int (-1) u)) := by with_unfolding_all rfl) :
    wpAny (model prog w) A (subscriptTail value slice (.ref q) (.int (-1) u)) Q E s :=
  have hL : s.heap.IsList q vs.toArray := ⟨_, hl, rfl, n, rfl⟩
  tail_any hL.typeIs slot_list_getitem.lookup (wpAny_getItem_list_neg (k := -1) hL (by decide) (by simp; exact Mine.om368 hk) (by decide) (by rw [show ((-1 : Int) + ((vs.toArray.size : Nat) : Int)).toNat = k by simp; exact Mine.om369 hk]; simpa using hx) h) hs
end
theorem told_sorted {R : List (Int × Int)} {c row : List Int} {n : Nat} (hS : ∀ s ∈ row, 14 ≤ s ∧ s < 14 + (n : Int)) (hn : n ≤ 11) (hp : c.Perm row) (hs : Srt R c) : c.Pairwise (· ≤ ·) := by
  refine List.Pairwise.imp_of_mem (fun {a b} ha hb hab => ?_) hs
  have h1 := hS a (hp.mem_iff.mp ha)
  have h2 := hS b (hp.mem_iff.mp hb)
  rw [deep_low (by exact Mine.om367 hn h1.2), deep_low (by exact Mine.om367 hn h2.2)] at hab
  exact Int.le_of_lt hab
section
local macro_rules | `(tactic| walk_at "call ref") => `(tactic| refine Hold.on ?_)
local macro_rules | `(tactic| walk_at "call builtin:len") => `(tactic| refine Hold.on ?_)
local macro_rules | `(tactic| walk_at "call builtin:sorted") => `(tactic| refine Hold.on ?_)
local macro_rules | `(tactic| walk_at "pyIter ref") => `(tactic| refine Hold.on ?_)
local macro_rules | `(tactic| walk_at "subscriptTail") => `(tactic| refine Hold.on ?_)
local macro_rules | `(tactic| walk_at "subscriptTail Name UnaryOp ref int") => `(tactic| refine Hold.on ?_)
local macro_rules | `(tactic| walk_at "subscriptTail Name Constant ref int") => `(tactic| refine Hold.on ?_)
local macro_rules | `(tactic| walk_at "binaryOp Mult int int") => `(tactic| refine Hold.on ?_)
local macro_rules | `(tactic| walk_at "call builtin:list.append") => `(tactic| refine Hold.on ?_)
local macro_rules | `(tactic| walk_at "compareOp Eq ref ref") => `(tactic| refine Hold.on ?_)
local macro_rules | `(tactic| walk_at "binaryOp Add ref ref") => `(tactic| refine Hold.on ?_)
theorem lawT : PySem.Challenge.rw_sn0068_01.Holds := by
  refine Mine.hd ?_
  k_go0
  rename_i w s₀ s mg mb G Y fa o pm cd doc kV ho hcd hg X0 V0 T0 B0 TE TW xs hs hlay hL1 hr1 hl2 was ws3 sa vs wz hL ra0 w1 r0 hI hr hlen hT hD h₁ X T B F c1 c2 c3 c4 N l0
  (refine Mine.el_EL (show ∃ g, g = ghostOf s.heap [(185, 181), (166, 162), (178, 174), (52, 48), (45, 41)] from (⟨_, rfl⟩)) ?_; intro g hgg)
  rw [← hgg] at X T B F N lifted
  k_steps
  refine Hold.off ?_
  refine Con.use0 (cells_con w sa vs xs hI (by exact Mine.om370 hlen)) B F X T N rfl rfl rfl rfl (Nat.le_of_ble_eq_true rfl) (Nat.le_of_ble_eq_true rfl) (let ⟨o, e, r⟩ := lifted; ⟨o, F.keep _ _ e, r⟩) ?_
  (intro r h2 tk2 F2 N2' K2 q1q; refine Mine.el_E4ALALALALALALL q1q ?_; intro ca cv cn cells rf2 hcan hca hci hc5 hc11 hcb; subst rf2; clear q1q)
  have n2 := Fr.new F hcan
  have N2 := News.cons' N2' hca n2.1 n2.2
  clear F N N2'
  k_steps
  rename_i h3 F3 N3
  refine Hold.off ?_
  refine Con.use0 (row_con w ca cells hc11 hcb) B F3 X T N3 rfl rfl rfl rfl (Nat.le_of_ble_eq_true rfl) (Nat.le_of_ble_eq_true rfl) ⟨cv, cn, (News.hd N3).1, hci⟩ ?_
  (intro r h4 tk4 F4 N4' K4 q3q; refine Mine.el_E4ALALALALL q3q ?_; intro ra rv rn row rf4 hran hra hri hperm; subst rf4; clear q3q)
  change h3.get? ra = none at hran
  have hraT : ∀ b o, h3.get? b = some o → ra ≠ b := fun b o e q => by rw [q, e] at hran; cases hran
  have er1 := hraT 181 _ (News.hd (News.tl N3)).1
  have er2 := hraT 162 _ (News.hd (News.tl (News.tl N3))).1
  have er3 := hraT 174 _ (News.hd (News.tl (News.tl (News.tl N3)))).1
  have n4 := Fr.new F3 hran
  have N4 := News.cons' N4' hra n4.1 n4.2
  (refine Mine.el_ALALL (row_facts hc11 hperm) ?_; intro hrl hrnd hrs)
  clear F3 N3 N4'
  k_steps
  rename_i h5 F5 N5
  refine Hold.off ?_
  refine Con.use0 (leads_con w ca ra cells row hc11 hcb (by exact Mine.om371 hc11 hrl) hrs hrnd) B F5 X T N5 rfl rfl rfl rfl (Nat.le_of_ble_eq_true rfl) (Nat.le_of_ble_eq_true rfl) ⟨⟨cv, cn, (News.hd (News.tl N5)).1, hci⟩, rv, rn, (News.hd N5).1, hri⟩ ?_
  (intro r h6 tk6 F6 N6 K6 q5q; refine Mine.el_E2ALALALALL q5q ?_; intro la gl rf6 hlan G6 hlead hgl; subst rf6; clear q5q)
  have hin := mk_in hc11 hrnd hrs
  have hsrt := inOrder_srt 20 row [] hin (by exact Mine.om372 hc11 hrl) (by omega)
  have hok := inOrder_ok 20 row [] hin (by omega) (by omega)
  have hcost := cost_le row.length (by omega) (by exact Mine.om373 hc5 hrl)
  have htbl := tbl_le row.length (by omega)
  have htrl : (inOrder 20 row []).2.2.length ≤ tbl row.length := Nat.le_trans hsrt.2 hcost
  have hwl : (wholeOf cells).length = cells.length := by simp [wholeOf]
  have o174 := (News.hd (News.tl (News.tl (News.tl (News.tl N5))))).1
  have o162 := (News.hd (News.tl (News.tl (News.tl N5)))).1
  have hoff : ∀ p ∈ gl, p.1 ≠ 174 ∧ p.1 ≠ 162 := fun p hp => by
    have e := hgl p hp
    exact ⟨fun q => (by rw [q, o174] at e; cases e), fun q => (by rw [q, o162] at e; cases e)⟩
  clear F5 N5
  k_steps
  refine Hold.off ?_
  refine Con.use (asked_con w la ra row (wholeOf cells) gl 20 hlead (by rw [hwl]; exact hrs) (by exact Mine.om374 hc11 hwl) hrnd (by exact Mine.om372 hc11 hrl) (by exact Mine.om375) (by exact Mine.om376) (by exact Mine.om377 htbl htrl) hoff) (oth := [(ra, lstO rv rn), (181, tabObj #[]), (48, tabObj #[]), (41, tabObj #[])]) B F6 X T N6 rfl rfl rfl rfl (Nat.le_of_ble_eq_true rfl) (Nat.le_of_ble_eq_true rfl) ?afp ?aoth
    ⟨(News.hd (News.tl (News.tl (News.tl (News.tl N6))))).1, ⟨_, (News.hd (News.tl (News.tl (News.tl N6)))).1, .inl rfl⟩, G6, rv, rn, (News.hd N6).1, hri⟩ ?_
  case afp =>
    intro b hb
    simp only [List.mem_cons, List.not_mem_nil, or_false] at hb
    rcases hb with rfl | rfl
    · exact ⟨_, .tail _ (.tail _ (.tail _ (.tail _ (.head _))))⟩
    · exact ⟨_, .tail _ (.tail _ (.tail _ (.head _)))⟩
  case aoth =>
    have er : ra ∉ ([174, 162] : List Addr) := by simp; exact ⟨er3, er2⟩
    intro p hp
    simp only [List.mem_cons, List.not_mem_nil, or_false] at hp
    rcases hp with rfl | rfl | rfl | rfl
    · exact ⟨.head _, er⟩
    · exact ⟨.tail _ (.tail _ (.head _)), by simp⟩
    · exact ⟨.tail _ (.tail _ (.tail _ (.tail _ (.tail _ (.head _))))), by simp⟩
    · exact ⟨.tail _ (.tail _ (.tail _ (.tail _ (.tail _ (.tail _ (.head _)))))), by simp⟩
  (intro r h7 tk7 F7 N7 K7 q7q; refine Mine.el_AEALLAELE8ALALALALALALALALL q7q ?_; intro to7 hto7 htab7 ps174 h174 q l al qn lv ln av an rf8 hqn haln hlf hq hl7 hli hal hai; subst rf8; clear q7q)
  (refine Mine.el_EALALL (htab7.led F7) ?_; intro tl7 ntl7 hld7 htl7)
  have nq := Fr.new F6 hqn
  have nal := Fr.new F6 haln
  have hx7 : ∃ ex, News g s.heap.objs.size h7 ex ∧ (∀ p ∈ ex, LedOk p) ∧ ∀ (h' : Heap), h'.get? ra = some (lstO rv rn) → News g s.heap.objs.size h' ex → h'.get? l = some (lstO lv ln) := by
    rcases hlf with e | e
    · refine ⟨[], News.nil, (fun p hp => nomatch hp), fun h' e1 _ => ?_⟩
      rw [e] at hl7 ⊢
      rw [(News.hd N7).1] at hl7
      rw [← hl7]; exact e1
    · have nl := Fr.new F6 e
      exact ⟨[(l, lstO lv ln)], News.cons' News.nil hl7 nl.1 nl.2, (fun p hp => by rw [List.mem_singleton.mp hp]; exact LedOk.list), fun h' _ N' => (N' _ (.head _)).1⟩
  (refine Mine.el_EALALL (hx7) ?_; intro exa nexa hlxa hexa; try clear hx7)
  have n174 := News.hd (News.tl (News.tl (News.tl (News.tl N6))))
  (refine Mine.el_EL (show ∃ ex7, ex7 = (174, tabObj ps174) :: exa from (⟨_, rfl⟩)) ?_; intro ex7 eex7)
  have nex7 : News g s.heap.objs.size h7 ex7 := by
    rw [eex7]; exact News.cons' nexa h174 n174.2.1 n174.2.2
  have hlx7 : ∀ p ∈ ex7, LedOk p ∨ p.1 = 174 := by
    rw [eex7]
    intro p hp
    rcases List.mem_cons.mp hp with rfl | hp
    · exact .inr rfl
    · exact .inl (hlxa p hp)
  have hex7 : ∀ (h' : Heap), h'.get? ra = some (lstO rv rn) → News g s.heap.objs.size h' ex7 → h'.get? l = some (lstO lv ln) := by
    rw [eex7]; exact fun h' e1 N' => hexa h' e1 (News.tl N')
  have h174' : ∀ (h' : Heap), News g s.heap.objs.size h' ex7 → GrownAt 174 h' := by
    rw [eex7]; exact fun h' N' => ⟨_, (News.hd N').1⟩
  clear eex7 n174 hexa hlxa nexa h174
  have n162 := News.hd (News.tl (News.tl (News.tl N6)))
  have N8 : News g s.heap.objs.size h7 ((q, tupO [.ref l, .ref al] qn) :: (al, lstO av an) :: (ra, lstO rv rn) :: (181, tabObj #[]) :: (48, tabObj #[]) :: (41, tabObj #[]) :: (162, to7) :: (tl7 ++ ex7)) :=
    News.cons' (News.cons' (fun p hp => by
      rcases List.mem_cons.mp hp with rfl | hp
      · exact News.hd N7
      rcases List.mem_cons.mp hp with rfl | hp
      · exact News.hd (News.tl N7)
      rcases List.mem_cons.mp hp with rfl | hp
      · exact News.hd (News.tl (News.tl N7))
      rcases List.mem_cons.mp hp with rfl | hp
      · exact News.hd (News.tl (News.tl (News.tl N7)))
      rcases List.mem_cons.mp hp with rfl | hp
      · exact ⟨hto7, n162.2⟩
      · exact News.app ntl7 nex7 p hp) hal nal.1 nal.2) hq nq.1 nq.2
  clear N7 N6 F6 G6
  k_steps
  rename_i a1 a2 a3 t1 oa h9 l9 h10 F10 N10
  refine Hold.off ?_
  have hlrv := hri.length
  refine call_len_list ⟨_, News.get N10 (a := ra) (o := lstO rv rn) (.tail _ (.tail _ (.tail _ (.head _)))), rfl, _, rfl⟩ (by simp; exact Mine.om378 hc11 hrl hlrv) ?_
  have esz : ((rv.toArray.size : Nat) : Int) = (cells.length : Int) := by simp; exact Mine.om379 hrl hlrv
  rw [esz]
  k_steps
  rename_i tkr h11 tk11 t11 u11 v11 hrg F11 N11 hkp11
  refine Hold.off ?_
  (refine Mine.el_EL (Fr.map_of F11) ?_; intro m0 hm0)
  have F11' := F11
  rw [← hm0] at F11'
  (refine Mine.el_EL (News.list_of (News.tl N11)) ?_; intro rest hrest)
  have hlo : ∀ p ∈ rest, @LT.lt Nat _ p.1 oa := by rw [hrest]; exact allLt_lt l9
  obtain ⟨ov0, hov0, N11'⟩ : ∃ ov0, IntsAre ov0 (facts 1) ∧ News g s.heap.objs.size h11 ((oa, lstO ov0 0) :: rest) := by
    rw [hrest]
    exact ⟨_, IntsAre.cons 1 _ .nil, N11⟩
  refine my_range (n := cells.length - 1) (fun i m news => (∃ ov on, news = (oa, lstO ov on) :: rest ∧ IntsAre ov (facts (i + 1))) ∧ ∀ z, z ≠ Str.ofString "k" → m z = m0 z) rfl hrg ?sm ?rs F11' N11' ?j0 ?turn ?done
  case sm => exact small_one (by exact Mine.om296) (by exact Mine.om297) (by exact Mine.om380) (by exact Mine.om381 hc11)
  case rs => rw [rangeSize_one]; split <;> (first | exact Mine.om382 (by assumption) | exact Mine.om383 (by assumption) | omega)
  case j0 => exact ⟨⟨_, _, rfl, hov0⟩, fun _ _ => rfl⟩
  case turn =>
    (intro i m₁ news₁ I io t h' tk' hi hnt q9q hoff hlt F12 N12; refine Mine.el_AE2ALLL q9q ?_; intro ov on rf10 hov hm; subst rf10; clear q9q)
    rw [canon1 hm, hm0] at F12
    have i1 := neN (hoff (oa, _) (.head _))
    have ei : (2 : Int) + (i : Int) * 1 = ((i + 2 : Nat) : Int) := by exact Mine.om384
    rw [ei] at F12
    clear F11 F11' N11 N11'
    k_steps
    refine Hold.off ?_
    have hol : ov.length = i + 1 := by rw [hov.length]; simp [facts]
    (refine Mine.el_EL (ints_at (j := i) hov (by simp [facts])) ?_; intro tf htf)
    have hfi : (facts (i + 1)).getD i 0 = (fac (i + 1) : Int) := by
      rw [facts_snoc, List.getD_eq_getElem?_getD, List.getElem?_append_right (by simp [facts])]
      simp [facts]
    rw [hfi] at htf
    refine sub_last (News.hd (News.tl N12)).1 hol (by exact Mine.om385 hc11 hi) htf ?_
    k_steps
    refine Hold.off ?_
    refine mul_int (hm := IntMulOk.of_right (bits_nat (by exact Mine.om386 hc11 hi))) ?_
    k_steps
    refine Hold.off ?_
    refine append_K F12 N12 (Upd.tail (by show @Ne Nat I oa; exact Mine.om357 i1) (Upd.head ?huh)) ?_ (by rw [sizeLine_eq]; simp; exact Mine.om387 hc11 hi hol)
    case huh => exact fun p hp => Nat.ne_of_lt (hlo p hp)
    intro h13 F13 N13
    rw [List.push_toArray] at N13
    k_steps
    have hfs : (fac (i + 1) : Int) * ((i + 2 : Nat) : Int) = (fac (i + 1 + 1) : Int) := by
      show _ = (((i + 1 + 1) * fac (i + 1) : Nat) : Int)
      rw [Int.mul_comm]; push_cast; rfl
    refine TurnPost.next F13 N13 (fun p hp => hp) ?_ ⟨⟨_, _, rfl, ?_⟩, fun z y1 => by simp only [if_neg y1, hm0]⟩
    · intro p hp
      rcases List.mem_cons.mp hp with rfl | hp
      · exact i1
      · exact hoff p (.tail _ hp)
    · rw [facts_snoc]
      refine hov.append ?_
      rw [hfs]
      exact IntsAre.cons _ _ .nil
  case done =>
    (intro m₁ news₁ h' tk' q11q F12 N12; refine Mine.el_AE2ALLL q11q ?_; intro ov on rf12 hov hm; subst rf12; clear q11q)
    rw [canon1 hm, hm0] at F12
    rw [hrest] at N12 hlo
    have ec : cells.length - 1 + 1 = cells.length := by exact Mine.om388 hc5
    rw [ec] at hov
    have hov2 : ov.length = cells.length - 1 + 1 := by rw [hov.length]; simp [facts]; exact Mine.om389 ec
    clear F11 F11' N11 N11'
    k_steps
    refine Hold.off ?_
    have hal2 := hai.length
    rw [List.length_map] at hal2
    refine call_len_list ⟨_, (News.hd (News.tl (News.tl N12))).1, rfl, _, rfl⟩ (by simp; exact Mine.om390 htbl htrl hal2) ?_
    have eal : ((av.toArray.size : Nat) : Int) = ((inOrder 20 row []).2.2.length : Int) := by simp [hal2]
    rw [eal]
    k_steps
    refine Hold.off ?_
    (refine Mine.el_EL (ints_at (j := cells.length - 1) hov (by simp [facts]; exact Mine.om391 ec)) ?_; intro tf htf)
    have hfi : (facts cells.length).getD (cells.length - 1) 0 = (fac cells.length : Int) := by
      rw [← ec, facts_snoc, List.getD_eq_getElem?_getD, List.getElem?_append_right (by simp [facts])]
      simp [facts]
    rw [hfi] at htf
    refine sub_last (News.hd N12).1 hov2 (by exact Mine.om392 hc11) htf ?_
    k_steps
    refine Hold.off ?_
    (refine Mine.el_ALALL (fac_bits cells.length hc11 hc5) ?_; intro fb1 fb2 fb3)
    have htbl2 := tbl_le cells.length hc11
    refine Con.use (i2d_con w ((fac cells.length : Int) - 1) (tbl cells.length) _ _ fb2 fb1 (by exact Mine.om393 htbl2) fb3) (oth := (oa, lstO ov on) :: (q, tupO [.ref l, .ref al] qn) :: (al, lstO av an) :: (ra, lstO rv rn) :: (181, tabObj #[]) :: (48, tabObj #[]) :: (162, to7) :: (tl7 ++ ex7)) B F12 X T N12 rfl rfl rfl rfl (Nat.le_of_ble_eq_true rfl) (Nat.le_of_ble_eq_true rfl) ?ifp ?ioth
      ⟨_, (News.hd (News.tl (News.tl (News.tl (News.tl (News.tl (News.tl N12))))))).1, .inl rfl⟩ ?_
    case ifp =>
      intro b hb
      rw [List.mem_singleton.mp hb]
      exact ⟨_, .tail _ (.tail _ (.tail _ (.tail _ (.tail _ (.tail _ (.head _))))))⟩
    case ioth =>
      have t41 := (News.hd (News.tl (News.tl (News.tl (News.tl (News.tl (News.tl N12))))))).1
      have key : ∀ p : Addr × Obj, LedOk p → News g s.heap.objs.size h' [p] → p.1 ∉ ([41] : List Addr) := fun p hp hn => by
        simpa using LedOk.ne hp (hn p (.head _)).1 t41 (by simp)
      intro p hp
      have hsub : p ∈ (oa, lstO ov on) :: (q, tupO [.ref l, .ref al] qn) :: (al, lstO av an) :: (ra, lstO rv rn) :: (181, tabObj #[]) :: (48, tabObj #[]) :: (41, tabObj #[]) :: (162, to7) :: (tl7 ++ ex7) := by
        simp only [List.mem_cons] at hp ⊢
        rcases hp with h | h | h | h | h | h | h | h
        · exact .inl h
        · exact .inr (.inl h)
        · exact .inr (.inr (.inl h))
        · exact .inr (.inr (.inr (.inl h)))
        · exact .inr (.inr (.inr (.inr (.inl h))))
        · exact .inr (.inr (.inr (.inr (.inr (.inl h)))))
        · exact .inr (.inr (.inr (.inr (.inr (.inr (.inr (.inl h)))))))
        · exact .inr (.inr (.inr (.inr (.inr (.inr (.inr (.inr h)))))))
      refine ⟨hsub, ?_⟩
      have hn1 : News g s.heap.objs.size h' [p] := fun x hx => by rw [List.mem_singleton.mp hx]; exact N12 p hsub
      simp only [List.mem_cons] at hp
      rcases hp with rfl | rfl | rfl | rfl | rfl | rfl | rfl | hp
      · exact key _ LedOk.list hn1
      · exact key _ LedOk.tup hn1
      · exact key _ LedOk.list hn1
      · exact key _ LedOk.list hn1
      · simp
      · simp
      · simp
      · rcases List.mem_append.mp hp with hp | hp
        · exact key _ (hld7 p hp) hn1
        · exact (hlx7 p hp).elim (fun x => key _ x hn1) (fun x => by rw [x]; decide)
    (intro r h14 tk14 F14 N14 K14 q13q; refine Mine.el_AEALLE3ALALALL q13q ?_; intro to41 hto41 htab41 qb bv bn rf14 hqbn hqb hqbi; subst rf14; clear q13q)
    (refine Mine.el_EALALL (htab41.led F14) ?_; intro tl41 ntl41 hld41 htl41)
    have nqb := Fr.new F12 hqbn
    have l41 := (News.hd (News.tl (News.tl (News.tl (News.tl (News.tl (News.tl N12)))))))
    have N15 := News.cons' (News.app N14 (News.cons' ntl41 hto41 l41.2.1 l41.2.2)) hqb nqb.1 nqb.2
    simp only [List.cons_append] at N15
    clear F12 N12 N14
    k_steps
    refine Hold.off ?_
    have hbl := hqbi.length
    rw [bitsOf_len] at hbl
    refine call_len_list ⟨_, (News.hd N15).1, rfl, _, rfl⟩ (by simp; exact Mine.om394 htbl2 hbl) ?_
    have ebv : ((bv.toArray.size : Nat) : Int) = (tbl cells.length : Int) := by simp [hbl]
    rw [ebv]
    rw [hrl] at htrl
    have hcmp : ¬ ((tbl cells.length : Int) < ((inOrder 20 row []).2.2.length : Int)) := by exact Mine.om395 htrl
    k_steps
    refine Hold.off ?_
    refine kso_sorted F14 N15 ⟨_, (News.hd (News.tl (News.tl (News.tl (News.tl N15))))).1, rfl, _, rfl⟩ hri (by exact Mine.om396 hc11 hrl) ?_
    intro D vs2 so cD h16 F16 N16 l16 hso hsl hsp hsw _
    k_steps
    refine Hold.off ?_
    have htold := told_sorted hrs hc11 hok.perm hsrt.1
    have hso2 : (inOrder 20 row []).1 = so := List.Perm.eq_of_pairwise (fun a b _ _ h1 h2 => Int.le_antisymm h1 h2) htold hsw (hok.perm.trans hsp.symm)
    have tail16 := News.tl (News.tl (News.tl (News.tl (News.tl (News.tl (News.tl (News.tl (News.tl N16))))))))
    have hl16 := hex7 h16 (News.hd (News.tl (News.tl (News.tl (News.tl (News.tl N16)))))).1 (fun p hp => tail16 p (List.mem_append_left _ (List.mem_append_right _ hp)))
    refine eq_intsK (vs := lv) (us := vs2) ⟨_, hl16, rfl, _, rfl⟩ hli ⟨_, (News.hd N16).1, rfl, _, rfl⟩ hso (Nat.le_of_ble_eq_true rfl) ?_
    rw [decide_eq_true hso2]
    clear F14 N15 tail16
    k_steps
    rename_i la1 h17 F17 N17 l17
    refine Hold.off ?_
    refine add_ints_led (l := al) (b := la1) F17 N17 (News.get N17 (a := al) (o := lstO av an) (.tail _ (.tail _ (.tail _ (.tail _ (.tail _ (.head _))))))) (News.hd N17).1 hai (IntsAre.cons 1 _ .nil) (by simp; exact Mine.om397 htbl2 hcmp) ?_
    intro da h18 dv F18 N18 hdv l18
    clear F17 N17
    k_steps
    refine Hold.off ?_
    have i7 := htab7.its
    have i41 := htab41.its
    have hbits := bI_ok (inOrder 20 row []).2.2
    have hdl : ((inOrder 20 row []).2.2.map bI ++ [1]).length = (inOrder 20 row []).2.2.length + 1 := by simp
    have tail18 := News.tl (News.tl (News.tl (News.tl (News.tl (News.tl (News.tl (News.tl (News.tl (News.tl (News.tl N18))))))))))
    have g48 := (News.hd (News.tl (News.tl (News.tl (News.tl (News.tl (News.tl (News.tl (News.tl (News.tl N18)))))))))).1
    refine Con.use (dig_con w da ((inOrder 20 row []).2.2.map bI ++ [1]) _ (by exact Mine.om398 hdl) (by exact Mine.om399 htbl2 hcmp hdl) hbits) (oth := (ra, lstO rv rn) :: (181, tabObj #[]) :: (162, to7) :: ((tl7 ++ ex7) ++ (41, to41) :: tl41)) B F18 X T N18 rfl rfl rfl rfl (Nat.le_of_ble_eq_true rfl) (Nat.le_of_ble_eq_true rfl) ?dfp ?doth
      ⟨g48, dv, 0, (News.hd N18).1, hdv⟩ ?_
    case dfp =>
      intro b hb
      rw [List.mem_singleton.mp hb]
      exact ⟨_, .tail _ (.tail _ (.tail _ (.tail _ (.tail _ (.tail _ (.tail _ (.tail _ (.tail _ (.head _)))))))))⟩
    case doth =>
      have key : ∀ p : Addr × Obj, LedOk p → h18.get? p.1 = some p.2 → p.1 ∉ ([48] : List Addr) := fun p hp e => by simpa using LedOk.ne hp e g48 (by simp)
      intro p hp
      rcases List.mem_cons.mp hp with rfl | hp
      · exact ⟨.tail _ (.tail _ (.tail _ (.tail _ (.tail _ (.tail _ (.tail _ (.head _))))))), key _ LedOk.list (N18 _ (.tail _ (.tail _ (.tail _ (.tail _ (.tail _ (.tail _ (.tail _ (.head _))))))))).1⟩
      rcases List.mem_cons.mp hp with rfl | hp
      · exact ⟨.tail _ (.tail _ (.tail _ (.tail _ (.tail _ (.tail _ (.tail _ (.tail _ (.head _)))))))), by simp⟩
      rcases List.mem_cons.mp hp with rfl | hp
      · exact ⟨.tail _ (.tail _ (.tail _ (.tail _ (.tail _ (.tail _ (.tail _ (.tail _ (.tail _ (.tail _ (.head _)))))))))), by simp⟩
      refine ⟨.tail _ (.tail _ (.tail _ (.tail _ (.tail _ (.tail _ (.tail _ (.tail _ (.tail _ (.tail _ (.tail _ hp)))))))))), ?_⟩
      have e := (tail18 p hp).1
      rcases List.mem_append.mp hp with hp | hp
      · rcases List.mem_append.mp hp with hp | hp
        · exact key p (hld7 p hp) e
        · exact (hlx7 p hp).elim (fun x => key p x e) (fun x => by rw [x]; decide)
      · rcases List.mem_cons.mp hp with rfl | hp
        · simp
        · exact key p (hld41 p hp) e
    (intro r h19 tk19 F19 N19' K19 q15q; refine Mine.el_AELEL q15q ?_; intro ux rf16 ps48 h48; subst rf16; clear q15q)
    have n48 := News.hd (News.tl (News.tl (News.tl (News.tl (News.tl (News.tl (News.tl (News.tl (News.tl N18)))))))))
    have N19 := News.cons' N19' h48 n48.2.1 n48.2.2
    clear F18 N18 tail18 N19' n48 h48
    k_steps
    refine Hold.off ?_
    have tail19 := News.tl (News.tl (News.tl (News.tl N19)))
    (refine Mine.el_EALL (i7) ?_; intro its7 ei7 hn7; try clear i7)
    (refine Mine.el_EALL (i41) ?_; intro its41 ei41 hn41; try clear i41)
    have g181 := (News.hd (News.tl (News.tl N19))).1
    have g162 := (News.hd (News.tl (News.tl (News.tl N19)))).1
    have g41 := (tail19 (41, to41) (List.mem_append_right _ (.head _))).1
    rw [ei7] at g162
    rw [ei41] at g41
    have hnb := toNum_bound _ hbits
    rw [hdl] at hnb
    have hbo := toNum_bits _ hbits
    rw [hdl] at hbo
    refine Con.use (read_con w (toNum ((inOrder 20 row []).2.2.map bI ++ [1])) ((inOrder 20 row []).2.2.length + 1) ux ra row (fun _ => True) 20 hnb.1 (toNum_intBits _) (by exact Mine.om400 htbl2 hcmp) hnb.2 hin (by exact Mine.om372 hc11 hrl) (by exact Mine.om375) (by exact Mine.om376) hbo)
      (oth := (48, tabObj ps48) :: (ra, lstO rv rn) :: ex7) B F19 X T N19 rfl rfl rfl rfl (Nat.le_of_ble_eq_true rfl) (Nat.le_of_ble_eq_true rfl) ?rfp ?roth
      ⟨g181, ⟨to41, (tail19 (41, to41) (List.mem_append_right _ (.head _))).1, htl41 _ _ F19 (fun p hp => tail19 p (List.mem_append_right _ (.tail _ hp)))⟩,
        ⟨to7, (News.hd (News.tl (News.tl (News.tl N19)))).1, htl7 _ _ F19 (fun p hp => tail19 p (List.mem_append_left _ (List.mem_append_left _ hp)))⟩, rv, rn, (News.hd (News.tl N19)).1, hri⟩ ?_
    case rfp =>
      intro b hb
      simp only [List.mem_cons, List.not_mem_nil, or_false] at hb
      rcases hb with rfl | rfl | rfl
      · exact ⟨_, .tail _ (.tail _ (.head _))⟩
      · exact ⟨_, .tail _ (.tail _ (.tail _ (.tail _ (List.mem_append_right _ (.head _)))))⟩
      · exact ⟨_, .tail _ (.tail _ (.tail _ (.head _)))⟩
    case roth =>
      have key : ∀ p : Addr × Obj, LedOk p → h19.get? p.1 = some p.2 → p.1 ∉ ([181, 41, 162] : List Addr) := fun p hp e => by
        simp only [List.mem_cons, List.not_mem_nil, or_false, not_or]
        exact ⟨LedOk.ne hp e g181 (by simp), LedOk.ne hp e g41 hn41, LedOk.ne hp e g162 hn7⟩
      intro p hp
      rcases List.mem_cons.mp hp with rfl | hp
      · exact ⟨.head _, show (48 : Nat) ∉ ([181, 41, 162] : List Nat) by decide⟩
      rcases List.mem_cons.mp hp with rfl | hp
      · exact ⟨.tail _ (.head _), key _ LedOk.list (News.hd (News.tl N19)).1⟩
      · exact ⟨.tail _ (.tail _ (.tail _ (.tail _ (List.mem_append_left _ (List.mem_append_right _ hp))))), (hlx7 p hp).elim (fun x => key p x (tail19 p (List.mem_append_left _ (List.mem_append_right _ hp))).1) (fun x => by rw [x]; exact show (174 : Nat) ∉ ([181, 41, 162] : List Nat) by decide)⟩
    (intro r h20 tk20 F20 N20 K20 q17q; refine Mine.el_AE3ALALLALALL q17q ?_; intro l20 lv20 ln20 rf18 hl20 hli20 G181 G41 G162; subst rf18; clear q17q)
    have hl20' := hex7 h20 (News.hd (News.tl N20)).1 (News.tl (News.tl N20))
    clear F19 N19 tail19
    k_steps
    refine Hold.off ?_
    generalize (inOrder 20 row []).1 = told at hli hli20
    refine eq_intsK (vs := lv20) (us := lv) ⟨_, hl20, rfl, _, rfl⟩ hli20 ⟨_, hl20', rfl, _, rfl⟩ hli (Nat.le_of_ble_eq_true rfl) ?_
    rw [decide_eq_true (rfl : told = told)]
    have G174 := h174' h20 (News.tl (News.tl N20))
    have G48 : GrownAt 48 h20 := ⟨_, (News.hd N20).1⟩
    subst hgg
    refine ⟨goodW_bool F20 hg (raisesW_false ?nr) ?po, G181, G162, G174, G48, G41, trivial⟩
    case nr => wrow_none_raised
    case po => wrow_post
end
end Mine

theorem PySem.Challenge.cw_sn0068_01_holds : PySem.Challenge.rw_sn0068_01.Holds := by
  exact Mine.lawT
