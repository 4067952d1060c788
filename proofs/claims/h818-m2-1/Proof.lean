import JvmDerived
import JvmDerived.Pilot.@@N@@Statement
import JvmDerived.Pilot.@@N@@Code
set_option linter.unusedVariables false
set_option linter.unusedSimpArgs false
namespace Jvm.RoadKit
open Sem ClassFile Op Lib Jvm.Stand Jvm.Free Jvm.LawKit
section Own
variable {p : Program} {l : Launch} {e : Env} {R : Room} {s : State} {m : MethodId} {args : Array Value} {below : List Frame} {meth : Method} {c : Code} {T : State} {locs : List Loc} {cells slots : Nat}
theorem retI (X : Stand p l e R s m args below meth c T locs cells slots) (hx : p.tables.exec = Jvm.exec) {pc : Nat} {Ls : Array Slot} {z : Int32} {rest : List Value} (hret : meth.sig.returnType = some .int) (hd : decode c.code pc = .ok (.ireturn, 1)) {fs : List Frame}
    (hl : ∀ (f : JFrame) (acts : List Action), f.method = m → f.locked = none → f.entered = [] → (doReturn e (T.setTop f) acts (some (.int z))).1 = T.setFrames fs) : Steps p.tables e below (T.setTop (mkF m pc Ls (.int z :: rest))) (T.setFrames fs) := by
  have hm' : T.vm.method? m = some meth := X.method'
  have hn : narrow .int (.int z) = .int z := rfl
  show Steps p.tables e below (T.setTop { method := m, pc := pc, locals := Ls, stack := _ :: rest, locked := none }) _
  jvm_step X.here [X.here.top, hx, hd, hm', hret, hn]
  first | (intro acts; rw [hl _ acts rfl rfl rfl]) | rw [hl _ _ rfl rfl rfl]
  exact Steps.refl _
/-- the run from st comes to an end of which P holds -/
def own_G (tb : Tables) (e : Env) (below : List Frame) (P : Outcome → State → Prop) (st : State) : Prop :=
  ∃ s₂ o, Steps tb e below st s₂ ∧ s₂.status = .running ∧ Ended s₂ below o ∧ P o s₂
theorem own_st {tb : Tables} {P : Outcome → State → Prop} {st st' : State} (h : ∀ t, Steps tb e below st' t → Steps tb e below st t) (k : own_G tb e below P st') : own_G tb e below P st := by
  obtain ⟨s2, o, h1, h2⟩ := k
  exact ⟨s2, o, h _ h1, h2⟩
def own_P (s : State) (Q : Option Value → Heap → List Loc → Prop) (k n : Nat) (o : Outcome) (U' : State) : Prop :=
  ∃ v L, o = .returned v ∧ Q v U'.heap L ∧ FrameEnd s o U' L k n
theorem own_end {Q : Option Value → Heap → List Loc → Prop} {k n : Nat} {st : State} {v : Option Value} (X : Stand p l e R s m args below meth c T locs cells slots) (hlk : meth.locks = false) (hv : meth.sig.returnType = none → v = none)
    (hst : ∀ fs, (∀ (f : JFrame) (acts : List Action), f.method = m → f.locked = none → f.entered = [] → (doReturn e (T.setTop f) acts v).1 = T.setFrames fs) → Steps p.tables e below st (T.setFrames fs))
    (hQ : Q v T.heap locs) (hk : cells ≤ k) (hn : slots ≤ n) : own_G p.tables e below (own_P s Q k n) st := by
  obtain ⟨fs, hr, hrun, hended, hW, hsame⟩ := X.leave hv hlk
  exact ⟨_, _, hst fs hr, hrun, hended, _, _, rfl, hQ, ⟨_, rfl⟩, hW, hsame.mono hk hn⟩
theorem own_retZ {Q : Option Value → Heap → List Loc → Prop} {k n : Nat} (X : Stand p l e R s m args below meth c T locs cells slots) (hx : p.tables.exec = Jvm.exec) (hlk : meth.locks = false) (hret : meth.sig.returnType = some .boolean) {pc : Nat} {Ls : Array Slot} {z : Int32} {rest : List Value}
    (hd : decode c.code pc = .ok (.ireturn, 1)) (hz : nar .boolean z = z) (hQ : Q (some (.int z)) T.heap locs) (hk : cells ≤ k) (hn : slots ≤ n) : own_G p.tables e below (own_P s Q k n) (T.setTop (mkF m pc Ls (.int z :: rest))) :=
  own_end X hlk (fun h => by rw [hret] at h; cases h) (fun fs hr => retN X hx (t := .boolean) hret (by simp) hd (by rw [hz]; exact hr)) hQ hk hn
theorem own_retI {Q : Option Value → Heap → List Loc → Prop} {k n : Nat} (X : Stand p l e R s m args below meth c T locs cells slots) (hx : p.tables.exec = Jvm.exec) (hlk : meth.locks = false) (hret : meth.sig.returnType = some .int) {pc : Nat} {Ls : Array Slot} {z : Int32} {rest : List Value}
    (hd : decode c.code pc = .ok (.ireturn, 1)) (hQ : Q (some (.int z)) T.heap locs) (hk : cells ≤ k) (hn : slots ≤ n) : own_G p.tables e below (own_P s Q k n) (T.setTop (mkF m pc Ls (.int z :: rest))) :=
  own_end X hlk (fun h => by rw [hret] at h; cases h) (fun fs hr => retI X hx hret hd hr) hQ hk hn
theorem own_retJ {Q : Option Value → Heap → List Loc → Prop} {k n : Nat} (X : Stand p l e R s m args below meth c T locs cells slots) (hx : p.tables.exec = Jvm.exec) (hlk : meth.locks = false) (hret : meth.sig.returnType = some .long) {pc : Nat} {Ls : Array Slot} {z : Int64} {rest : List Value}
    (hd : decode c.code pc = .ok (.lreturn, 1)) (hQ : Q (some (.long z)) T.heap locs) (hk : cells ≤ k) (hn : slots ≤ n) : own_G p.tables e below (own_P s Q k n) (T.setTop (mkF m pc Ls (.long z :: rest))) :=
  own_end X hlk (fun h => by rw [hret] at h; cases h) (fun fs hr => retOut X hx hret rfl (Or.inr (Or.inl ⟨rfl, rfl, _, rfl⟩)) hd hr) hQ hk hn
theorem own_retR {Q : Option Value → Heap → List Loc → Prop} {k n : Nat} {t : FieldType} (X : Stand p l e R s m args below meth c T locs cells slots) (hx : p.tables.exec = Jvm.exec) (hlk : meth.locks = false) (hret : meth.sig.returnType = some t) (ht : t.isReference = true) {pc : Nat} {Ls : Array Slot} {w : Value} {rest : List Value} (hw : w.isRef = true) (hnw : narrow t w = w)
    (hd : decode c.code pc = .ok (.areturn, 1)) (hQ : Q (some w) T.heap locs) (hk : cells ≤ k) (hn : slots ≤ n) : own_G p.tables e below (own_P s Q k n) (T.setTop (mkF m pc Ls (w :: rest))) :=
  own_end X hlk (fun h => by rw [hret] at h; cases h) (fun fs hr => retOut X hx hret hnw (Or.inr (Or.inr (Or.inr (Or.inr ⟨rfl, ht, hw⟩)))) hd hr) hQ hk hn
theorem own_retV {Q : Option Value → Heap → List Loc → Prop} {k n : Nat} (X : Stand p l e R s m args below meth c T locs cells slots) (hx : p.tables.exec = Jvm.exec) (hlk : meth.locks = false) (hret : meth.sig.returnType = none) {pc : Nat} {Ls : Array Slot}
    (hd : decode c.code pc = .ok (.return_, 1)) (hQ : Q none T.heap locs) (hk : cells ≤ k) (hn : slots ≤ n) : own_G p.tables e below (own_P s Q k n) (T.setTop (mkF m pc Ls [])) :=
  own_end X hlk (fun _ => rfl) (fun fs hr => X.returnOut hx hret hd hr) hQ hk hn
theorem own_mono {cells' slots' : Nat} (X : Stand p l e R s m args below meth c T locs cells slots) (h1 : cells ≤ cells') (h2 : slots ≤ slots') : Stand p l e R s m args below meth c T locs cells' slots' :=
  ⟨X.admits, X.cas, X.clock, X.frames, X.room, X.hears, X.method, X.code, X.here, X.tail, X.warmed, X.limits, X.bytes, X.same.mono h1 h2⟩
theorem own_fld {Z : State} {h : Heap} {a : Addr} {C n d : String} {v w : Value} (F : Fld Z h a C n d v) (q : v = w) : Fld Z h a C n d w := q ▸ F
end Own
/-- a boolean as the machine holds it -/
def own_b (P : Prop) [Decidable P] : Int32 := if P then 1 else 0
theorem own_bt {P : Prop} [Decidable P] (h : P) : own_b P = 1 := if_pos h
theorem own_bf {P : Prop} [Decidable P] (h : ¬ P) : own_b P = 0 := if_neg h
theorem own_b1 {P : Prop} [Decidable P] {z : Int32} (hz : z = own_b P) (h : P) : ¬ z = 0 := by rw [hz, own_bt h]; decide
theorem own_b0 {P : Prop} [Decidable P] {z : Int32} (hz : z = own_b P) (h : ¬ P) : z = 0 := by rw [hz, own_bf h]
theorem own_nar {P : Prop} [Decidable P] {z : Int32} (hz : z = own_b P) : nar .boolean z = z := by
  rw [hz]; by_cases h : P
  · rw [own_bt h]; decide
  · rw [own_bf h]; decide
theorem own_fitZ {P : Prop} [Decidable P] {z : Int32} (hz : z = own_b P) : fits .boolean (.int z) = true := by
  rw [hz]; by_cases h : P
  · rw [own_bt h]; decide
  · rw [own_bf h]; decide
theorem own_bc {P Q : Prop} [Decidable P] [Decidable Q] (h : P ↔ Q) : own_b P = own_b Q := by
  by_cases q : Q
  · rw [own_bt q, own_bt (h.mpr q)]
  · rw [own_bf q, own_bf (fun r => q (h.mp r))]
theorem own_bi {P Q : Prop} [Decidable P] [Decidable Q] (h : own_b P = own_b Q) : P ↔ Q := by
  by_cases p : P <;> by_cases q : Q <;> simp_all [own_b]
end Jvm.RoadKit
namespace Jvm.Pilot.@@N@@
open Jvm Jvm.ClassFile Sem Op Lib Jvm.Free Jvm.Stand Jvm.LawKit Jvm.RoadKit Bundle Jvm.Pilot.@@N@@.Jvm.D
theorem pn_0 : plainName "com/example/funnel/funnel/admission/RecentTimesPercentile95PinLaw" = true := by first | (simp [plainName, overriddenIn]; done) | decide +kernel
theorem d1_0 : decode prog_1_method_1_code 0 = .ok (.aload_n 0, 1) := by decide +kernel
theorem d1_1 : decode prog_1_method_1_code 1 = .ok (.invokespecial 1, 3) := by decide +kernel
theorem d1_4 : decode prog_1_method_1_code 4 = .ok (.iload_n 1, 1) := by decide +kernel
theorem d1_5 : decode prog_1_method_1_code 5 = .ok (.iconst 1, 1) := by decide +kernel
theorem d1_6 : decode prog_1_method_1_code 6 = .ok (.if_icmp .ge 17, 3) := by decide +kernel
theorem d1_23 : decode prog_1_method_1_code 23 = .ok (.aload_n 0, 1) := by decide +kernel
theorem d1_24 : decode prog_1_method_1_code 24 = .ok (.iload_n 1, 1) := by decide +kernel
theorem d1_25 : decode prog_1_method_1_code 25 = .ok (.newarray .long, 2) := by decide +kernel
theorem d1_27 : decode prog_1_method_1_code 27 = .ok (.putfield 16, 3) := by decide +kernel
theorem d1_30 : decode prog_1_method_1_code 30 = .ok (.aload_n 0, 1) := by decide +kernel
theorem d1_31 : decode prog_1_method_1_code 31 = .ok (.iload_n 1, 1) := by decide +kernel
theorem d1_32 : decode prog_1_method_1_code 32 = .ok (.newarray .long, 2) := by decide +kernel
theorem d1_34 : decode prog_1_method_1_code 34 = .ok (.putfield 22, 3) := by decide +kernel
theorem d1_37 : decode prog_1_method_1_code 37 = .ok (.return_, 1) := by decide +kernel
theorem pn_1 : plainName "com/example/funnel/funnel/admission/RecentTimes" = true := by first | (simp [plainName, overriddenIn]; done) | decide +kernel
theorem d3_0 : decode prog_1_method_4_code 0 = .ok (.bipush 95, 2) := by decide +kernel
theorem d3_2 : decode prog_1_method_4_code 2 = .ok (.aload_n 0, 1) := by decide +kernel
theorem d3_3 : decode prog_1_method_4_code 3 = .ok (.getfield 25, 3) := by decide +kernel
theorem d3_6 : decode prog_1_method_4_code 6 = .ok (.imul, 1) := by decide +kernel
theorem d3_7 : decode prog_1_method_4_code 7 = .ok (.bipush 99, 2) := by decide +kernel
theorem d3_9 : decode prog_1_method_4_code 9 = .ok (.iadd, 1) := by decide +kernel
theorem d3_10 : decode prog_1_method_4_code 10 = .ok (.bipush 100, 2) := by decide +kernel
theorem d3_12 : decode prog_1_method_4_code 12 = .ok (.idiv, 1) := by decide +kernel
theorem d3_13 : decode prog_1_method_4_code 13 = .ok (.istore_n 1, 1) := by decide +kernel
theorem d3_14 : decode prog_1_method_4_code 14 = .ok (.aload_n 0, 1) := by decide +kernel
theorem d3_15 : decode prog_1_method_4_code 15 = .ok (.getfield 25, 3) := by decide +kernel
theorem d3_18 : decode prog_1_method_4_code 18 = .ok (.ifCond .le 14, 3) := by decide +kernel
theorem d3_21 : decode prog_1_method_4_code 21 = .ok (.aload_n 0, 1) := by decide +kernel
theorem d3_22 : decode prog_1_method_4_code 22 = .ok (.getfield 22, 3) := by decide +kernel
theorem d3_25 : decode prog_1_method_4_code 25 = .ok (.iload_n 1, 1) := by decide +kernel
theorem d3_26 : decode prog_1_method_4_code 26 = .ok (.iconst 1, 1) := by decide +kernel
theorem d3_27 : decode prog_1_method_4_code 27 = .ok (.isub, 1) := by decide +kernel
theorem d3_28 : decode prog_1_method_4_code 28 = .ok (.laload, 1) := by decide +kernel
theorem d3_29 : decode prog_1_method_4_code 29 = .ok (.goto 4, 3) := by decide +kernel
theorem d3_32 : decode prog_1_method_4_code 32 = .ok (.lconst 0, 1) := by decide +kernel
theorem d3_33 : decode prog_1_method_4_code 33 = .ok (.lreturn, 1) := by decide +kernel
theorem pn_3 : plainName "com/example/funnel/funnel/admission/RecentTimes" = true := by first | (simp [plainName, overriddenIn]; done) | decide +kernel
theorem d4_0 : decode method_3_code 0 = .ok (.iload_n 1, 1) := by decide +kernel
theorem d4_1 : decode method_3_code 1 = .ok (.ifCond .ne 5, 3) := by decide +kernel
theorem d4_4 : decode method_3_code 4 = .ok (.lconst 0, 1) := by decide +kernel
theorem d4_5 : decode method_3_code 5 = .ok (.lreturn, 1) := by decide +kernel
theorem d4_6 : decode method_3_code 6 = .ok (.iload_n 1, 1) := by decide +kernel
theorem d4_7 : decode method_3_code 7 = .ok (.iload_n 0, 1) := by decide +kernel
theorem d4_8 : decode method_3_code 8 = .ok (.invokestatic 26, 3) := by decide +kernel
theorem d4_11 : decode method_3_code 11 = .ok (.istore 12, 2) := by decide +kernel
theorem d4_13 : decode method_3_code 13 = .ok (.iload_n 1, 1) := by decide +kernel
theorem d4_14 : decode method_3_code 14 = .ok (.iload 12, 2) := by decide +kernel
theorem d4_16 : decode method_3_code 16 = .ok (.isub, 1) := by decide +kernel
theorem d4_17 : decode method_3_code 17 = .ok (.istore 13, 2) := by decide +kernel
theorem d4_19 : decode method_3_code 19 = .ok (.ldc2_w 34, 3) := by decide +kernel
theorem d4_22 : decode method_3_code 22 = .ok (.lstore 14, 2) := by decide +kernel
theorem d4_24 : decode method_3_code 24 = .ok (.iload 13, 2) := by decide +kernel
theorem d4_26 : decode method_3_code 26 = .ok (.ifCond .gt 16, 3) := by decide +kernel
theorem d4_29 : decode method_3_code 29 = .ok (.iconst 0, 1) := by decide +kernel
theorem d4_30 : decode method_3_code 30 = .ok (.iload_n 1, 1) := by decide +kernel
theorem d4_31 : decode method_3_code 31 = .ok (.if_icmp .ge 11, 3) := by decide +kernel
theorem d4_34 : decode method_3_code 34 = .ok (.lload 14, 2) := by decide +kernel
theorem d4_36 : decode method_3_code 36 = .ok (.lload_n 2, 1) := by decide +kernel
theorem d4_37 : decode method_3_code 37 = .ok (.invokestatic 36, 3) := by decide +kernel
theorem d4_40 : decode method_3_code 40 = .ok (.lstore 14, 2) := by decide +kernel
theorem d4_42 : decode method_3_code 42 = .ok (.iload 13, 2) := by decide +kernel
theorem d4_44 : decode method_3_code 44 = .ok (.iconst 1, 1) := by decide +kernel
theorem d4_45 : decode method_3_code 45 = .ok (.if_icmp .gt 17, 3) := by decide +kernel
theorem d4_48 : decode method_3_code 48 = .ok (.iconst 1, 1) := by decide +kernel
theorem d4_49 : decode method_3_code 49 = .ok (.iload_n 1, 1) := by decide +kernel
theorem d4_50 : decode method_3_code 50 = .ok (.if_icmp .ge 12, 3) := by decide +kernel
theorem d4_53 : decode method_3_code 53 = .ok (.lload 14, 2) := by decide +kernel
theorem d4_55 : decode method_3_code 55 = .ok (.lload 4, 2) := by decide +kernel
theorem d4_57 : decode method_3_code 57 = .ok (.invokestatic 36, 3) := by decide +kernel
theorem d4_60 : decode method_3_code 60 = .ok (.lstore 14, 2) := by decide +kernel
theorem d4_62 : decode method_3_code 62 = .ok (.iload 13, 2) := by decide +kernel
theorem d4_64 : decode method_3_code 64 = .ok (.iconst 2, 1) := by decide +kernel
theorem d4_65 : decode method_3_code 65 = .ok (.if_icmp .gt 17, 3) := by decide +kernel
theorem d4_68 : decode method_3_code 68 = .ok (.iconst 2, 1) := by decide +kernel
theorem d4_69 : decode method_3_code 69 = .ok (.iload_n 1, 1) := by decide +kernel
theorem d4_70 : decode method_3_code 70 = .ok (.if_icmp .ge 12, 3) := by decide +kernel
theorem d4_73 : decode method_3_code 73 = .ok (.lload 14, 2) := by decide +kernel
theorem d4_75 : decode method_3_code 75 = .ok (.lload 6, 2) := by decide +kernel
theorem d4_77 : decode method_3_code 77 = .ok (.invokestatic 36, 3) := by decide +kernel
theorem d4_80 : decode method_3_code 80 = .ok (.lstore 14, 2) := by decide +kernel
theorem d4_82 : decode method_3_code 82 = .ok (.iload 13, 2) := by decide +kernel
theorem d4_84 : decode method_3_code 84 = .ok (.iconst 3, 1) := by decide +kernel
theorem d4_85 : decode method_3_code 85 = .ok (.if_icmp .gt 17, 3) := by decide +kernel
theorem d4_88 : decode method_3_code 88 = .ok (.iconst 3, 1) := by decide +kernel
theorem d4_89 : decode method_3_code 89 = .ok (.iload_n 1, 1) := by decide +kernel
theorem d4_90 : decode method_3_code 90 = .ok (.if_icmp .ge 12, 3) := by decide +kernel
theorem d4_93 : decode method_3_code 93 = .ok (.lload 14, 2) := by decide +kernel
theorem d4_95 : decode method_3_code 95 = .ok (.lload 8, 2) := by decide +kernel
theorem d4_97 : decode method_3_code 97 = .ok (.invokestatic 36, 3) := by decide +kernel
theorem d4_100 : decode method_3_code 100 = .ok (.lstore 14, 2) := by decide +kernel
theorem d4_102 : decode method_3_code 102 = .ok (.iload 13, 2) := by decide +kernel
theorem d4_104 : decode method_3_code 104 = .ok (.iconst 4, 1) := by decide +kernel
theorem d4_105 : decode method_3_code 105 = .ok (.if_icmp .gt 17, 3) := by decide +kernel
theorem d4_108 : decode method_3_code 108 = .ok (.iconst 4, 1) := by decide +kernel
theorem d4_109 : decode method_3_code 109 = .ok (.iload_n 1, 1) := by decide +kernel
theorem d4_110 : decode method_3_code 110 = .ok (.if_icmp .ge 12, 3) := by decide +kernel
theorem d4_113 : decode method_3_code 113 = .ok (.lload 14, 2) := by decide +kernel
theorem d4_115 : decode method_3_code 115 = .ok (.lload 10, 2) := by decide +kernel
theorem d4_117 : decode method_3_code 117 = .ok (.invokestatic 36, 3) := by decide +kernel
theorem d4_120 : decode method_3_code 120 = .ok (.lstore 14, 2) := by decide +kernel
theorem d4_122 : decode method_3_code 122 = .ok (.lload 14, 2) := by decide +kernel
theorem d4_124 : decode method_3_code 124 = .ok (.lreturn, 1) := by decide +kernel
theorem pn_4 : plainName "com/example/funnel/funnel/admission/RecentTimesPercentile95PinLaw" = true := by first | (simp [plainName, overriddenIn]; done) | decide +kernel
theorem d5_0 : decode prog_1_method_2_code 0 = .ok (.aload_n 0, 1) := by decide +kernel
theorem d5_1 : decode prog_1_method_2_code 1 = .ok (.getfield 25, 3) := by decide +kernel
theorem d5_4 : decode prog_1_method_2_code 4 = .ok (.aload_n 0, 1) := by decide +kernel
theorem d5_5 : decode prog_1_method_2_code 5 = .ok (.getfield 16, 3) := by decide +kernel
theorem d5_8 : decode prog_1_method_2_code 8 = .ok (.arraylength, 1) := by decide +kernel
theorem d5_9 : decode prog_1_method_2_code 9 = .ok (.if_icmp .ne 58, 3) := by decide +kernel
theorem d5_12 : decode prog_1_method_2_code 12 = .ok (.aload_n 0, 1) := by decide +kernel
theorem d5_13 : decode prog_1_method_2_code 13 = .ok (.getfield 22, 3) := by decide +kernel
theorem d5_16 : decode prog_1_method_2_code 16 = .ok (.iconst 0, 1) := by decide +kernel
theorem d5_17 : decode prog_1_method_2_code 17 = .ok (.aload_n 0, 1) := by decide +kernel
theorem d5_18 : decode prog_1_method_2_code 18 = .ok (.getfield 25, 3) := by decide +kernel
theorem d5_21 : decode prog_1_method_2_code 21 = .ok (.aload_n 0, 1) := by decide +kernel
theorem d5_22 : decode prog_1_method_2_code 22 = .ok (.getfield 16, 3) := by decide +kernel
theorem d5_25 : decode prog_1_method_2_code 25 = .ok (.aload_n 0, 1) := by decide +kernel
theorem d5_26 : decode prog_1_method_2_code 26 = .ok (.getfield 29, 3) := by decide +kernel
theorem d5_29 : decode prog_1_method_2_code 29 = .ok (.laload, 1) := by decide +kernel
theorem d5_30 : decode prog_1_method_2_code 30 = .ok (.invokestatic 32, 3) := by decide +kernel
theorem d5_33 : decode prog_1_method_2_code 33 = .ok (.istore_n 3, 1) := by decide +kernel
theorem d5_34 : decode prog_1_method_2_code 34 = .ok (.aload_n 0, 1) := by decide +kernel
theorem d5_35 : decode prog_1_method_2_code 35 = .ok (.getfield 22, 3) := by decide +kernel
theorem d5_38 : decode prog_1_method_2_code 38 = .ok (.iload_n 3, 1) := by decide +kernel
theorem d5_39 : decode prog_1_method_2_code 39 = .ok (.iconst 1, 1) := by decide +kernel
theorem d5_40 : decode prog_1_method_2_code 40 = .ok (.iadd, 1) := by decide +kernel
theorem d5_41 : decode prog_1_method_2_code 41 = .ok (.aload_n 0, 1) := by decide +kernel
theorem d5_42 : decode prog_1_method_2_code 42 = .ok (.getfield 22, 3) := by decide +kernel
theorem d5_45 : decode prog_1_method_2_code 45 = .ok (.iload_n 3, 1) := by decide +kernel
theorem d5_46 : decode prog_1_method_2_code 46 = .ok (.aload_n 0, 1) := by decide +kernel
theorem d5_47 : decode prog_1_method_2_code 47 = .ok (.getfield 25, 3) := by decide +kernel
theorem d5_50 : decode prog_1_method_2_code 50 = .ok (.iload_n 3, 1) := by decide +kernel
theorem d5_51 : decode prog_1_method_2_code 51 = .ok (.isub, 1) := by decide +kernel
theorem d5_52 : decode prog_1_method_2_code 52 = .ok (.iconst 1, 1) := by decide +kernel
theorem d5_53 : decode prog_1_method_2_code 53 = .ok (.isub, 1) := by decide +kernel
theorem d5_54 : decode prog_1_method_2_code 54 = .ok (.invokestatic 38, 3) := by decide +kernel
theorem d5_57 : decode prog_1_method_2_code 57 = .ok (.aload_n 0, 1) := by decide +kernel
theorem d5_58 : decode prog_1_method_2_code 58 = .ok (.dup, 1) := by decide +kernel
theorem d5_59 : decode prog_1_method_2_code 59 = .ok (.getfield 25, 3) := by decide +kernel
theorem d5_62 : decode prog_1_method_2_code 62 = .ok (.iconst 1, 1) := by decide +kernel
theorem d5_63 : decode prog_1_method_2_code 63 = .ok (.isub, 1) := by decide +kernel
theorem d5_64 : decode prog_1_method_2_code 64 = .ok (.putfield 25, 3) := by decide +kernel
theorem d5_67 : decode prog_1_method_2_code 67 = .ok (.aload_n 0, 1) := by decide +kernel
theorem d5_68 : decode prog_1_method_2_code 68 = .ok (.getfield 16, 3) := by decide +kernel
theorem d5_71 : decode prog_1_method_2_code 71 = .ok (.aload_n 0, 1) := by decide +kernel
theorem d5_72 : decode prog_1_method_2_code 72 = .ok (.getfield 29, 3) := by decide +kernel
theorem d5_75 : decode prog_1_method_2_code 75 = .ok (.lload_n 1, 1) := by decide +kernel
theorem d5_76 : decode prog_1_method_2_code 76 = .ok (.lastore, 1) := by decide +kernel
theorem d5_77 : decode prog_1_method_2_code 77 = .ok (.aload_n 0, 1) := by decide +kernel
theorem d5_78 : decode prog_1_method_2_code 78 = .ok (.aload_n 0, 1) := by decide +kernel
theorem d5_79 : decode prog_1_method_2_code 79 = .ok (.getfield 29, 3) := by decide +kernel
theorem d5_82 : decode prog_1_method_2_code 82 = .ok (.iconst 1, 1) := by decide +kernel
theorem d5_83 : decode prog_1_method_2_code 83 = .ok (.iadd, 1) := by decide +kernel
theorem d5_84 : decode prog_1_method_2_code 84 = .ok (.aload_n 0, 1) := by decide +kernel
theorem d5_85 : decode prog_1_method_2_code 85 = .ok (.getfield 16, 3) := by decide +kernel
theorem d5_88 : decode prog_1_method_2_code 88 = .ok (.arraylength, 1) := by decide +kernel
theorem d5_89 : decode prog_1_method_2_code 89 = .ok (.irem, 1) := by decide +kernel
theorem d5_90 : decode prog_1_method_2_code 90 = .ok (.putfield 29, 3) := by decide +kernel
theorem d5_93 : decode prog_1_method_2_code 93 = .ok (.aload_n 0, 1) := by decide +kernel
theorem d5_94 : decode prog_1_method_2_code 94 = .ok (.getfield 22, 3) := by decide +kernel
theorem d5_97 : decode prog_1_method_2_code 97 = .ok (.iconst 0, 1) := by decide +kernel
theorem d5_98 : decode prog_1_method_2_code 98 = .ok (.aload_n 0, 1) := by decide +kernel
theorem d5_99 : decode prog_1_method_2_code 99 = .ok (.getfield 25, 3) := by decide +kernel
theorem d5_102 : decode prog_1_method_2_code 102 = .ok (.lload_n 1, 1) := by decide +kernel
theorem d5_103 : decode prog_1_method_2_code 103 = .ok (.invokestatic 32, 3) := by decide +kernel
theorem d5_106 : decode prog_1_method_2_code 106 = .ok (.istore_n 3, 1) := by decide +kernel
theorem d5_107 : decode prog_1_method_2_code 107 = .ok (.iload_n 3, 1) := by decide +kernel
theorem d5_108 : decode prog_1_method_2_code 108 = .ok (.ifCond .lt 7, 3) := by decide +kernel
theorem d5_111 : decode prog_1_method_2_code 111 = .ok (.iload_n 3, 1) := by decide +kernel
theorem d5_112 : decode prog_1_method_2_code 112 = .ok (.goto 7, 3) := by decide +kernel
theorem d5_115 : decode prog_1_method_2_code 115 = .ok (.iload_n 3, 1) := by decide +kernel
theorem d5_116 : decode prog_1_method_2_code 116 = .ok (.ineg, 1) := by decide +kernel
theorem d5_117 : decode prog_1_method_2_code 117 = .ok (.iconst 1, 1) := by decide +kernel
theorem d5_118 : decode prog_1_method_2_code 118 = .ok (.isub, 1) := by decide +kernel
theorem d5_119 : decode prog_1_method_2_code 119 = .ok (.istore 4, 2) := by decide +kernel
theorem d5_121 : decode prog_1_method_2_code 121 = .ok (.aload_n 0, 1) := by decide +kernel
theorem d5_122 : decode prog_1_method_2_code 122 = .ok (.getfield 22, 3) := by decide +kernel
theorem d5_125 : decode prog_1_method_2_code 125 = .ok (.iload 4, 2) := by decide +kernel
theorem d5_127 : decode prog_1_method_2_code 127 = .ok (.aload_n 0, 1) := by decide +kernel
theorem d5_128 : decode prog_1_method_2_code 128 = .ok (.getfield 22, 3) := by decide +kernel
theorem d5_131 : decode prog_1_method_2_code 131 = .ok (.iload 4, 2) := by decide +kernel
theorem d5_133 : decode prog_1_method_2_code 133 = .ok (.iconst 1, 1) := by decide +kernel
theorem d5_134 : decode prog_1_method_2_code 134 = .ok (.iadd, 1) := by decide +kernel
theorem d5_135 : decode prog_1_method_2_code 135 = .ok (.aload_n 0, 1) := by decide +kernel
theorem d5_136 : decode prog_1_method_2_code 136 = .ok (.getfield 25, 3) := by decide +kernel
theorem d5_139 : decode prog_1_method_2_code 139 = .ok (.iload 4, 2) := by decide +kernel
theorem d5_141 : decode prog_1_method_2_code 141 = .ok (.isub, 1) := by decide +kernel
theorem d5_142 : decode prog_1_method_2_code 142 = .ok (.invokestatic 38, 3) := by decide +kernel
theorem d5_145 : decode prog_1_method_2_code 145 = .ok (.aload_n 0, 1) := by decide +kernel
theorem d5_146 : decode prog_1_method_2_code 146 = .ok (.getfield 22, 3) := by decide +kernel
theorem d5_149 : decode prog_1_method_2_code 149 = .ok (.iload 4, 2) := by decide +kernel
theorem d5_151 : decode prog_1_method_2_code 151 = .ok (.lload_n 1, 1) := by decide +kernel
theorem d5_152 : decode prog_1_method_2_code 152 = .ok (.lastore, 1) := by decide +kernel
theorem d5_153 : decode prog_1_method_2_code 153 = .ok (.aload_n 0, 1) := by decide +kernel
theorem d5_154 : decode prog_1_method_2_code 154 = .ok (.dup, 1) := by decide +kernel
theorem d5_155 : decode prog_1_method_2_code 155 = .ok (.getfield 25, 3) := by decide +kernel
theorem d5_158 : decode prog_1_method_2_code 158 = .ok (.iconst 1, 1) := by decide +kernel
theorem d5_159 : decode prog_1_method_2_code 159 = .ok (.iadd, 1) := by decide +kernel
theorem d5_160 : decode prog_1_method_2_code 160 = .ok (.putfield 25, 3) := by decide +kernel
theorem d5_163 : decode prog_1_method_2_code 163 = .ok (.return_, 1) := by decide +kernel
theorem pn_5 : plainName "com/example/funnel/funnel/admission/RecentTimes" = true := by first | (simp [plainName, overriddenIn]; done) | decide +kernel
theorem d6_0 : decode jdk_65_method_55_code 0 = .ok (.aload_n 0, 1) := by decide +kernel
theorem d6_1 : decode jdk_65_method_55_code 1 = .ok (.arraylength, 1) := by decide +kernel
theorem d6_2 : decode jdk_65_method_55_code 2 = .ok (.iload_n 1, 1) := by decide +kernel
theorem d6_3 : decode jdk_65_method_55_code 3 = .ok (.iload_n 2, 1) := by decide +kernel
theorem d6_4 : decode jdk_65_method_55_code 4 = .ok (.invokestatic 13, 3) := by decide +kernel
theorem d6_7 : decode jdk_65_method_55_code 7 = .ok (.aload_n 0, 1) := by decide +kernel
theorem d6_8 : decode jdk_65_method_55_code 8 = .ok (.iload_n 1, 1) := by decide +kernel
theorem d6_9 : decode jdk_65_method_55_code 9 = .ok (.iload_n 2, 1) := by decide +kernel
theorem d6_10 : decode jdk_65_method_55_code 10 = .ok (.lload_n 3, 1) := by decide +kernel
theorem d6_11 : decode jdk_65_method_55_code 11 = .ok (.invokestatic 205, 3) := by decide +kernel
theorem d6_14 : decode jdk_65_method_55_code 14 = .ok (.ireturn, 1) := by decide +kernel
theorem pn_6 : plainName "java/util/Arrays" = true := by first | (simp [plainName, overriddenIn]; done) | decide +kernel
theorem d7_0 : decode jdk_65_method_30_code 0 = .ok (.iload_n 1, 1) := by decide +kernel
theorem d7_1 : decode jdk_65_method_30_code 1 = .ok (.iload_n 2, 1) := by decide +kernel
theorem d7_2 : decode jdk_65_method_30_code 2 = .ok (.if_icmp .le 44, 3) := by decide +kernel
theorem d7_46 : decode jdk_65_method_30_code 46 = .ok (.iload_n 1, 1) := by decide +kernel
theorem d7_47 : decode jdk_65_method_30_code 47 = .ok (.ifCond .ge 12, 3) := by decide +kernel
theorem d7_59 : decode jdk_65_method_30_code 59 = .ok (.iload_n 2, 1) := by decide +kernel
theorem d7_60 : decode jdk_65_method_30_code 60 = .ok (.iload_n 0, 1) := by decide +kernel
theorem d7_61 : decode jdk_65_method_30_code 61 = .ok (.if_icmp .le 12, 3) := by decide +kernel
theorem d7_73 : decode jdk_65_method_30_code 73 = .ok (.return_, 1) := by decide +kernel
theorem pn_7 : plainName "java/util/Arrays" = true := by first | (simp [plainName, overriddenIn]; done) | decide +kernel
theorem d8_0 : decode jdk_65_method_56_code 0 = .ok (.iload_n 1, 1) := by decide +kernel
theorem d8_1 : decode jdk_65_method_56_code 1 = .ok (.istore 5, 2) := by decide +kernel
theorem d8_3 : decode jdk_65_method_56_code 3 = .ok (.iload_n 2, 1) := by decide +kernel
theorem d8_4 : decode jdk_65_method_56_code 4 = .ok (.iconst 1, 1) := by decide +kernel
theorem d8_5 : decode jdk_65_method_56_code 5 = .ok (.isub, 1) := by decide +kernel
theorem d8_6 : decode jdk_65_method_56_code 6 = .ok (.istore 6, 2) := by decide +kernel
theorem d8_8 : decode jdk_65_method_56_code 8 = .ok (.iload 5, 2) := by decide +kernel
theorem d8_10 : decode jdk_65_method_56_code 10 = .ok (.iload 6, 2) := by decide +kernel
theorem d8_12 : decode jdk_65_method_56_code 12 = .ok (.if_icmp .gt 56, 3) := by decide +kernel
theorem d8_15 : decode jdk_65_method_56_code 15 = .ok (.iload 5, 2) := by decide +kernel
theorem d8_17 : decode jdk_65_method_56_code 17 = .ok (.iload 6, 2) := by decide +kernel
theorem d8_19 : decode jdk_65_method_56_code 19 = .ok (.iadd, 1) := by decide +kernel
theorem d8_20 : decode jdk_65_method_56_code 20 = .ok (.iconst 1, 1) := by decide +kernel
theorem d8_21 : decode jdk_65_method_56_code 21 = .ok (.iushr, 1) := by decide +kernel
theorem d8_22 : decode jdk_65_method_56_code 22 = .ok (.istore 7, 2) := by decide +kernel
theorem d8_24 : decode jdk_65_method_56_code 24 = .ok (.aload_n 0, 1) := by decide +kernel
theorem d8_25 : decode jdk_65_method_56_code 25 = .ok (.iload 7, 2) := by decide +kernel
theorem d8_27 : decode jdk_65_method_56_code 27 = .ok (.laload, 1) := by decide +kernel
theorem d8_28 : decode jdk_65_method_56_code 28 = .ok (.lstore 8, 2) := by decide +kernel
theorem d8_30 : decode jdk_65_method_56_code 30 = .ok (.lload 8, 2) := by decide +kernel
theorem d8_32 : decode jdk_65_method_56_code 32 = .ok (.lload_n 3, 1) := by decide +kernel
theorem d8_33 : decode jdk_65_method_56_code 33 = .ok (.lcmp, 1) := by decide +kernel
theorem d8_34 : decode jdk_65_method_56_code 34 = .ok (.ifCond .ge 12, 3) := by decide +kernel
theorem d8_37 : decode jdk_65_method_56_code 37 = .ok (.iload 7, 2) := by decide +kernel
theorem d8_39 : decode jdk_65_method_56_code 39 = .ok (.iconst 1, 1) := by decide +kernel
theorem d8_40 : decode jdk_65_method_56_code 40 = .ok (.iadd, 1) := by decide +kernel
theorem d8_41 : decode jdk_65_method_56_code 41 = .ok (.istore 5, 2) := by decide +kernel
theorem d8_43 : decode jdk_65_method_56_code 43 = .ok (.goto 22, 3) := by decide +kernel
theorem d8_46 : decode jdk_65_method_56_code 46 = .ok (.lload 8, 2) := by decide +kernel
theorem d8_48 : decode jdk_65_method_56_code 48 = .ok (.lload_n 3, 1) := by decide +kernel
theorem d8_49 : decode jdk_65_method_56_code 49 = .ok (.lcmp, 1) := by decide +kernel
theorem d8_50 : decode jdk_65_method_56_code 50 = .ok (.ifCond .le 12, 3) := by decide +kernel
theorem d8_53 : decode jdk_65_method_56_code 53 = .ok (.iload 7, 2) := by decide +kernel
theorem d8_55 : decode jdk_65_method_56_code 55 = .ok (.iconst 1, 1) := by decide +kernel
theorem d8_56 : decode jdk_65_method_56_code 56 = .ok (.isub, 1) := by decide +kernel
theorem d8_57 : decode jdk_65_method_56_code 57 = .ok (.istore 6, 2) := by decide +kernel
theorem d8_59 : decode jdk_65_method_56_code 59 = .ok (.goto 6, 3) := by decide +kernel
theorem d8_62 : decode jdk_65_method_56_code 62 = .ok (.iload 7, 2) := by decide +kernel
theorem d8_64 : decode jdk_65_method_56_code 64 = .ok (.ireturn, 1) := by decide +kernel
theorem d8_65 : decode jdk_65_method_56_code 65 = .ok (.goto (-57), 3) := by decide +kernel
theorem d8_68 : decode jdk_65_method_56_code 68 = .ok (.iload 5, 2) := by decide +kernel
theorem d8_70 : decode jdk_65_method_56_code 70 = .ok (.iconst 1, 1) := by decide +kernel
theorem d8_71 : decode jdk_65_method_56_code 71 = .ok (.iadd, 1) := by decide +kernel
theorem d8_72 : decode jdk_65_method_56_code 72 = .ok (.ineg, 1) := by decide +kernel
theorem d8_73 : decode jdk_65_method_56_code 73 = .ok (.ireturn, 1) := by decide +kernel
theorem pn_8 : plainName "java/util/Arrays" = true := by first | (simp [plainName, overriddenIn]; done) | decide +kernel
theorem d9_0 : decode jdk_29_method_69_code 0 = .ok (.iload_n 0, 1) := by decide +kernel
theorem d9_1 : decode jdk_29_method_69_code 1 = .ok (.iload_n 1, 1) := by decide +kernel
theorem d9_2 : decode jdk_29_method_69_code 2 = .ok (.if_icmp .gt 7, 3) := by decide +kernel
theorem d9_5 : decode jdk_29_method_69_code 5 = .ok (.iload_n 0, 1) := by decide +kernel
theorem d9_6 : decode jdk_29_method_69_code 6 = .ok (.goto 4, 3) := by decide +kernel
theorem d9_9 : decode jdk_29_method_69_code 9 = .ok (.iload_n 1, 1) := by decide +kernel
theorem d9_10 : decode jdk_29_method_69_code 10 = .ok (.ireturn, 1) := by decide +kernel
theorem d10_0 : decode jdk_29_method_66_code 0 = .ok (.lload_n 0, 1) := by decide +kernel
theorem d10_1 : decode jdk_29_method_66_code 1 = .ok (.lload_n 2, 1) := by decide +kernel
theorem d10_2 : decode jdk_29_method_66_code 2 = .ok (.lcmp, 1) := by decide +kernel
theorem d10_3 : decode jdk_29_method_66_code 3 = .ok (.ifCond .lt 7, 3) := by decide +kernel
theorem d10_6 : decode jdk_29_method_66_code 6 = .ok (.lload_n 0, 1) := by decide +kernel
theorem d10_7 : decode jdk_29_method_66_code 7 = .ok (.goto 4, 3) := by decide +kernel
theorem d10_10 : decode jdk_29_method_66_code 10 = .ok (.lload_n 2, 1) := by decide +kernel
theorem d10_11 : decode jdk_29_method_66_code 11 = .ok (.lreturn, 1) := by decide +kernel
theorem pd_0 : parseMethodDescriptor "(III)V" = some ⟨[.int, .int, .int], none⟩ := by decide +kernel
theorem pd_1 : parseMethodDescriptor "([JIIJ)I" = some ⟨[(.array .long), .int, .int, .long], some .int⟩ := by decide +kernel
theorem pd_2 : parseMethodDescriptor "(II)I" = some ⟨[.int, .int], some .int⟩ := by decide +kernel
theorem pd_3 : parseMethodDescriptor "(JJ)J" = some ⟨[.long, .long], some .long⟩ := by decide +kernel
theorem pd_4 : parseMethodDescriptor "(I)V" = some ⟨[.int], none⟩ := by decide +kernel
theorem pd_5 : parseMethodDescriptor "()J" = some ⟨[], some .long⟩ := by decide +kernel
theorem pd_6 : parseMethodDescriptor "(IIJJJJJ)J" = some ⟨[.int, .int, .long, .long, .long, .long, .long], some .long⟩ := by decide +kernel
theorem pd_7 : parseMethodDescriptor "(J)V" = some ⟨[.long], none⟩ := by decide +kernel
theorem ef_7 (m : MethodId) (x0 : Int32) (x1 : Int32) (x2 : Int32) : entryFrame m #[(.int x0), (.int x1), (.int x2)] 3 = mkF m 0 #[.val (.int x0), .val (.int x1), .val (.int x2)] [] := by first | (simp [entryFrame, mkF, argsToLocals, Value.category]; done) | rfl
theorem ef_8 (m : MethodId) (x0 : Addr) (x2 : Int32) (x3 : Int64) : entryFrame m #[(.ref x0), (.int (0 : Int32)), (.int x2), (.long x3)] 10 = mkF m 0 #[.val (.ref x0), .val (.int (0 : Int32)), .val (.int x2), .val (.long x3), .second, .unset, .unset, .unset, .unset, .unset] [] := by first | (simp [entryFrame, mkF, argsToLocals, Value.category]; done) | rfl
theorem ef_6 (m : MethodId) (x0 : Addr) (x2 : Int32) (x3 : Int64) : entryFrame m #[(.ref x0), (.int (0 : Int32)), (.int x2), (.long x3)] 5 = mkF m 0 #[.val (.ref x0), .val (.int (0 : Int32)), .val (.int x2), .val (.long x3), .second] [] := by first | (simp [entryFrame, mkF, argsToLocals, Value.category]; done) | rfl
theorem ef_9 (m : MethodId) (x0 : Int32) (x1 : Int32) : entryFrame m #[(.int x0), (.int x1)] 2 = mkF m 0 #[.val (.int x0), .val (.int x1)] [] := by first | (simp [entryFrame, mkF, argsToLocals, Value.category]; done) | rfl
theorem ef_10 (m : MethodId) (x0 : Int64) (x1 : Int64) : entryFrame m #[(.long x0), (.long x1)] 4 = mkF m 0 #[.val (.long x0), .second, .val (.long x1), .second] [] := by first | (simp [entryFrame, mkF, argsToLocals, Value.category]; done) | rfl
theorem ef_4 (m : MethodId) (x0 : Int32) (x1 : Int32) (x2 : Int64) (x3 : Int64) (x4 : Int64) (x5 : Int64) (x6 : Int64) : entryFrame m #[(.int x0), (.int x1), (.long x2), (.long x3), (.long x4), (.long x5), (.long x6)] 16 = mkF m 0 #[.val (.int x0), .val (.int x1), .val (.long x2), .second, .val (.long x3), .second, .val (.long x4), .second, .val (.long x5), .second, .val (.long x6), .second, .unset, .unset, .unset, .unset] [] := by first | (simp [entryFrame, mkF, argsToLocals, Value.category]; done) | rfl
theorem ef_add (m : MethodId) (x0 : Addr) (x1 : Int64) : entryFrame m #[(.ref x0), (.long x1)] 5 = mkF m 0 #[.val (.ref x0), .val (.long x1), .second, .unset, .unset] [] := by first | (simp [entryFrame, mkF, argsToLocals, Value.category]; done) | rfl
theorem ef_per (m : MethodId) (x0 : Addr) : entryFrame m #[(.ref x0)] 2 = mkF m 0 #[.val (.ref x0), .unset] [] := by first | (simp [entryFrame, mkF, argsToLocals, Value.category]; done) | rfl
theorem ef_1 (m : MethodId) (x0 : Addr) (x1 : Int32) : entryFrame m #[(.ref x0), (.int x1)] 2 = mkF m 0 #[.val (.ref x0), .val (.int x1)] [] := by first | (simp [entryFrame, mkF, argsToLocals, Value.category]; done) | rfl
theorem ef_0 (m : MethodId) (x0 : Int32) (x1 : Int64) (x2 : Int64) (x3 : Int64) (x4 : Int64) (x5 : Int64) : entryFrame m #[(.int x0), (.long x1), (.long x2), (.long x3), (.long x4), (.long x5)] maxLocals = mkF m 0 #[.val (.int x0), .val (.long x1), .second, .val (.long x2), .second, .val (.long x3), .second, .val (.long x4), .second, .val (.long x5), .second, .unset, .unset, .unset, .unset, .unset] [] := by first | (simp [entryFrame, mkF, argsToLocals, Value.category, maxLocals]; done) | rfl
/-! plain lists: the window, the two shifts, the search's answer -/
def own_win (K : Nat) (ws : List Int64) : List Int64 := ws.drop (ws.length - K)
def own_cpy (l : List Int64) (sp dp n : Nat) : List Int64 := l.take dp ++ (l.drop sp).take n ++ l.drop (dp + n)
theorem own_cpy_len {l : List Int64} {sp dp n : Nat} (h1 : sp + n ≤ l.length) (h2 : dp + n ≤ l.length) : (own_cpy l sp dp n).length = l.length := by
  simp only [own_cpy, List.length_append, List.length_take, List.length_drop]; omega
theorem own_take_split {l : List Int64} {p s : Nat} (h : p ≤ s) : l.take s = l.take p ++ (l.drop p).take (s - p) := by
  have e : s = p + (s - p) := by omega
  conv => lhs; rw [e]
  rw [List.take_add]
theorem own_rem {l : List Int64} {i s : Nat} (h1 : i < s) (h2 : s ≤ l.length) : (own_cpy l (i + 1) i (s - i - 1)).take (s - 1) = l.take i ++ (l.drop (i + 1)).take (s - i - 1) := by
  have e : (l.take i ++ (l.drop (i + 1)).take (s - i - 1)).length = s - 1 := by
    simp only [List.length_append, List.length_take, List.length_drop]; omega
  rw [own_cpy, List.take_append_of_le_length (by omega), List.take_of_length_le (by omega)]
theorem own_rem_perm {l : List Int64} {i s : Nat} (h1 : i < s) (h2 : s ≤ l.length) {x : Int64} (hx : l[i]? = some x) : List.Perm (l.take s) (x :: ((own_cpy l (i + 1) i (s - i - 1)).take (s - 1))) := by
  rw [own_rem h1 h2]
  have hi : i < l.length := by omega
  have e : l.take s = l.take i ++ x :: (l.drop (i + 1)).take (s - i - 1) := by
    rw [own_take_split (p := i) (by omega)]
    congr 1
    have : l.drop i = x :: l.drop (i + 1) := by
      rw [List.drop_eq_getElem_cons hi]
      congr 1
      rw [List.getElem?_eq_getElem hi] at hx
      exact Option.some.inj hx
    rw [this]
    have e2 : s - i = (s - i - 1) + 1 := by omega
    rw [e2, List.take_succ_cons]
    rfl
  rw [e]
  exact List.perm_middle
theorem own_rem_sub {l : List Int64} {i s : Nat} (h1 : i < s) (h2 : s ≤ l.length) : List.Sublist ((own_cpy l (i + 1) i (s - i - 1)).take (s - 1)) (l.take s) := by
  rw [own_rem h1 h2, own_take_split (l := l) (p := i) (s := s) (by omega)]
  refine List.Sublist.append (List.Sublist.refl _) ?_
  have : (l.drop (i + 1)).take (s - i - 1) = ((l.drop i).take (s - i)).drop 1 := by
    rw [List.drop_take, List.drop_drop, Nat.sub_sub]
  rw [this]
  exact List.drop_sublist _ _
theorem own_ins {l : List Int64} {p s : Nat} (h1 : p ≤ s) (h2 : s < l.length) (v : Int64) : ((own_cpy l p (p + 1) (s - p)).set p v).take (s + 1) = l.take p ++ v :: (l.drop p).take (s - p) := by
  have e0 : l.take (p + 1) = l.take p ++ [l[p]'(by omega)] := by rw [List.take_succ_eq_append_getElem (by omega)]
  have lp : (l.take p).length = p := by rw [List.length_take]; omega
  have e1 : own_cpy l p (p + 1) (s - p) = l.take p ++ (l[p]'(by omega) :: ((l.drop p).take (s - p) ++ l.drop (p + 1 + (s - p)))) := by
    rw [own_cpy, e0]; simp only [List.append_assoc, List.cons_append, List.nil_append]
  rw [e1, List.set_append_right _ _ (by omega), lp, Nat.sub_self, List.set_cons_zero]
  have e2 : (l.take p ++ v :: (l.drop p).take (s - p)).length = s + 1 := by
    simp only [List.length_append, List.length_cons, List.length_take, List.length_drop]; omega
  have e3 : l.take p ++ (v :: ((l.drop p).take (s - p) ++ l.drop (p + 1 + (s - p)))) = (l.take p ++ v :: (l.drop p).take (s - p)) ++ l.drop (p + 1 + (s - p)) := by simp [List.append_assoc]
  rw [e3, List.take_append_of_le_length (by omega), List.take_of_length_le (by omega)]
theorem own_ins_perm {l : List Int64} {p s : Nat} (h1 : p ≤ s) (v : Int64) : List.Perm (l.take p ++ v :: (l.drop p).take (s - p)) (v :: l.take s) := by
  rw [own_take_split (l := l) h1]
  exact List.perm_middle
def own_srt (l : List Int64) : Prop := l.Pairwise (fun a b => a ≤ b)
theorem own_ins_srt {l : List Int64} {p s : Nat} (h1 : p ≤ s) {v : Int64} (hs : own_srt (l.take s)) (ha : ∀ x ∈ l.take p, x ≤ v) (hb : ∀ x ∈ (l.drop p).take (s - p), v ≤ x) : own_srt (l.take p ++ v :: (l.drop p).take (s - p)) := by
  unfold own_srt at *
  rw [own_take_split (l := l) h1, List.pairwise_append] at hs
  rw [List.pairwise_append, List.pairwise_cons]
  refine ⟨hs.1, ⟨hb, hs.2.1⟩, fun a hA b hB => ?_⟩
  rcases List.mem_cons.mp hB with rfl | hB
  · exact ha a hA
  · exact hs.2.2 a hA b hB
theorem own_win_lt {K : Nat} {ws : List Int64} (h : ws.length < K) (v : Int64) : own_win K (ws ++ [v]) = own_win K ws ++ [v] := by
  have e1 : (ws ++ [v]).length - K = 0 := by rw [List.length_append]; simp; omega
  have e2 : ws.length - K = 0 := by omega
  rw [own_win, own_win, e1, e2]; simp
theorem own_win_ge {K : Nat} {ws : List Int64} (h : K ≤ ws.length) (h1 : 1 ≤ K) (v : Int64) : ∃ x rest, own_win K ws = x :: rest ∧ ws[ws.length - K]? = some x ∧ own_win K (ws ++ [v]) = rest ++ [v] := by
  have hl : ws.length - K < ws.length := by omega
  refine ⟨ws[ws.length - K], ws.drop (ws.length - K + 1), ?_, List.getElem?_eq_getElem hl, ?_⟩
  · rw [own_win, List.drop_eq_getElem_cons hl]
  · have e1 : (ws ++ [v]).length - K = ws.length - K + 1 := by rw [List.length_append]; simp; omega
    rw [own_win, e1, List.drop_append_of_le_length (by omega)]
/-- what the search answers -/
def own_bsa (l : List Int64) (to : Nat) (key : Int64) (f : Int32) : Prop :=
  (0 ≤ f.toInt → f.toInt < to ∧ l[f.toInt.toNat]? = some key) ∧
  (f.toInt < 0 → ∃ p : Nat, f.toInt = -(p : Int) - 1 ∧ p ≤ to ∧ (∀ x ∈ l.take p, x < key) ∧ ∀ x ∈ (l.drop p).take (to - p), key < x)
theorem own_le_of_lt {a b : Int64} (h : a < b) : a ≤ b := by rw [Int64.le_iff_toInt_le]; rw [Int64.lt_iff_toInt_lt] at h; omega
theorem own_place {l : List Int64} {s : Nat} {v : Int64} {f : Int32} (hs : own_srt (l.take s)) (hl : s ≤ l.length) (hb : own_bsa l s v f) :
    ∃ p : Nat, p ≤ s ∧ (0 ≤ f.toInt → f.toInt = p) ∧ (f.toInt < 0 → f.toInt = -(p : Int) - 1) ∧ (∀ x ∈ l.take p, x ≤ v) ∧ ∀ x ∈ (l.drop p).take (s - p), v ≤ x := by
  by_cases h : 0 ≤ f.toInt
  · obtain ⟨h1, h2⟩ := hb.1 h
    have hp : f.toInt.toNat < s := by omega
    have hi : f.toInt.toNat < l.length := by omega
    rw [List.getElem?_eq_getElem hi] at h2
    have h3 := Option.some.inj h2
    unfold own_srt at hs
    rw [own_take_split (l := l) (p := f.toInt.toNat) (by omega), List.pairwise_append] at hs
    have e : (l.drop f.toInt.toNat).take (s - f.toInt.toNat) = v :: (l.drop (f.toInt.toNat + 1)).take (s - f.toInt.toNat - 1) := by
      rw [List.drop_eq_getElem_cons hi, h3]
      have e2 : s - f.toInt.toNat = (s - f.toInt.toNat - 1) + 1 := by omega
      rw [e2, List.take_succ_cons]; rfl
    refine ⟨f.toInt.toNat, by omega, fun _ => by omega, fun q => absurd h (by omega), fun x hx => ?_, fun x hx => ?_⟩
    · exact hs.2.2 x hx v (by rw [e]; exact List.mem_cons_self)
    · rw [e] at hx hs
      rcases List.mem_cons.mp hx with rfl | hx
      · rw [Int64.le_iff_toInt_le]; omega
      · exact (List.pairwise_cons.mp hs.2.1).1 x hx
  · obtain ⟨p, h1, h2, h3, h4⟩ := hb.2 (by omega)
    exact ⟨p, h2, fun q => absurd q h, fun _ => h1, fun x hx => own_le_of_lt (h3 x hx), fun x hx => own_le_of_lt (h4 x hx)⟩
/-- the searched key lies there: it is found -/
theorem own_found {l : List Int64} {s : Nat} {v : Int64} {f : Int32} (hm : v ∈ l.take s) (hb : own_bsa l s v f) : 0 ≤ f.toInt ∧ f.toInt < s ∧ l[f.toInt.toNat]? = some v := by
  by_cases h : 0 ≤ f.toInt
  · exact ⟨h, hb.1 h⟩
  · exfalso
    obtain ⟨p, h1, h2, h3, h4⟩ := hb.2 (by omega)
    rw [own_take_split (l := l) h2] at hm
    rcases List.mem_append.mp hm with q | q
    · have := h3 _ q; rw [Int64.lt_iff_toInt_lt] at this; omega
    · have := h4 _ q; rw [Int64.lt_iff_toInt_lt] at this; omega
def own_R (K : Nat) (ws tim ord : List Int64) (s t : Nat) : Prop :=
  tim.length = K ∧ ord.length = K ∧ s = min ws.length K ∧ t = ws.length % K ∧ own_srt (ord.take s) ∧ List.Perm (ord.take s) (own_win K ws) ∧ ∀ i, (hi : i < ws.length) → ws.length ≤ i + K → tim[i % K]? = some ws[i]
theorem own_R0 (K : Nat) : own_R K [] (List.replicate K 0) (List.replicate K 0) 0 0 :=
  ⟨List.length_replicate, List.length_replicate, by simp, by simp, by simp [own_srt], by simp [own_win], fun i hi => by simp at hi⟩
/-- the second half: v is put in -/
theorem own_put {l W : List Int64} {s : Nat} {v : Int64} {f : Int32} (hs : own_srt (l.take s)) (hp : List.Perm (l.take s) W) (hl : s < l.length) (hb : own_bsa l s v f) :
    ∃ p : Nat, p ≤ s ∧ (0 ≤ f.toInt → f.toInt = p) ∧ (f.toInt < 0 → f.toInt = -(p : Int) - 1) ∧ ((own_cpy l p (p + 1) (s - p)).set p v).length = l.length ∧ own_srt (((own_cpy l p (p + 1) (s - p)).set p v).take (s + 1)) ∧ List.Perm (((own_cpy l p (p + 1) (s - p)).set p v).take (s + 1)) (W ++ [v]) := by
  obtain ⟨p, h1, h2, h3, h4, h5⟩ := own_place hs (by omega) hb
  refine ⟨p, h1, h2, h3, ?_, ?_, ?_⟩
  · rw [List.length_set, own_cpy_len (by omega) (by omega)]
  · rw [own_ins h1 hl]; exact own_ins_srt h1 hs h4 h5
  · rw [own_ins h1 hl]
    exact (own_ins_perm h1 v).trans ((List.Perm.cons v hp).trans (List.perm_append_comm (l₁ := [v])))
theorem own_tim {K : Nat} {ws tim : List Int64} {v : Int64} (hK : 1 ≤ K) (hl : tim.length = K) (h : ∀ i, (hi : i < ws.length) → ws.length ≤ i + K → tim[i % K]? = some ws[i]) :
    ∀ i, (hi : i < (ws ++ [v]).length) → (ws ++ [v]).length ≤ i + K → (tim.set (ws.length % K) v)[i % K]? = some (ws ++ [v])[i] := by
  intro i hi hK2
  have hlen : (ws ++ [v]).length = ws.length + 1 := by simp
  have hm : ws.length % K < K := Nat.mod_lt _ hK
  by_cases e : i = ws.length
  · subst e
    rw [List.getElem?_set_self (by omega)]
    simp
  · have hi' : i < ws.length := by omega
    have ne : ws.length % K ≠ i % K := by
      intro q
      have h1 : ws.length - i < K := by omega
      have h2 : (ws.length - i) % K = 0 := by
        have := Nat.sub_mod_eq_zero_of_mod_eq q
        exact this
      rw [Nat.mod_eq_of_lt h1] at h2
      omega
    rw [List.getElem?_set_ne ne, h i hi' (by omega)]
    rw [List.getElem_append_left hi']
/-- not full -/
theorem own_add1 {K : Nat} {ws tim ord : List Int64} {s t : Nat} {v : Int64} {f : Int32} (hK : 1 ≤ K) (R : own_R K ws tim ord s t) (hn : s ≠ K) (hb : own_bsa ord s v f) :
    ∃ p : Nat, p ≤ s ∧ s < K ∧ t < K ∧ (0 ≤ f.toInt → f.toInt = p) ∧ (f.toInt < 0 → f.toInt = -(p : Int) - 1) ∧ own_R K (ws ++ [v]) (tim.set t v) ((own_cpy ord p (p + 1) (s - p)).set p v) (s + 1) ((t + 1) % K) := by
  obtain ⟨r1, r2, r3, r4, r5, r6, r7⟩ := R
  have hlt : ws.length < K := by omega
  obtain ⟨p, h1, h2, h3, h4, h5, h6⟩ := own_put r5 r6 (by omega) hb
  refine ⟨p, h1, by omega, by rw [r4]; exact Nat.mod_lt _ hK, h2, h3, by rw [List.length_set]; exact r1, h4.trans r2, ?_, ?_, h5, ?_, ?_⟩
  · simp; omega
  · rw [r4]; simp [Nat.add_mod]
  · rw [own_win_lt hlt]; exact h6
  · rw [r4]; exact own_tim hK r1 r7
/-- full: the oldest is found -/
theorem own_old {K : Nat} {ws tim ord : List Int64} {s t : Nat} (hK : 1 ≤ K) (R : own_R K ws tim ord s t) (hn : s = K) : ∃ x, tim[t]? = some x ∧ x ∈ ord.take s ∧ t < K := by
  obtain ⟨r1, r2, r3, r4, r5, r6, r7⟩ := R
  have hge : K ≤ ws.length := by omega
  have hi : ws.length - K < ws.length := by omega
  have e := r7 (ws.length - K) hi (by omega)
  have em : (ws.length - K) % K = ws.length % K := by
    conv => rhs; rw [show ws.length = (ws.length - K) + K by omega]
    rw [Nat.add_mod_right]
  rw [em, ← r4] at e
  obtain ⟨x, rest, w1, w2, -⟩ := own_win_ge hge hK 0
  refine ⟨ws[ws.length - K], e, ?_, by rw [r4]; exact Nat.mod_lt _ hK⟩
  rw [List.getElem?_eq_getElem hi] at w2
  rw [Option.some.inj w2]
  exact r6.mem_iff.mpr (by rw [w1]; exact List.mem_cons_self)
theorem own_add2 {K : Nat} {ws tim ord : List Int64} {s t : Nat} {v x : Int64} {g f : Int32} (hK : 1 ≤ K) (R : own_R K ws tim ord s t) (hn : s = K) (hx : tim[t]? = some x) (hg : 0 ≤ g.toInt ∧ g.toInt < s ∧ ord[g.toInt.toNat]? = some x)
    (hb : own_bsa (own_cpy ord (g.toInt.toNat + 1) g.toInt.toNat (s - g.toInt.toNat - 1)) (s - 1) v f) :
    ∃ p : Nat, p ≤ s - 1 ∧ (0 ≤ f.toInt → f.toInt = p) ∧ (f.toInt < 0 → f.toInt = -(p : Int) - 1) ∧ own_R K (ws ++ [v]) (tim.set t v) ((own_cpy (own_cpy ord (g.toInt.toNat + 1) g.toInt.toNat (s - g.toInt.toNat - 1)) p (p + 1) (s - 1 - p)).set p v) s ((t + 1) % K) := by
  have R' := R
  obtain ⟨r1, r2, r3, r4, r5, r6, r7⟩ := R
  have hge : K ≤ ws.length := by omega
  obtain ⟨y, rest, w1, w2, w3⟩ := own_win_ge hge hK v
  have hi : ws.length - K < ws.length := by omega
  have e := r7 (ws.length - K) hi (by omega)
  have em : (ws.length - K) % K = ws.length % K := by
    conv => rhs; rw [show ws.length = (ws.length - K) + K by omega]
    rw [Nat.add_mod_right]
  rw [em, ← r4, hx] at e
  rw [List.getElem?_eq_getElem hi] at w2
  have exy : x = y := (Option.some.inj e).trans (Option.some.inj w2)
  subst exy
  obtain ⟨g1, g2, g3⟩ := hg
  have hgl : g.toInt.toNat < s := by omega
  have hp1 : List.Perm ((own_cpy ord (g.toInt.toNat + 1) g.toInt.toNat (s - g.toInt.toNat - 1)).take (s - 1)) rest := by
    have q := own_rem_perm hgl (by omega) g3
    rw [w1] at r6
    exact (List.Perm.cons_inv (q.symm.trans r6))
  have hs1 : own_srt ((own_cpy ord (g.toInt.toNat + 1) g.toInt.toNat (s - g.toInt.toNat - 1)).take (s - 1)) := List.Pairwise.sublist (own_rem_sub hgl (by omega)) r5
  have hl1 : (own_cpy ord (g.toInt.toNat + 1) g.toInt.toNat (s - g.toInt.toNat - 1)).length = K := (own_cpy_len (by omega) (by omega)).trans r2
  obtain ⟨p, h1, h2, h3, h4, h5, h6⟩ := own_put hs1 hp1 (by omega) hb
  have es : s - 1 + 1 = s := by omega
  rw [es] at h5 h6
  refine ⟨p, h1, h2, h3, by rw [List.length_set]; exact r1, h4.trans hl1, ?_, ?_, h5, ?_, ?_⟩
  · simp; omega
  · rw [r4]; simp [Nat.add_mod]
  · rw [w3]; exact h6
  · rw [r4]; exact own_tim hK r1 r7
/-- the last of the ordered ones is the window's greatest -/
theorem own_last {K : Nat} {ws tim ord : List Int64} {s t : Nat} (R : own_R K ws tim ord s t) (hs : 0 < s) : ∃ x, ord[s - 1]? = some x ∧ x ∈ own_win K ws ∧ ∀ y ∈ own_win K ws, y ≤ x := by
  obtain ⟨r1, r2, r3, r4, r5, r6, r7⟩ := R
  have hl : s - 1 < ord.length := by omega
  have e : ord.take s = ord.take (s - 1) ++ [ord[s - 1]] := by
    have := List.take_succ_eq_append_getElem hl
    rw [show s - 1 + 1 = s by omega] at this
    exact this
  refine ⟨ord[s - 1], List.getElem?_eq_getElem hl, r6.mem_iff.mp (by rw [e]; exact List.mem_append_right _ (List.mem_singleton.mpr rfl)), fun y hy => ?_⟩
  have hy' := r6.mem_iff.mpr hy
  unfold own_srt at r5
  rw [e] at hy' r5
  rcases List.mem_append.mp hy' with q | q
  · exact (List.pairwise_append.mp r5).2.2 y q _ (by simp)
  · rw [List.mem_singleton.mp q]; rw [Int64.le_iff_toInt_le]; omega
abbrev own_mid (lo hi : Int32) : Int32 := (((lo + hi).toUInt32 >>> ((1 : Int32) &&& 31).toUInt32).toInt32)
def own_bi (l : List Int64) (to : Nat) (key : Int64) (lo hi : Int32) : Prop :=
  0 ≤ lo.toInt ∧ lo.toInt ≤ hi.toInt + 1 ∧ hi.toInt < to ∧ to ≤ 4 ∧ to ≤ l.length ∧ (∀ x ∈ l.take lo.toInt.toNat, x < key) ∧ ∀ x ∈ (l.drop (hi.toInt + 1).toNat).take (to - (hi.toInt + 1).toNat), key < x
theorem own_i0 : (0 : Int32).toInt = 0 := rfl
theorem own_i1 : (1 : Int32).toInt = 1 := rfl
theorem own_midv {l : List Int64} {to : Nat} {key : Int64} {lo hi : Int32} (I : own_bi l to key lo hi) (h : ¬ hi < lo) : (own_mid lo hi).toInt = (lo.toInt + hi.toInt) / 2 ∧ lo.toInt ≤ hi.toInt := by
  obtain ⟨i1, i2, i3, i4, i5, -⟩ := I
  rw [Int32.lt_iff_toInt_lt] at h
  have h1 := c_iushr (lo + hi) 1 1 (by decide) (by decide)
  have h2 := c_iadd lo hi; have h3 := rng32 (lo + hi)
  refine ⟨?_, by omega⟩
  show ((((lo + hi).toUInt32 >>> ((1 : Int32) &&& 31).toUInt32).toInt32)).toInt = _
  rw [h1]; omega
theorem own_getd0 {l : List Int64} {i : Nat} {y : Int64} (h : l[i]? = some y) : (l.map Value.long).getD i (.long (0 : Int64)) = .long y := by
  rw [List.getD_eq_getElem?_getD, List.getElem?_map, h]; rfl
theorem own_bi_at {l : List Int64} {to : Nat} {key : Int64} {lo hi : Int32} {kI : Int32} {K : Nat} (hk : kI.toInt = K) (hl : l.length = K) (I : own_bi l to key lo hi) (h : ¬ hi < lo) :
    (¬ (own_mid lo hi) < 0 ∧ (own_mid lo hi) < kI) ∧ ∃ y, l[(own_mid lo hi).toInt.toNat]? = some y ∧ (l.map Value.long).getD (own_mid lo hi).toNatClampNeg (.long (0 : Int64)) = .long y := by
  obtain ⟨m1, m2⟩ := own_midv I h
  obtain ⟨i1, i2, i3, i4, i5, -⟩ := I
  have hn : ¬ (own_mid lo hi) < 0 := by rw [Int32.lt_iff_toInt_lt, own_i0, m1]; omega
  have e := nat_of hn
  have hi' : (own_mid lo hi).toInt.toNat < l.length := by omega
  refine ⟨⟨hn, by rw [Int32.lt_iff_toInt_lt, m1, hk]; omega⟩, l[(own_mid lo hi).toInt.toNat], List.getElem?_eq_getElem hi', ?_⟩
  have e2 : (own_mid lo hi).toNatClampNeg = (own_mid lo hi).toInt.toNat := by omega
  rw [e2]
  exact own_getd0 (List.getElem?_eq_getElem hi')
theorem own_srt_le {l : List Int64} {to m : Nat} {y : Int64} (hs : own_srt (l.take to)) (hm : m < to) (hl : to ≤ l.length) (hy : l[m]? = some y) : (∀ x ∈ l.take (m + 1), x ≤ y) ∧ ∀ x ∈ (l.drop m).take (to - m), y ≤ x := by
  have hi : m < l.length := by omega
  rw [List.getElem?_eq_getElem hi] at hy
  have hy := Option.some.inj hy
  unfold own_srt at hs
  rw [own_take_split (l := l) (p := m) (by omega), List.pairwise_append] at hs
  have e : (l.drop m).take (to - m) = y :: (l.drop (m + 1)).take (to - m - 1) := by
    rw [List.drop_eq_getElem_cons hi, hy]
    have e2 : to - m = (to - m - 1) + 1 := by omega
    rw [e2, List.take_succ_cons]; rfl
  have yy : y ≤ y := by rw [Int64.le_iff_toInt_le]; omega
  refine ⟨fun x hx => ?_, fun x hx => ?_⟩
  · rw [List.take_succ_eq_append_getElem hi, hy] at hx
    rcases List.mem_append.mp hx with q | q
    · exact hs.2.2 x q y (by rw [e]; exact List.mem_cons_self)
    · rw [List.mem_singleton.mp q]; exact yy
  · rw [e] at hx hs
    rcases List.mem_cons.mp hx with rfl | q
    · exact yy
    · exact (List.pairwise_cons.mp hs.2.1).1 x q
theorem own_lt_le {a b c : Int64} (h1 : a ≤ b) (h2 : b < c) : a < c := by rw [Int64.lt_iff_toInt_lt] at *; rw [Int64.le_iff_toInt_le] at h1; omega
theorem own_le_lt {a b c : Int64} (h1 : a < b) (h2 : b ≤ c) : a < c := by rw [Int64.lt_iff_toInt_lt] at *; rw [Int64.le_iff_toInt_le] at h2; omega
theorem own_bi_lo {l : List Int64} {to : Nat} {key y : Int64} {lo hi : Int32} (hs : own_srt (l.take to)) (I : own_bi l to key lo hi) (h : ¬ hi < lo) (hy : l[(own_mid lo hi).toInt.toNat]? = some y) (hlt : y < key) : own_bi l to key (own_mid lo hi + (1 : Int32)) hi := by
  obtain ⟨m1, m2⟩ := own_midv I h
  obtain ⟨i1, i2, i3, i4, i5, i6, i7⟩ := I
  have a1 := c_iadd (own_mid lo hi) 1; have a2 := rng32 (own_mid lo hi + 1); rw [own_i1] at a1
  have e : (own_mid lo hi + (1 : Int32)).toInt = (own_mid lo hi).toInt + 1 := by omega
  refine ⟨by omega, by omega, i3, i4, i5, fun x hx => ?_, i7⟩
  have e2 : (own_mid lo hi + (1 : Int32)).toInt.toNat = (own_mid lo hi).toInt.toNat + 1 := by omega
  rw [e2] at hx
  exact own_lt_le ((own_srt_le hs (by omega) i5 hy).1 x hx) hlt
theorem own_bi_hi {l : List Int64} {to : Nat} {key y : Int64} {lo hi : Int32} (hs : own_srt (l.take to)) (I : own_bi l to key lo hi) (h : ¬ hi < lo) (hy : l[(own_mid lo hi).toInt.toNat]? = some y) (hlt : key < y) : own_bi l to key lo (own_mid lo hi - (1 : Int32)) := by
  obtain ⟨m1, m2⟩ := own_midv I h
  obtain ⟨i1, i2, i3, i4, i5, i6, i7⟩ := I
  have a1 := c_isub (own_mid lo hi) 1; have a2 := rng32 (own_mid lo hi - 1); rw [own_i1] at a1
  have e : (own_mid lo hi - (1 : Int32)).toInt = (own_mid lo hi).toInt - 1 := by omega
  refine ⟨i1, by omega, by omega, i4, i5, i6, fun x hx => ?_⟩
  have e2 : ((own_mid lo hi - (1 : Int32)).toInt + 1).toNat = (own_mid lo hi).toInt.toNat := by omega
  rw [e2] at hx
  exact own_le_lt hlt ((own_srt_le hs (by omega) i5 hy).2 x hx)
theorem own_bsf {l : List Int64} {to : Nat} {key y : Int64} {lo hi : Int32} (I : own_bi l to key lo hi) (h : ¬ hi < lo) (hy : l[(own_mid lo hi).toInt.toNat]? = some y) (h1 : ¬ y < key) (h2 : ¬ key < y) : own_bsa l to key (own_mid lo hi) := by
  obtain ⟨m1, m2⟩ := own_midv I h
  obtain ⟨i1, i2, i3, i4, i5, i6, i7⟩ := I
  have e : y = key := by rw [← Int64.toInt_inj]; rw [Int64.lt_iff_toInt_lt] at h1 h2; omega
  exact ⟨fun _ => ⟨by omega, by rw [hy, e]⟩, fun q => absurd q (by omega)⟩
theorem own_bsn {l : List Int64} {to : Nat} {key : Int64} {lo hi : Int32} (I : own_bi l to key lo hi) (h : hi < lo) : own_bsa l to key (-(lo + (1 : Int32))) := by
  obtain ⟨i1, i2, i3, i4, i5, i6, i7⟩ := I
  rw [Int32.lt_iff_toInt_lt] at h
  have a1 := c_iadd lo 1; have a2 := rng32 (lo + 1); rw [own_i1] at a1
  have a3 := c_ineg (lo + 1); have a4 := rng32 (-(lo + 1))
  have e : (-(lo + (1 : Int32))).toInt = -lo.toInt - 1 := by omega
  refine ⟨fun q => absurd q (by omega), fun _ => ⟨lo.toInt.toNat, by omega, by omega, i6, ?_⟩⟩
  have e2 : lo.toInt.toNat = (hi.toInt + 1).toNat := by omega
  rw [e2]; exact i7
theorem own_bsn0 {l : List Int64} {to : Nat} {key : Int64} {hi : Int32} (I : own_bi l to key (0 : Int32) hi) (h : hi < (0 : Int32)) : own_bsa l to key (-(1 : Int32)) := by
  have e := own_bsn I h
  rw [Int32.zero_add] at e
  exact e
theorem own_bi0 {l : List Int64} {to : Int32} {key : Int64} (h0 : 0 ≤ to.toInt) (h4 : to.toInt ≤ 4) (hl : to.toInt.toNat ≤ l.length) : own_bi l to.toInt.toNat key (0 : Int32) (to - (1 : Int32)) := by
  have a1 := c_isub to 1; have a2 := rng32 (to - 1); rw [own_i1] at a1
  have e : (to - (1 : Int32)).toInt = to.toInt - 1 := by omega
  refine ⟨by rw [own_i0]; omega, by rw [own_i0]; omega, by omega, by omega, hl, fun x hx => ?_, fun x hx => ?_⟩
  · rw [own_i0] at hx; simp at hx
  · have e2 : to.toInt.toNat - ((to - (1 : Int32)).toInt + 1).toNat = 0 := by omega
    rw [e2] at hx; simp at hx
theorem own_bz {l : List Int64} {to : Nat} {key : Int64} {lo hi : Int32} (I : own_bi l to key lo hi) (h : (hi.toInt + 1 - lo.toInt).toNat ≤ 0) : hi < lo := by
  obtain ⟨i1, i2, -⟩ := I
  rw [Int32.lt_iff_toInt_lt]; omega
theorem own_mlo {l : List Int64} {to k : Nat} {key : Int64} {lo hi : Int32} (I : own_bi l to key lo hi) (h : ¬ hi < lo) (hk : (hi.toInt + 1 - lo.toInt).toNat ≤ k + 1) : (hi.toInt + 1 - (own_mid lo hi + (1 : Int32)).toInt).toNat ≤ k := by
  obtain ⟨m1, m2⟩ := own_midv I h
  obtain ⟨i1, i2, i3, i4, i5, i6, i7⟩ := I
  have a1 := c_iadd (own_mid lo hi) 1; have a2 := rng32 (own_mid lo hi + 1); rw [own_i1] at a1
  omega
theorem own_mhi {l : List Int64} {to k : Nat} {key : Int64} {lo hi : Int32} (I : own_bi l to key lo hi) (h : ¬ hi < lo) (hk : (hi.toInt + 1 - lo.toInt).toNat ≤ k + 1) : ((own_mid lo hi - (1 : Int32)).toInt + 1 - lo.toInt).toNat ≤ k := by
  obtain ⟨m1, m2⟩ := own_midv I h
  obtain ⟨i1, i2, i3, i4, i5, i6, i7⟩ := I
  have a1 := c_isub (own_mid lo hi) 1; have a2 := rng32 (own_mid lo hi - 1); rw [own_i1] at a1
  omega
theorem own_n0 {q : Int32} (h : 0 ≤ q.toInt) : ¬ (q < (0 : Int32)) := by rw [Int32.lt_iff_toInt_lt, own_i0]; omega
theorem own_nk {kI q : Int32} {K : Nat} (hk : kI.toInt = (K : Int)) (h : q.toInt ≤ (K : Int)) : ¬ (kI < q) := by rw [Int32.lt_iff_toInt_lt]; omega
theorem own_cn {j : Int32} (h : 0 ≤ j.toInt) : j.toNatClampNeg = j.toInt.toNat := by have := nat_of (own_n0 h); omega
def own_st1 (s n i : Int32) (b x : Int64) : Int64 := if i < s then b else (if i < n then (if b < x then x else b) else b)
def own_exp (k n : Int32) (a b c d e : Int64) : Int64 :=
  if n = (0 : Int32) then (0 : Int64) else own_st1 (n - (if k < n then k else n)) n 4 (own_st1 (n - (if k < n then k else n)) n 3 (own_st1 (n - (if k < n then k else n)) n 2 (own_st1 (n - (if k < n then k else n)) n 1 (own_st1 (n - (if k < n then k else n)) n 0 (-9223372036854775808 : Int64) a) b) c) d) e
theorem own_exp0 {k n : Int32} {a b c d e : Int64} (h : n = (0 : Int32)) : own_exp k n a b c d e = (0 : Int64) := if_pos h
theorem own_exp1 {k n : Int32} {a b c d e : Int64} (h : ¬ n = (0 : Int32)) : own_exp k n a b c d e = own_st1 (n - (if k < n then k else n)) n 4 (own_st1 (n - (if k < n then k else n)) n 3 (own_st1 (n - (if k < n then k else n)) n 2 (own_st1 (n - (if k < n then k else n)) n 1 (own_st1 (n - (if k < n then k else n)) n 0 (-9223372036854775808 : Int64) a) b) c) d) e := if_neg h
theorem own_getd {l : List Int64} {i : Nat} {y : Int64} (h : l[i]? = some y) : (l.map Value.long).getD i (.long (0 : Int64)) = .long y := by
  simp [List.getD_eq_getElem?_getD, h]
theorem own_sK {K : Nat} {ws tim ord : List Int64} {u kI : Int32} {t : Nat} (hk : kI.toInt = (K : Int)) (hR : own_R K ws tim ord u.toInt.toNat t) (h : u = kI) : u.toInt.toNat = K := by rw [h]; omega
theorem own_oldat {K : Nat} {ws tim ord : List Int64} {u nx kI : Int32} (hk : kI.toInt = (K : Int)) (hK1 : 1 ≤ K) (hR : own_R K ws tim ord u.toInt.toNat nx.toInt.toNat) (hnx : 0 ≤ nx.toInt) (h : u = kI) :
    ∃ y, tim[nx.toInt.toNat]? = some y ∧ (¬ nx < 0 ∧ nx < kI) ∧ (tim.map Value.long).getD nx.toNatClampNeg (.long (0 : Int64)) = .long y := by
  obtain ⟨x, h1, h2, h3⟩ := own_old hK1 hR (own_sK hk hR h)
  exact ⟨x, h1, ⟨own_n0 hnx, by rw [Int32.lt_iff_toInt_lt]; omega⟩, by rw [own_cn hnx]; exact own_getd h1⟩
theorem own_oldin {K : Nat} {ws tim ord : List Int64} {u nx kI : Int32} {y : Int64} (hk : kI.toInt = (K : Int)) (hK1 : 1 ≤ K) (hR : own_R K ws tim ord u.toInt.toNat nx.toInt.toNat) (hnx : 0 ≤ nx.toInt) (h : u = kI) (hy : tim[nx.toInt.toNat]? = some y) : y ∈ ord.take u.toInt.toNat := by
  obtain ⟨x, h1, h2, h3⟩ := own_old hK1 hR (own_sK hk hR h)
  cases h1.symm.trans hy; exact h2
theorem own_cpm {l : List Int64} {sp dp n : Nat} (h : sp + n ≤ l.length) :
    (own_cpy l sp dp n).map Value.long = (l.map Value.long).take dp ++ ((List.range n).map fun i => (l.map Value.long).getD (sp + i) (.long (0 : Int64))) ++ (l.map Value.long).drop (dp + n) := by
  rw [own_cpy, List.map_append, List.map_append, List.map_take, List.map_drop, List.map_take, List.map_drop]
  congr 2
  apply List.ext_getElem?
  intro i
  by_cases hi : i < n
  · rw [List.getElem?_take_of_lt hi, List.getElem?_drop, List.getElem?_map, List.getElem?_map, List.getElem?_range hi]
    have hl : sp + i < l.length := by omega
    simp [List.getD_eq_getElem?_getD, hl]
  · rw [List.getElem?_eq_none (by simp; omega), List.getElem?_eq_none (by simp; omega)]
theorem own_cpG {l : List Int64} {kI sp dp nn : Int32} {K a b c : Nat} (hk : kI.toInt = (K : Int)) (hl : l.length = K) (h1 : sp.toInt = (a : Int)) (h2 : dp.toInt = (b : Int)) (h3 : nn.toInt = (c : Int)) (ha : a + c ≤ K) (hb : b + c ≤ K) :
    ¬ sp < 0 ∧ ¬ dp < 0 ∧ ¬ nn < 0 ∧ sp.toNatClampNeg + nn.toNatClampNeg ≤ kI.toNatClampNeg ∧ dp.toNatClampNeg + nn.toNatClampNeg ≤ kI.toNatClampNeg ∧ dp.toNatClampNeg + nn.toNatClampNeg ≤ (l.map Value.long).length ∧
    (own_cpy l a b c).map Value.long = (l.map Value.long).take dp.toNatClampNeg ++ ((List.range nn.toNatClampNeg).map fun i => (l.map Value.long).getD (sp.toNatClampNeg + i) (.long (0 : Int64))) ++ (l.map Value.long).drop (dp.toNatClampNeg + nn.toNatClampNeg) := by
  have e1 : sp.toNatClampNeg = a := by rw [own_cn (by omega)]; omega
  have e2 : dp.toNatClampNeg = b := by rw [own_cn (by omega)]; omega
  have e3 : nn.toNatClampNeg = c := by rw [own_cn (by omega)]; omega
  have e4 : kI.toNatClampNeg = K := by rw [own_cn (by omega)]; omega
  refine ⟨own_n0 (by omega), own_n0 (by omega), own_n0 (by omega), by omega, by omega, by rw [List.length_map]; omega, ?_⟩
  rw [e1, e2, e3]
  exact own_cpm (by omega)
theorem own_cp1 {K : Nat} {ws tim ord : List Int64} {u r kI : Int32} {t : Nat} {y : Int64} (hk : kI.toInt = (K : Int)) (hK4 : K ≤ 4) (hR : own_R K ws tim ord u.toInt.toNat t) (hsz : 0 ≤ u.toInt) (h : u = kI) (f : 0 ≤ r.toInt ∧ r.toInt < u.toInt.toNat ∧ ord[r.toInt.toNat]? = some y) :
    ¬ (r + (1 : Int32)) < 0 ∧ ¬ r < 0 ∧ ¬ ((u - r) - (1 : Int32)) < 0 ∧ (r + (1 : Int32)).toNatClampNeg + ((u - r) - (1 : Int32)).toNatClampNeg ≤ kI.toNatClampNeg ∧ r.toNatClampNeg + ((u - r) - (1 : Int32)).toNatClampNeg ≤ kI.toNatClampNeg ∧ r.toNatClampNeg + ((u - r) - (1 : Int32)).toNatClampNeg ≤ (ord.map Value.long).length ∧
    (own_cpy ord (r.toInt.toNat + 1) r.toInt.toNat (u.toInt.toNat - r.toInt.toNat - 1)).map Value.long = (ord.map Value.long).take r.toNatClampNeg ++ ((List.range ((u - r) - (1 : Int32)).toNatClampNeg).map fun i => (ord.map Value.long).getD ((r + (1 : Int32)).toNatClampNeg + i) (.long (0 : Int64))) ++ (ord.map Value.long).drop (r.toNatClampNeg + ((u - r) - (1 : Int32)).toNatClampNeg) := by
  have hs := own_sK hk hR h
  have a1 := c_iadd r 1; have a2 := rng32 (r + 1); rw [own_i1] at a1
  have b1 := c_isub u r; have b2 := rng32 (u - r)
  have b3 := c_isub (u - r) 1; have b4 := rng32 (u - r - 1); rw [own_i1] at b3
  exact own_cpG hk hR.2.1 (by omega) (by omega) (by omega) (by omega) (by omega)
def own_HJ (K : Nat) (ws tim l1 : List Int64) (s1 t : Nat) (v : Int64) (f : Int32) : Prop :=
  ∃ p : Nat, p ≤ s1 ∧ s1 < K ∧ t < K ∧ (0 ≤ f.toInt → f.toInt = p) ∧ (f.toInt < 0 → f.toInt = -(p : Int) - 1) ∧ own_R K (ws ++ [v]) (tim.set t v) ((own_cpy l1 p (p + 1) (s1 - p)).set p v) (s1 + 1) ((t + 1) % K)
def own_S1 (K : Nat) (l1 : List Int64) (s1 : Nat) (sv : Int32) : Prop := l1.length = K ∧ sv.toInt = (s1 : Int) ∧ s1 < K ∧ own_srt (l1.take s1)
theorem own_neq {K : Nat} {u kI : Int32} (hk : kI.toInt = (K : Int)) (hsz : 0 ≤ u.toInt) (h : ¬ u = kI) : u.toInt.toNat ≠ K := fun q => h (by rw [← Int32.toInt_inj]; omega)
theorem own_add1' {K : Nat} {ws tim ord : List Int64} {u kI : Int32} {t : Nat} {v : Int64} {f : Int32} (hk : kI.toInt = (K : Int)) (hK1 : 1 ≤ K) (hR : own_R K ws tim ord u.toInt.toNat t) (hsz : 0 ≤ u.toInt) (h : ¬ u = kI) (hb : own_bsa ord u.toInt.toNat v f) : own_HJ K ws tim ord u.toInt.toNat t v f :=
  own_add1 hK1 hR (own_neq hk hsz h) hb
theorem own_add2' {K : Nat} {ws tim ord : List Int64} {u kI : Int32} {t : Nat} {v x : Int64} {g f : Int32} (hk : kI.toInt = (K : Int)) (hK1 : 1 ≤ K) (hR : own_R K ws tim ord u.toInt.toNat t) (hsz : 0 ≤ u.toInt) (h : u = kI) (hx : tim[t]? = some x) (hg : 0 ≤ g.toInt ∧ g.toInt < u.toInt.toNat ∧ ord[g.toInt.toNat]? = some x)
    (hb : own_bsa (own_cpy ord (g.toInt.toNat + 1) g.toInt.toNat (u.toInt.toNat - g.toInt.toNat - 1)) (u.toInt.toNat - 1) v f) : own_HJ K ws tim (own_cpy ord (g.toInt.toNat + 1) g.toInt.toNat (u.toInt.toNat - g.toInt.toNat - 1)) (u.toInt.toNat - 1) t v f := by
  have hs := own_sK hk hR h
  obtain ⟨p, h1, h2, h3, h4⟩ := own_add2 hK1 hR hs hx hg hb
  obtain ⟨-, -, -, ht⟩ := own_old hK1 hR hs
  have e : u.toInt.toNat - 1 + 1 = u.toInt.toNat := by omega
  exact ⟨p, h1, by omega, ht, h2, h3, by rw [e]; exact h4⟩
theorem own_s1n {K : Nat} {ws tim ord : List Int64} {u kI : Int32} {t : Nat} (hk : kI.toInt = (K : Int)) (hK1 : 1 ≤ K) (hR : own_R K ws tim ord u.toInt.toNat t) (hsz : 0 ≤ u.toInt) (h : ¬ u = kI) : own_S1 K ord u.toInt.toNat u := by
  have := own_neq hk hsz h
  obtain ⟨r1, r2, r3, r4, r5, r6, r7⟩ := hR
  exact ⟨r2, by omega, by omega, r5⟩
theorem own_s1f {K : Nat} {ws tim ord : List Int64} {u g kI : Int32} {t : Nat} {x : Int64} (hk : kI.toInt = (K : Int)) (hK1 : 1 ≤ K) (hR : own_R K ws tim ord u.toInt.toNat t) (hsz : 0 ≤ u.toInt) (h : u = kI) (hg : 0 ≤ g.toInt ∧ g.toInt < u.toInt.toNat ∧ ord[g.toInt.toNat]? = some x) :
    own_S1 K (own_cpy ord (g.toInt.toNat + 1) g.toInt.toNat (u.toInt.toNat - g.toInt.toNat - 1)) (u.toInt.toNat - 1) (u - (1 : Int32)) := by
  have hs := own_sK hk hR h
  obtain ⟨r1, r2, r3, r4, r5, r6, r7⟩ := hR
  have b3 := c_isub u 1; have b4 := rng32 (u - 1); rw [own_i1] at b3
  have b5 := rng32 u
  exact ⟨(own_cpy_len (by omega) (by omega)).trans r2, by omega, by omega, List.Pairwise.sublist (own_rem_sub (by omega) (by omega)) r5⟩
theorem own_to1 {K : Nat} {ws tim ord : List Int64} {u kI : Int32} {t : Nat} (hk : kI.toInt = (K : Int)) (hR : own_R K ws tim ord u.toInt.toNat t) (hsz : 0 ≤ u.toInt) : 0 ≤ u.toInt ∧ u.toInt ≤ (K : Int) := by
  obtain ⟨r1, r2, r3, r4, r5, r6, r7⟩ := hR; omega
theorem own_to2 {K : Nat} {l1 : List Int64} {s1 : Nat} {sv : Int32} (h : own_S1 K l1 s1 sv) : 0 ≤ sv.toInt ∧ sv.toInt ≤ (K : Int) := by obtain ⟨h1, h2, h3, h4⟩ := h; omega
theorem own_s1s {K : Nat} {l1 : List Int64} {s1 : Nat} {sv : Int32} (h : own_S1 K l1 s1 sv) : own_srt (l1.take sv.toInt.toNat) := by
  obtain ⟨h1, h2, h3, h4⟩ := h
  have e : sv.toInt.toNat = s1 := by omega
  rw [e]; exact h4
theorem own_stn {K : Nat} {ws tim ord : List Int64} {nx kI : Int32} {u : Nat} (hk : kI.toInt = (K : Int)) (hK1 : 1 ≤ K) (hR : own_R K ws tim ord u nx.toInt.toNat) (hnx : 0 ≤ nx.toInt) : (¬ nx < 0 ∧ nx < kI) ∧ nx.toNatClampNeg = nx.toInt.toNat ∧ nx.toInt.toNat < tim.length := by
  obtain ⟨r1, r2, r3, r4, r5, r6, r7⟩ := hR
  have := Nat.mod_lt ws.length hK1
  exact ⟨⟨own_n0 hnx, by rw [Int32.lt_iff_toInt_lt]; omega⟩, own_cn hnx, by omega⟩
theorem own_kne {K : Nat} {kI : Int32} (hk : kI.toInt = (K : Int)) (hK1 : 1 ≤ K) : kI ≠ 0 := fun q => by rw [q, own_i0] at hk; omega
theorem own_plc {K : Nat} {ws tim l1 : List Int64} {s1 t : Nat} {v : Int64} {r z sv : Int32} (HJ : ∀ f, own_bsa l1 s1 v f → own_HJ K ws tim l1 s1 t v f) (hsv : own_S1 K l1 s1 sv) (hb : own_bsa l1 sv.toInt.toNat v r) (hz : z = (if r < (0 : Int32) then ((-r) - (1 : Int32)) else r)) :
    ∃ p : Nat, p ≤ s1 ∧ z.toInt = (p : Int) ∧ own_R K (ws ++ [v]) (tim.set t v) ((own_cpy l1 p (p + 1) (s1 - p)).set p v) (s1 + 1) ((t + 1) % K) := by
  obtain ⟨h1, h2, h3, h4⟩ := hsv
  have e : sv.toInt.toNat = s1 := by omega
  rw [e] at hb
  obtain ⟨p, q1, q2, q3, q4, q5, q6⟩ := HJ r hb
  refine ⟨p, q1, ?_, q6⟩
  by_cases hr : r < (0 : Int32)
  · rw [if_pos hr] at hz
    rw [Int32.lt_iff_toInt_lt, own_i0] at hr
    have a := q5 hr
    have b1 := c_ineg r; have b2 := rng32 (-r); have b3 := c_isub (-r) 1; have b4 := rng32 (-r - 1); rw [own_i1] at b3
    have b5 := rng32 r
    rw [hz]; omega
  · rw [if_neg hr] at hz
    rw [Int32.lt_iff_toInt_lt, own_i0] at hr
    rw [hz]; exact q4 (by omega)
theorem own_cp2 {K : Nat} {l1 : List Int64} {s1 p : Nat} {z sv kI : Int32} (hk : kI.toInt = (K : Int)) (hK4 : K ≤ 4) (hsv : own_S1 K l1 s1 sv) (hp1 : p ≤ s1) (hp2 : z.toInt = (p : Int)) :
    ¬ z < 0 ∧ ¬ (z + (1 : Int32)) < 0 ∧ ¬ (sv - z) < 0 ∧ z.toNatClampNeg + (sv - z).toNatClampNeg ≤ kI.toNatClampNeg ∧ (z + (1 : Int32)).toNatClampNeg + (sv - z).toNatClampNeg ≤ kI.toNatClampNeg ∧ (z + (1 : Int32)).toNatClampNeg + (sv - z).toNatClampNeg ≤ (l1.map Value.long).length ∧
    (own_cpy l1 p (p + 1) (s1 - p)).map Value.long = (l1.map Value.long).take (z + (1 : Int32)).toNatClampNeg ++ ((List.range (sv - z).toNatClampNeg).map fun i => (l1.map Value.long).getD (z.toNatClampNeg + i) (.long (0 : Int64))) ++ (l1.map Value.long).drop ((z + (1 : Int32)).toNatClampNeg + (sv - z).toNatClampNeg) := by
  obtain ⟨h1, h2, h3, h4⟩ := hsv
  have a1 := c_iadd z 1; have a2 := rng32 (z + 1); rw [own_i1] at a1
  have b1 := c_isub sv z; have b2 := rng32 (sv - z)
  exact own_cpG hk h1 hp2 (by omega) (by omega) (by omega) (by omega)
theorem own_stp2 {K : Nat} {l1 : List Int64} {s1 p : Nat} {z sv kI : Int32} (hk : kI.toInt = (K : Int)) (hK4 : K ≤ 4) (hsv : own_S1 K l1 s1 sv) (hp1 : p ≤ s1) (hp2 : z.toInt = (p : Int)) : (¬ z < 0 ∧ z < kI) ∧ z.toNatClampNeg = p ∧ p < (own_cpy l1 p (p + 1) (s1 - p)).length := by
  obtain ⟨h1, h2, h3, h4⟩ := hsv
  exact ⟨⟨own_n0 (by omega), by rw [Int32.lt_iff_toInt_lt]; omega⟩, by rw [own_cn (by omega)]; omega, by rw [own_cpy_len (by omega) (by omega)]; omega⟩
def own_RR (K : Nat) (ws tim ord : List Int64) (sz nx : Int32) : Prop := own_R K ws tim ord sz.toInt.toNat nx.toInt.toNat ∧ 0 ≤ sz.toInt ∧ 0 ≤ nx.toInt
theorem own_fin {K : Nat} {ws tim ord l1 : List Int64} {s1 p u : Nat} {v : Int64} {nx sv kI : Int32} (hk : kI.toInt = (K : Int)) (hK1 : 1 ≤ K) (hK4 : K ≤ 4) (hR : own_R K ws tim ord u nx.toInt.toNat) (hnx : 0 ≤ nx.toInt) (hsv : own_S1 K l1 s1 sv) (hp1 : p ≤ s1)
    (h : own_R K (ws ++ [v]) (tim.set nx.toInt.toNat v) ((own_cpy l1 p (p + 1) (s1 - p)).set p v) (s1 + 1) ((nx.toInt.toNat + 1) % K)) :
    own_RR K (ws ++ [v]) (tim.set nx.toInt.toNat v) ((own_cpy l1 p (p + 1) (s1 - p)).set p v) (sv + (1 : Int32)) ((nx + (1 : Int32)) % kI) := by
  obtain ⟨h1, h2, h3, h4⟩ := hsv
  obtain ⟨r1, r2, r3, r4, r5, r6, r7⟩ := hR
  have hm := Nat.mod_lt ws.length hK1
  have a1 := c_iadd sv 1; have a2 := rng32 (sv + 1); rw [own_i1] at a1
  have b1 := c_iadd nx 1; have b2 := rng32 (nx + 1); rw [own_i1] at b1
  have e1 : (nx + (1 : Int32)).toInt = nx.toInt + 1 := by omega
  have c1 := (c_irem (nx + 1) kI K hk).1 (by omega)
  rw [e1] at c1
  have e2 : (sv + (1 : Int32)).toInt.toNat = s1 + 1 := by omega
  have e3 : ((nx + (1 : Int32)) % kI).toInt.toNat = (nx.toInt.toNat + 1) % K := by
    rw [c1]
    have : nx.toInt + 1 = ((nx.toInt.toNat + 1 : Nat) : Int) := by omega
    rw [this, ← Int.natCast_emod, Int.toNat_natCast]
  refine ⟨by rw [e2, e3]; exact h, by omega, ?_⟩
  rw [c1]
  exact Int.emod_nonneg _ (by omega)
theorem own_pat {K : Nat} {ws tim ord : List Int64} {u kI : Int32} {t : Nat} (hk : kI.toInt = (K : Int)) (hK4 : K ≤ 4) (hR : own_R K ws tim ord u.toInt.toNat t) (hsz : 0 ≤ u.toInt) (h : (0 : Int32) < u) :
    ∃ y, ord[u.toInt.toNat - 1]? = some y ∧ (¬ ((((((95 : Int32) * u) + (99 : Int32)) / (100 : Int32)) - (1 : Int32)) < 0) ∧ (((((95 : Int32) * u) + (99 : Int32)) / (100 : Int32)) - (1 : Int32)) < kI) ∧ (ord.map Value.long).getD (((((95 : Int32) * u) + (99 : Int32)) / (100 : Int32)) - (1 : Int32)).toNatClampNeg (.long (0 : Int64)) = .long y := by
  obtain ⟨r1, r2, r3, r4, r5, r6, r7⟩ := hR
  rw [Int32.lt_iff_toInt_lt, own_i0] at h
  have k1 : (95 : Int32).toInt = 95 := rfl
  have k2 : (99 : Int32).toInt = 99 := rfl
  have k3 : (100 : Int32).toInt = 100 := rfl
  have a1 := c_imul 95 u; have a2 := rng32 (95 * u); rw [k1] at a1
  have a3 := c_iadd (95 * u) 99; have a4 := rng32 (95 * u + 99); rw [k2] at a3
  have a5 := (c_idiv (95 * u + 99) 100 100 k3 (by decide)).1
  have a6 := c_isub ((95 * u + 99) / 100) 1; have a7 := rng32 ((95 * u + 99) / 100 - 1); rw [own_i1] at a6
  have m1 : (95 * u).toInt = 95 * u.toInt := by omega
  have m2 : (95 * u + 99).toInt = 95 * u.toInt + 99 := by omega
  have m3 := a5 (by omega)
  have e : (((((95 : Int32) * u) + (99 : Int32)) / (100 : Int32)) - (1 : Int32)).toInt = u.toInt - 1 := by
    have : ((95 * u + 99) / 100).toInt = u.toInt := by rw [m3, m2]; omega
    omega
  have hl : u.toInt.toNat - 1 < ord.length := by omega
  refine ⟨ord[u.toInt.toNat - 1], List.getElem?_eq_getElem hl, ⟨own_n0 (by omega), by rw [Int32.lt_iff_toInt_lt]; omega⟩, ?_⟩
  rw [own_cn (by omega), e]
  have e2 : (u.toInt - 1).toNat = u.toInt.toNat - 1 := by omega
  rw [e2]
  exact own_getd (List.getElem?_eq_getElem hl)
def own_pm (K : Nat) (ws : List Int64) (z : Int64) : Prop := (ws = [] → z = 0) ∧ (ws ≠ [] → z ∈ own_win K ws ∧ ∀ y ∈ own_win K ws, y ≤ z)
theorem own_pm0 {K : Nat} {ws tim ord : List Int64} {u : Int32} {t : Nat} (hK1 : 1 ≤ K) (hR : own_R K ws tim ord u.toInt.toNat t) (hsz : 0 ≤ u.toInt) (h : ¬ (0 : Int32) < u) : own_pm K ws (0 : Int64) := by
  obtain ⟨r1, r2, r3, r4, r5, r6, r7⟩ := hR
  rw [Int32.lt_iff_toInt_lt, own_i0] at h
  have : ws.length = 0 := by omega
  exact ⟨fun _ => rfl, fun q => absurd (List.length_eq_zero_iff.mp this) q⟩
theorem own_pm1 {K : Nat} {ws tim ord : List Int64} {u : Int32} {t : Nat} {y : Int64} (hK1 : 1 ≤ K) (hR : own_R K ws tim ord u.toInt.toNat t) (hsz : 0 ≤ u.toInt) (h : (0 : Int32) < u) (hy : ord[u.toInt.toNat - 1]? = some y) : own_pm K ws y := by
  rw [Int32.lt_iff_toInt_lt, own_i0] at h
  obtain ⟨x, h1, h2, h3⟩ := own_last hR (by omega)
  cases h1.symm.trans hy
  refine ⟨fun q => ?_, fun _ => ⟨h2, h3⟩⟩
  rw [q] at h2; simp [own_win] at h2
theorem own_kk {i kI : Int32} (h : kI = ((i &&& (3 : Int32)) + (1 : Int32))) : ∃ K : Nat, kI.toInt = (K : Int) ∧ 1 ≤ K ∧ K ≤ 4 ∧ ¬ (kI < (1 : Int32)) ∧ ¬ (kI < (0 : Int32)) ∧ kI.toNatClampNeg ≤ 4 := by
  have h1 : (i &&& (3 : Int32)).toInt = i.toInt % 4 := c_mask i 3 2 (by decide) (by decide)
  have h2 := c_iadd (i &&& (3 : Int32)) 1; have h3 := rng32 ((i &&& (3 : Int32)) + 1); rw [own_i1] at h2
  have e : kI.toInt = i.toInt % 4 + 1 := by rw [h]; omega
  refine ⟨kI.toInt.toNat, by omega, by omega, by omega, by rw [Int32.lt_iff_toInt_lt, own_i1]; omega, own_n0 (by omega), by rw [own_cn (by omega)]; omega⟩
theorem own_nn {i nI : Int32} (h : nI = ((((i.toUInt32 >>> ((2 : Int32) &&& 31).toUInt32).toInt32) &&& (7 : Int32)) % (6 : Int32))) : ∃ N : Nat, nI.toInt = (N : Int) ∧ N ≤ 5 := by
  have h1 : (((i.toUInt32 >>> ((2 : Int32) &&& 31).toUInt32).toInt32) &&& (7 : Int32)).toInt = ((i.toUInt32 >>> ((2 : Int32) &&& 31).toUInt32).toInt32).toInt % 8 := c_mask _ 7 3 (by decide) (by decide)
  have h2 := (c_irem (((i.toUInt32 >>> ((2 : Int32) &&& 31).toUInt32).toInt32) &&& (7 : Int32)) 6 6 rfl).1 (by omega)
  have e : 0 ≤ nI.toInt ∧ nI.toInt ≤ 5 := by rw [h, h2]; omega
  exact ⟨nI.toInt.toNat, by omega, by omega⟩
theorem own_pad0 (K : Nat) : ∀ i, ((List.replicate K (0 : Int64)).map Value.long).getD i (.long (0 : Int64)) = ([] : List Value).getD i (.long (0 : Int64)) := fun i => by
  rw [List.map_replicate, List.getD_eq_getElem?_getD, List.getElem?_replicate]
  split <;> simp
theorem own_RRs (K NV : Nat) (xs : List Int64) : own_RR K (xs.take (min NV 0)) (List.replicate K 0) (List.replicate K 0) (0 : Int32) (0 : Int32) := by
  refine ⟨?_, by decide, by decide⟩
  have e : xs.take (min NV 0) = [] := by simp
  rw [e]
  exact own_R0 K
theorem own_tk1 {K NV k : Nat} {xs a b : List Int64} {x : Int64} {c nI s t : Int32} (hN : nI.toInt = (NV : Int)) (h : c < nI) (hx : xs[k]? = some x) (hc : c.toInt = (k : Int)) (R : own_RR K (xs.take (min NV k) ++ [x]) a b s t) : own_RR K (xs.take (min NV (k + 1))) a b s t := by
  rw [Int32.lt_iff_toInt_lt] at h
  have e1 : min NV k = k := by omega
  have e2 : min NV (k + 1) = k + 1 := by omega
  obtain ⟨hl, he⟩ := List.getElem?_eq_some_iff.mp hx
  rw [e1] at R
  rw [e2, List.take_succ_eq_append_getElem hl, he]
  exact R
theorem own_tk0 {K NV k : Nat} {xs a b : List Int64} {c nI s t : Int32} (hN : nI.toInt = (NV : Int)) (h : ¬ c < nI) (hc : c.toInt = (k : Int)) (R : own_RR K (xs.take (min NV k)) a b s t) : own_RR K (xs.take (min NV (k + 1))) a b s t := by
  rw [Int32.lt_iff_toInt_lt] at h
  have e1 : min NV k = NV := by omega
  have e2 : min NV (k + 1) = NV := by omega
  rw [e1] at R; rw [e2]; exact R
theorem own_stt (s n i : Int32) (b x : Int64) : (own_st1 s n i b x).toInt = if i.toInt < s.toInt then b.toInt else if i.toInt < n.toInt then (if b.toInt < x.toInt then x.toInt else b.toInt) else b.toInt := by
  unfold own_st1
  simp only [Int32.lt_iff_toInt_lt, Int64.lt_iff_toInt_lt]
  repeat' split
  all_goals first | rfl | omega
theorem own_final {K NV : Nat} {kI nI : Int32} {a b c d e z r : Int64} (hk : kI.toInt = (K : Int)) (hK1 : 1 ≤ K) (hK4 : K ≤ 4) (hN : nI.toInt = (NV : Int)) (hN5 : NV ≤ 5) (hp : own_pm K ([a, b, c, d, e].take (min NV 5)) z) (hr : r = own_exp kI nI a b c d e) : z = r := by
  by_cases h0 : NV = 0
  · have hn : nI = (0 : Int32) := by rw [← Int32.toInt_inj, own_i0]; omega
    rw [hr, own_exp0 hn]
    exact hp.1 (by subst h0; simp)
  · have hn : ¬ nI = (0 : Int32) := fun q => by rw [q, own_i0] at hN; omega
    rw [own_exp1 hn] at hr
    obtain ⟨s, hs⟩ : ∃ s : Int32, s = nI - (if kI < nI then kI else nI) := ⟨_, rfl⟩
    rw [← hs] at hr
    obtain ⟨m0, g0⟩ : ∃ m, m = own_st1 s nI 0 (-9223372036854775808 : Int64) a := ⟨_, rfl⟩
    rw [← g0] at hr
    obtain ⟨m1, g1⟩ : ∃ m, m = own_st1 s nI 1 m0 b := ⟨_, rfl⟩
    rw [← g1] at hr
    obtain ⟨m2, g2⟩ : ∃ m, m = own_st1 s nI 2 m1 c := ⟨_, rfl⟩
    rw [← g2] at hr
    obtain ⟨m3, g3⟩ : ∃ m, m = own_st1 s nI 3 m2 d := ⟨_, rfl⟩
    rw [← g3] at hr
    have es : s.toInt = (NV : Int) - (min K NV : Nat) := by
      have c1 := c_isub nI (if kI < nI then kI else nI); rw [← hs] at c1
      have c2 := rng32 s
      by_cases q : kI < nI
      · rw [if_pos q] at c1; rw [Int32.lt_iff_toInt_lt] at q; omega
      · rw [if_neg q] at c1; rw [Int32.lt_iff_toInt_lt] at q; omega
    have f0 := congrArg Int64.toInt g0; have f1 := congrArg Int64.toInt g1; have f2 := congrArg Int64.toInt g2; have f3 := congrArg Int64.toInt g3; have f4 := congrArg Int64.toInt hr
    rw [own_stt, es, hN] at f0 f1 f2 f3 f4
    have k0 : (0 : Int32).toInt = 0 := rfl
    have k1 : (1 : Int32).toInt = 1 := rfl
    have k2 : (2 : Int32).toInt = 2 := rfl
    have k3 : (3 : Int32).toInt = 3 := rfl
    have k4 : (4 : Int32).toInt = 4 := rfl
    have km : (-9223372036854775808 : Int64).toInt = -9223372036854775808 := rfl
    rw [k0, km] at f0; rw [k1] at f1; rw [k2] at f2; rw [k3] at f3; rw [k4] at f4
    have ra := rng64 a; have rb := rng64 b; have rc := rng64 c; have rd := rng64 d; have re := rng64 e
    have hp' := hp.2 (by
      intro q
      have := congrArg List.length q
      simp at this
      omega)
    clear hp hr g0 g1 g2 g3 hs es hn hk
    apply Int64.toInt_inj.mp
    obtain rfl | rfl | rfl | rfl : K = 1 ∨ K = 2 ∨ K = 3 ∨ K = 4 := by omega
    all_goals
      obtain rfl | rfl | rfl | rfl | rfl : NV = 1 ∨ NV = 2 ∨ NV = 3 ∨ NV = 4 ∨ NV = 5 := by omega
      all_goals
        simp [own_win] at hp'
        simp only [← Int64.toInt_inj, Int64.le_iff_toInt_le] at hp'
        simp at f0 f1 f2 f3 f4
        omega
def Q7 (Z : State) (q1 : Int32) (q2 : Int32) (q3 : Int32) (h0 : Heap) (n0 : Nat) (v : Option Value) (h : Heap) (L : List Loc) : Prop := v = none ∧ Fr n0 L ∧ h = h0
set_option maxRecDepth 65536 in
set_option maxHeartbeats 40000000 in
theorem rm7 (l : Launch) (Z : State) (a0 : Array Value) (hw : ∀ d ∈ tables_1, d.before a0 Z = true) (ws : List Jvm.Cond) (q1 : Int32) (q2 : Int32) (q3 : Int32) (h0 : Heap) (n0 : Nat) (Z0 : n0 ≤ h0.size) (h1 : ¬ (q3 < q2)) (h2 : ¬ (q2 < (0 : Int32))) (h3 : ¬ (q1 < q3)) :
    MetFree l (⟨"java/util/Arrays", "rangeCheck", "(III)V"⟩ : MethodName) (head1 (Jvm.Cond.code (⟨"java/util/Arrays", "rangeCheck", "(III)V"⟩ : MethodName) jdk_65_method_30_code 3 none :: ws) ({ frames := 0, cells := 0, slots := 0, locals := 0 } : Room)) (fun a U => a = #[(.int q1), (.int q2), (.int q3)] ∧ Z.Warmed39 U.vm ∧ U.heap = h0) (fun _ _ _ _ _ => True) (fun _ U o U' => ∃ v L, o = .returned v ∧ Q7 Z q1 q2 q3 h0 n0 v U'.heap L ∧ FrameEnd U o U' L ({ frames := 0, cells := 0, slots := 0, locals := 0 } : Room).cells ({ frames := 0, cells := 0, slots := 0, locals := 0 } : Room).slots) := by
  refine MetFree.of_bodySF (plainFor_of_name pn_7) hisR ?_
  intro p e s m args below meth c s₁ Bd hml0 hP hK
  obtain ⟨rfl, hZ, hh⟩ := hP
  have hx := Bd.exec
  have hby := Bd.bytes
  have hlk := BodyLoose.notSynchronized Bd
  have hml : c.maxLocals = 3 := hml0
  have hown : s.vm.findClass "java/util/Arrays" = some m.cls := findClass_of_methodNamed Bd.named
  have hnm := (name_of_methodNamed Bd.named Bd.method).1
  have X0 : Stand p l e ({ frames := 0, cells := 0, slots := 0, locals := 0 } : Room) s m #[(.int q1), (.int q2), (.int q3)] below meth c s₁ [] 0 0 := Stand.of_body Bd
  have e0 : s₁.heap = h0 := by rw [← hh, Bd.state]; rfl
  have N0 := Fr.nil n0
  have K0 := Keep.refl h0 []
  show own_G p.tables e below (own_P s (Q7 Z q1 q2 q3 h0 n0) 0 0) (s₁.setTop (entryFrame m #[(.int q1), (.int q2), (.int q3)] 3))
  refine own_st (fun t k => castTop (ef_7 m q1 q2 q3) k) ?_
  show own_G p.tables e below _ (s₁.setTop (mkF m 0 #[.val (.int q1), .val (.int q2), .val (.int q3)] []))
  refine own_st (fun _ k => XS.iloadN X0.here hx rfl (hb hby d7_0) rfl k) ?_
  show own_G p.tables e below _ (s₁.setTop (mkF m 1 #[.val (.int q1), .val (.int q2), .val (.int q3)] [(.int q2)]))
  refine own_st (fun _ k => XS.iloadN X0.here hx rfl (hb hby d7_1) rfl k) ?_
  show own_G p.tables e below _ (s₁.setTop (mkF m 2 #[.val (.int q1), .val (.int q2), .val (.int q3)] [(.int q3), (.int q2)]))
  have hf1 : ¬ (q3 < q2) := h1
  refine own_st (fun _ k => XS.icmpYes X0.here hx rfl (pc0 := 2) (pc' := 46) rfl (hb hby d7_2) rfl (flt hf1).2.2.2 (by decide) (by decide) k) ?_
  show own_G p.tables e below _ (s₁.setTop (mkF m 46 #[.val (.int q1), .val (.int q2), .val (.int q3)] []))
  refine own_st (fun _ k => XS.iloadN X0.here hx rfl (hb hby d7_46) rfl k) ?_
  show own_G p.tables e below _ (s₁.setTop (mkF m 47 #[.val (.int q1), .val (.int q2), .val (.int q3)] [(.int q2)]))
  have hf2 : ¬ (q2 < (0 : Int32)) := h2
  refine own_st (fun _ k => XS.ifYes X0.here hx rfl (pc0 := 47) (pc' := 59) rfl (hb hby d7_47) rfl ((if0 _ _).trans (flt hf2).2.1) (by decide) (by decide) k) ?_
  show own_G p.tables e below _ (s₁.setTop (mkF m 59 #[.val (.int q1), .val (.int q2), .val (.int q3)] []))
  refine own_st (fun _ k => XS.iloadN X0.here hx rfl (hb hby d7_59) rfl k) ?_
  show own_G p.tables e below _ (s₁.setTop (mkF m 60 #[.val (.int q1), .val (.int q2), .val (.int q3)] [(.int q3)]))
  refine own_st (fun _ k => XS.iloadN X0.here hx rfl (hb hby d7_60) rfl k) ?_
  show own_G p.tables e below _ (s₁.setTop (mkF m 61 #[.val (.int q1), .val (.int q2), .val (.int q3)] [(.int q1), (.int q3)]))
  have hf3 : ¬ (q1 < q3) := h3
  refine own_st (fun _ k => XS.icmpYes X0.here hx rfl (pc0 := 61) (pc' := 73) rfl (hb hby d7_61) rfl (flt hf3).2.2.2 (by decide) (by decide) k) ?_
  show own_G p.tables e below _ (s₁.setTop (mkF m 73 #[.val (.int q1), .val (.int q2), .val (.int q3)] []))
  exact own_retV X0 hx hlk Bd.returns (hb hby d7_73) (by rw [e0]; exact ⟨rfl, N0, rfl⟩) (by decide) (by decide)
def Q8 (Z : State) (a1 : Addr) (q1 : Int32) (q2 : Int64) (ka : ClassId) (kI : Int32) (K : Nat) (ord : List Int64) (h0 : Heap) (n0 : Nat) (v : Option Value) (h : Heap) (L : List Loc) : Prop := (∃ z : Int32, v = some (.int z) ∧ own_bsa ord q1.toInt.toNat q2 z) ∧ Fr n0 L ∧ h = h0
set_option maxRecDepth 65536 in
set_option maxHeartbeats 40000000 in
theorem rm8 (l : Launch) (Z : State) (a0 : Array Value) (hw : ∀ d ∈ tables_1, d.before a0 Z = true) (ws : List Jvm.Cond) (a1 : Addr) (q1 : Int32) (q2 : Int64) (ka : ClassId) (kI : Int32) (K : Nat) (ord : List Int64) (h0 : Heap) (n0 : Nat) (Z0 : n0 ≤ h0.size) (V_a1 : Arv Z h0 a1 ka .long kI (ord.map Value.long) (.long (0 : Int64))) (hk : kI.toInt = (K : Int)) (hK4 : K ≤ 4) (hl : ord.length = K) (hto : 0 ≤ q1.toInt ∧ q1.toInt ≤ (K : Int)) (hs : own_srt (ord.take q1.toInt.toNat)) :
    MetFree l (⟨"java/util/Arrays", "binarySearch0", "([JIIJ)I"⟩ : MethodName) (head1 (Jvm.Cond.code (⟨"java/util/Arrays", "binarySearch0", "([JIIJ)I"⟩ : MethodName) jdk_65_method_56_code 10 (some .int) :: ws) ({ frames := 0, cells := 0, slots := 0, locals := 0 } : Room)) (fun a U => a = #[(.ref a1), (.int (0 : Int32)), (.int q1), (.long q2)] ∧ Z.Warmed39 U.vm ∧ U.heap = h0) (fun _ _ _ _ _ => True) (fun _ U o U' => ∃ v L, o = .returned v ∧ Q8 Z a1 q1 q2 ka kI K ord h0 n0 v U'.heap L ∧ FrameEnd U o U' L ({ frames := 0, cells := 0, slots := 0, locals := 0 } : Room).cells ({ frames := 0, cells := 0, slots := 0, locals := 0 } : Room).slots) := by
  refine MetFree.of_bodySF (plainFor_of_name pn_8) hisR ?_
  intro p e s m args below meth c s₁ Bd hml0 hP hK
  obtain ⟨rfl, hZ, hh⟩ := hP
  have hx := Bd.exec
  have hby := Bd.bytes
  have hlk := BodyLoose.notSynchronized Bd
  have hml : c.maxLocals = 10 := hml0
  have hown : s.vm.findClass "java/util/Arrays" = some m.cls := findClass_of_methodNamed Bd.named
  have hnm := (name_of_methodNamed Bd.named Bd.method).1
  have X0 : Stand p l e ({ frames := 0, cells := 0, slots := 0, locals := 0 } : Room) s m #[(.ref a1), (.int (0 : Int32)), (.int q1), (.long q2)] below meth c s₁ [] 0 0 := Stand.of_body Bd
  have e0 : s₁.heap = h0 := by rw [← hh, Bd.state]; rfl
  have N0 := Fr.nil n0
  have K0 := Keep.refl h0 []
  show own_G p.tables e below (own_P s (Q8 Z a1 q1 q2 ka kI K ord h0 n0) 0 0) (s₁.setTop (entryFrame m #[(.ref a1), (.int (0 : Int32)), (.int q1), (.long q2)] 10))
  refine own_st (fun t k => castTop (ef_8 m a1 q1 q2) k) ?_
  show own_G p.tables e below _ (s₁.setTop (mkF m 0 #[.val (.ref a1), .val (.int (0 : Int32)), .val (.int q1), .val (.long q2), .second, .unset, .unset, .unset, .unset, .unset] []))
  have inv0 := own_bi0 (l := ord) (to := q1) (key := q2) hto.1 (by omega) (by omega)
  have LOOP : ∀ (k : Nat) (lo hi md : Int32) (mv : Int64), own_bi ord q1.toInt.toNat q2 lo hi → (hi.toInt + 1 - lo.toInt).toNat ≤ k → own_G p.tables e below (own_P s (Q8 Z a1 q1 q2 ka kI K ord h0 n0) 0 0) (s₁.setTop (mkF m 8 #[.val (.ref a1), .val (.int (0 : Int32)), .val (.int q1), .val (.long q2), .second, .val (.int lo), .val (.int hi), .val (.int md), .val (.long mv), .second] [])) := by
    intro k
    induction k with
    | zero =>
      intro lo hi md mv inv hkk
      show own_G p.tables e below _ (s₁.setTop (mkF m 8 #[.val (.ref a1), .val (.int (0 : Int32)), .val (.int q1), .val (.long q2), .second, .val (.int lo), .val (.int hi), .val (.int md), .val (.long mv), .second] []))
      refine own_st (fun _ k => XS.iload X0.here hx rfl (hb hby d8_8) rfl k) ?_
      show own_G p.tables e below _ (s₁.setTop (mkF m 10 #[.val (.ref a1), .val (.int (0 : Int32)), .val (.int q1), .val (.long q2), .second, .val (.int lo), .val (.int hi), .val (.int md), .val (.long mv), .second] [(.int lo)]))
      refine own_st (fun _ k => XS.iload X0.here hx rfl (hb hby d8_10) rfl k) ?_
      show own_G p.tables e below _ (s₁.setTop (mkF m 12 #[.val (.ref a1), .val (.int (0 : Int32)), .val (.int q1), .val (.long q2), .second, .val (.int lo), .val (.int hi), .val (.int md), .val (.long mv), .second] [(.int hi), (.int lo)]))
      have hf1 : hi < lo := own_bz inv hkk
      refine own_st (fun _ k => XS.icmpYes X0.here hx rfl (pc0 := 12) (pc' := 68) rfl (hb hby d8_12) rfl (tlt hf1).2.2.1 (by decide) (by decide) k) ?_
      show own_G p.tables e below _ (s₁.setTop (mkF m 68 #[.val (.ref a1), .val (.int (0 : Int32)), .val (.int q1), .val (.long q2), .second, .val (.int lo), .val (.int hi), .val (.int md), .val (.long mv), .second] []))
      refine own_st (fun _ k => XS.iload X0.here hx rfl (hb hby d8_68) rfl k) ?_
      show own_G p.tables e below _ (s₁.setTop (mkF m 70 #[.val (.ref a1), .val (.int (0 : Int32)), .val (.int q1), .val (.long q2), .second, .val (.int lo), .val (.int hi), .val (.int md), .val (.long mv), .second] [(.int lo)]))
      refine own_st (fun _ k => XS.iconst X0.here hx rfl (hb hby d8_70) k) ?_
      show own_G p.tables e below _ (s₁.setTop (mkF m 71 #[.val (.ref a1), .val (.int (0 : Int32)), .val (.int q1), .val (.long q2), .second, .val (.int lo), .val (.int hi), .val (.int md), .val (.long mv), .second] [(.int (1 : Int32)), (.int lo)]))
      refine own_st (fun _ k => XS.iadd X0.here hx rfl (hb hby d8_71) rfl k) ?_
      show own_G p.tables e below _ (s₁.setTop (mkF m 72 #[.val (.ref a1), .val (.int (0 : Int32)), .val (.int q1), .val (.long q2), .second, .val (.int lo), .val (.int hi), .val (.int md), .val (.long mv), .second] [(.int (lo + (1 : Int32)))]))
      refine own_st (fun _ k => XS.ineg X0.here hx rfl (hb hby d8_72) rfl k) ?_
      show own_G p.tables e below _ (s₁.setTop (mkF m 73 #[.val (.ref a1), .val (.int (0 : Int32)), .val (.int q1), .val (.long q2), .second, .val (.int lo), .val (.int hi), .val (.int md), .val (.long mv), .second] [(.int (-(lo + (1 : Int32))))]))
      exact own_retI X0 hx hlk Bd.returns (hb hby d8_73) (by rw [e0]; exact ⟨⟨_, rfl, own_bsn inv hf1⟩, N0, rfl⟩) (by decide) (by decide)
    | succ k ih =>
      intro lo hi md mv inv hkk
      show own_G p.tables e below _ (s₁.setTop (mkF m 8 #[.val (.ref a1), .val (.int (0 : Int32)), .val (.int q1), .val (.long q2), .second, .val (.int lo), .val (.int hi), .val (.int md), .val (.long mv), .second] []))
      refine own_st (fun _ k => XS.iload X0.here hx rfl (hb hby d8_8) rfl k) ?_
      show own_G p.tables e below _ (s₁.setTop (mkF m 10 #[.val (.ref a1), .val (.int (0 : Int32)), .val (.int q1), .val (.long q2), .second, .val (.int lo), .val (.int hi), .val (.int md), .val (.long mv), .second] [(.int lo)]))
      refine own_st (fun _ k => XS.iload X0.here hx rfl (hb hby d8_10) rfl k) ?_
      show own_G p.tables e below _ (s₁.setTop (mkF m 12 #[.val (.ref a1), .val (.int (0 : Int32)), .val (.int q1), .val (.long q2), .second, .val (.int lo), .val (.int hi), .val (.int md), .val (.long mv), .second] [(.int hi), (.int lo)]))
      by_cases hc12_2 : hi < lo
      · refine own_st (fun _ k => XS.icmpYes X0.here hx rfl (pc0 := 12) (pc' := 68) rfl (hb hby d8_12) rfl (tlt hc12_2).2.2.1 (by decide) (by decide) k) ?_
        show own_G p.tables e below _ (s₁.setTop (mkF m 68 #[.val (.ref a1), .val (.int (0 : Int32)), .val (.int q1), .val (.long q2), .second, .val (.int lo), .val (.int hi), .val (.int md), .val (.long mv), .second] []))
        refine own_st (fun _ k => XS.iload X0.here hx rfl (hb hby d8_68) rfl k) ?_
        show own_G p.tables e below _ (s₁.setTop (mkF m 70 #[.val (.ref a1), .val (.int (0 : Int32)), .val (.int q1), .val (.long q2), .second, .val (.int lo), .val (.int hi), .val (.int md), .val (.long mv), .second] [(.int lo)]))
        refine own_st (fun _ k => XS.iconst X0.here hx rfl (hb hby d8_70) k) ?_
        show own_G p.tables e below _ (s₁.setTop (mkF m 71 #[.val (.ref a1), .val (.int (0 : Int32)), .val (.int q1), .val (.long q2), .second, .val (.int lo), .val (.int hi), .val (.int md), .val (.long mv), .second] [(.int (1 : Int32)), (.int lo)]))
        refine own_st (fun _ k => XS.iadd X0.here hx rfl (hb hby d8_71) rfl k) ?_
        show own_G p.tables e below _ (s₁.setTop (mkF m 72 #[.val (.ref a1), .val (.int (0 : Int32)), .val (.int q1), .val (.long q2), .second, .val (.int lo), .val (.int hi), .val (.int md), .val (.long mv), .second] [(.int (lo + (1 : Int32)))]))
        refine own_st (fun _ k => XS.ineg X0.here hx rfl (hb hby d8_72) rfl k) ?_
        show own_G p.tables e below _ (s₁.setTop (mkF m 73 #[.val (.ref a1), .val (.int (0 : Int32)), .val (.int q1), .val (.long q2), .second, .val (.int lo), .val (.int hi), .val (.int md), .val (.long mv), .second] [(.int (-(lo + (1 : Int32))))]))
        exact own_retI X0 hx hlk Bd.returns (hb hby d8_73) (by rw [e0]; exact ⟨⟨_, rfl, own_bsn inv hc12_2⟩, N0, rfl⟩) (by decide) (by decide)
      · refine own_st (fun _ k => XS.icmpNo X0.here hx rfl (hb hby d8_12) rfl (flt hc12_2).2.2.1 k) ?_
        show own_G p.tables e below _ (s₁.setTop (mkF m 15 #[.val (.ref a1), .val (.int (0 : Int32)), .val (.int q1), .val (.long q2), .second, .val (.int lo), .val (.int hi), .val (.int md), .val (.long mv), .second] []))
        refine own_st (fun _ k => XS.iload X0.here hx rfl (hb hby d8_15) rfl k) ?_
        show own_G p.tables e below _ (s₁.setTop (mkF m 17 #[.val (.ref a1), .val (.int (0 : Int32)), .val (.int q1), .val (.long q2), .second, .val (.int lo), .val (.int hi), .val (.int md), .val (.long mv), .second] [(.int lo)]))
        refine own_st (fun _ k => XS.iload X0.here hx rfl (hb hby d8_17) rfl k) ?_
        show own_G p.tables e below _ (s₁.setTop (mkF m 19 #[.val (.ref a1), .val (.int (0 : Int32)), .val (.int q1), .val (.long q2), .second, .val (.int lo), .val (.int hi), .val (.int md), .val (.long mv), .second] [(.int hi), (.int lo)]))
        refine own_st (fun _ k => XS.iadd X0.here hx rfl (hb hby d8_19) rfl k) ?_
        show own_G p.tables e below _ (s₁.setTop (mkF m 20 #[.val (.ref a1), .val (.int (0 : Int32)), .val (.int q1), .val (.long q2), .second, .val (.int lo), .val (.int hi), .val (.int md), .val (.long mv), .second] [(.int (lo + hi))]))
        refine own_st (fun _ k => XS.iconst X0.here hx rfl (hb hby d8_20) k) ?_
        show own_G p.tables e below _ (s₁.setTop (mkF m 21 #[.val (.ref a1), .val (.int (0 : Int32)), .val (.int q1), .val (.long q2), .second, .val (.int lo), .val (.int hi), .val (.int md), .val (.long mv), .second] [(.int (1 : Int32)), (.int (lo + hi))]))
        refine own_st (fun _ k => XS.iushr X0.here hx rfl (hb hby d8_21) rfl k) ?_
        show own_G p.tables e below _ (s₁.setTop (mkF m 22 #[.val (.ref a1), .val (.int (0 : Int32)), .val (.int q1), .val (.long q2), .second, .val (.int lo), .val (.int hi), .val (.int md), .val (.long mv), .second] [(.int (((lo + hi).toUInt32 >>> ((1 : Int32) &&& 31).toUInt32).toInt32))]))
        refine own_st (fun _ k => XS.istore X0.here hx rfl (hb hby d8_22) rfl (l' := #[.val (.ref a1), .val (.int (0 : Int32)), .val (.int q1), .val (.long q2), .second, .val (.int lo), .val (.int hi), .val (.int (((lo + hi).toUInt32 >>> ((1 : Int32) &&& 31).toUInt32).toInt32)), .val (.long mv), .second]) rfl k) ?_
        show own_G p.tables e below _ (s₁.setTop (mkF m 24 #[.val (.ref a1), .val (.int (0 : Int32)), .val (.int q1), .val (.long q2), .second, .val (.int lo), .val (.int hi), .val (.int (((lo + hi).toUInt32 >>> ((1 : Int32) &&& 31).toUInt32).toInt32)), .val (.long mv), .second] []))
        refine own_st (fun _ k => XS.aloadN X0.here hx rfl (hb hby d8_24) rfl rfl k) ?_
        show own_G p.tables e below _ (s₁.setTop (mkF m 25 #[.val (.ref a1), .val (.int (0 : Int32)), .val (.int q1), .val (.long q2), .second, .val (.int lo), .val (.int hi), .val (.int (((lo + hi).toUInt32 >>> ((1 : Int32) &&& 31).toUInt32).toInt32)), .val (.long mv), .second] [(.ref a1)]))
        refine own_st (fun _ k => XS.iload X0.here hx rfl (hb hby d8_25) rfl k) ?_
        show own_G p.tables e below _ (s₁.setTop (mkF m 27 #[.val (.ref a1), .val (.int (0 : Int32)), .val (.int q1), .val (.long q2), .second, .val (.int lo), .val (.int hi), .val (.int (((lo + hi).toUInt32 >>> ((1 : Int32) &&& 31).toUInt32).toInt32)), .val (.long mv), .second] [(.int (((lo + hi).toUInt32 >>> ((1 : Int32) &&& 31).toUInt32).toInt32)), (.ref a1)]))
        obtain ⟨inb3, y3, hy3, hg3⟩ := own_bi_at hk hl inv hc12_2
        obtain ⟨cl3, Ar3, qk3, S3, Nn3, H3, G3⟩ := V_a1
        have hin3 := inb_of S3 inb3
        refine own_st (fun _ k => X0.laload hx (j := (((lo + hi).toUInt32 >>> ((1 : Int32) &&& 31).toUInt32).toInt32)) (v := (.long y3)) (by rw [e0]; exact Ar3.1) (State.isArrayOf_alike hZ.alike Ar3.2.1) Ar3.2.2 hin3 (Has.at H3 hin3 hg3) (g := (mkF m 27 #[.val (.ref a1), .val (.int (0 : Int32)), .val (.int q1), .val (.long q2), .second, .val (.int lo), .val (.int hi), .val (.int (((lo + hi).toUInt32 >>> ((1 : Int32) &&& 31).toUInt32).toInt32)), .val (.long mv), .second] [(.int (((lo + hi).toUInt32 >>> ((1 : Int32) &&& 31).toUInt32).toInt32)), (.ref a1)])) rfl rfl (hb hby d8_27) _ k) ?_
        show own_G p.tables e below _ (s₁.setTop (mkF m 28 #[.val (.ref a1), .val (.int (0 : Int32)), .val (.int q1), .val (.long q2), .second, .val (.int lo), .val (.int hi), .val (.int (((lo + hi).toUInt32 >>> ((1 : Int32) &&& 31).toUInt32).toInt32)), .val (.long mv), .second] [(.long y3)]))
        refine own_st (fun _ k => XS.lstore X0.here hx rfl (hb hby d8_28) rfl (l' := #[.val (.ref a1), .val (.int (0 : Int32)), .val (.int q1), .val (.long q2), .second, .val (.int lo), .val (.int hi), .val (.int (((lo + hi).toUInt32 >>> ((1 : Int32) &&& 31).toUInt32).toInt32)), .val (.long y3), .second]) rfl k) ?_
        show own_G p.tables e below _ (s₁.setTop (mkF m 30 #[.val (.ref a1), .val (.int (0 : Int32)), .val (.int q1), .val (.long q2), .second, .val (.int lo), .val (.int hi), .val (.int (((lo + hi).toUInt32 >>> ((1 : Int32) &&& 31).toUInt32).toInt32)), .val (.long y3), .second] []))
        refine own_st (fun _ k => XS.lload X0.here hx rfl (hb hby d8_30) rfl k) ?_
        show own_G p.tables e below _ (s₁.setTop (mkF m 32 #[.val (.ref a1), .val (.int (0 : Int32)), .val (.int q1), .val (.long q2), .second, .val (.int lo), .val (.int hi), .val (.int (((lo + hi).toUInt32 >>> ((1 : Int32) &&& 31).toUInt32).toInt32)), .val (.long y3), .second] [(.long y3)]))
        refine own_st (fun _ k => XS.lloadN X0.here hx rfl (hb hby d8_32) rfl k) ?_
        show own_G p.tables e below _ (s₁.setTop (mkF m 33 #[.val (.ref a1), .val (.int (0 : Int32)), .val (.int q1), .val (.long q2), .second, .val (.int lo), .val (.int hi), .val (.int (((lo + hi).toUInt32 >>> ((1 : Int32) &&& 31).toUInt32).toInt32)), .val (.long y3), .second] [(.long q2), (.long y3)]))
        refine own_st (fun _ k => XS.lcmp X0.here hx rfl (hb hby d8_33) rfl k) ?_
        show own_G p.tables e below _ (s₁.setTop (mkF m 34 #[.val (.ref a1), .val (.int (0 : Int32)), .val (.int q1), .val (.long q2), .second, .val (.int lo), .val (.int hi), .val (.int (((lo + hi).toUInt32 >>> ((1 : Int32) &&& 31).toUInt32).toInt32)), .val (.long y3), .second] [(.int (lcmpW y3 q2))]))
        by_cases hc34_4 : y3 < q2
        · refine own_st (fun _ k => XS.ifNo X0.here hx rfl (hb hby d8_34) rfl ((if0 _ _).trans (tlt ((lw_lt y3 q2).mpr hc34_4)).2.1) k) ?_
          show own_G p.tables e below _ (s₁.setTop (mkF m 37 #[.val (.ref a1), .val (.int (0 : Int32)), .val (.int q1), .val (.long q2), .second, .val (.int lo), .val (.int hi), .val (.int (((lo + hi).toUInt32 >>> ((1 : Int32) &&& 31).toUInt32).toInt32)), .val (.long y3), .second] []))
          refine own_st (fun _ k => XS.iload X0.here hx rfl (hb hby d8_37) rfl k) ?_
          show own_G p.tables e below _ (s₁.setTop (mkF m 39 #[.val (.ref a1), .val (.int (0 : Int32)), .val (.int q1), .val (.long q2), .second, .val (.int lo), .val (.int hi), .val (.int (((lo + hi).toUInt32 >>> ((1 : Int32) &&& 31).toUInt32).toInt32)), .val (.long y3), .second] [(.int (((lo + hi).toUInt32 >>> ((1 : Int32) &&& 31).toUInt32).toInt32))]))
          refine own_st (fun _ k => XS.iconst X0.here hx rfl (hb hby d8_39) k) ?_
          show own_G p.tables e below _ (s₁.setTop (mkF m 40 #[.val (.ref a1), .val (.int (0 : Int32)), .val (.int q1), .val (.long q2), .second, .val (.int lo), .val (.int hi), .val (.int (((lo + hi).toUInt32 >>> ((1 : Int32) &&& 31).toUInt32).toInt32)), .val (.long y3), .second] [(.int (1 : Int32)), (.int (((lo + hi).toUInt32 >>> ((1 : Int32) &&& 31).toUInt32).toInt32))]))
          refine own_st (fun _ k => XS.iadd X0.here hx rfl (hb hby d8_40) rfl k) ?_
          show own_G p.tables e below _ (s₁.setTop (mkF m 41 #[.val (.ref a1), .val (.int (0 : Int32)), .val (.int q1), .val (.long q2), .second, .val (.int lo), .val (.int hi), .val (.int (((lo + hi).toUInt32 >>> ((1 : Int32) &&& 31).toUInt32).toInt32)), .val (.long y3), .second] [(.int ((((lo + hi).toUInt32 >>> ((1 : Int32) &&& 31).toUInt32).toInt32) + (1 : Int32)))]))
          refine own_st (fun _ k => XS.istore X0.here hx rfl (hb hby d8_41) rfl (l' := #[.val (.ref a1), .val (.int (0 : Int32)), .val (.int q1), .val (.long q2), .second, .val (.int ((((lo + hi).toUInt32 >>> ((1 : Int32) &&& 31).toUInt32).toInt32) + (1 : Int32))), .val (.int hi), .val (.int (((lo + hi).toUInt32 >>> ((1 : Int32) &&& 31).toUInt32).toInt32)), .val (.long y3), .second]) rfl k) ?_
          show own_G p.tables e below _ (s₁.setTop (mkF m 43 #[.val (.ref a1), .val (.int (0 : Int32)), .val (.int q1), .val (.long q2), .second, .val (.int ((((lo + hi).toUInt32 >>> ((1 : Int32) &&& 31).toUInt32).toInt32) + (1 : Int32))), .val (.int hi), .val (.int (((lo + hi).toUInt32 >>> ((1 : Int32) &&& 31).toUInt32).toInt32)), .val (.long y3), .second] []))
          refine own_st (fun _ k => XS.goto X0.here hx rfl (pc0 := 43) (pc' := 65) rfl (hb hby d8_43) (by decide) (by decide) k) ?_
          show own_G p.tables e below _ (s₁.setTop (mkF m 65 #[.val (.ref a1), .val (.int (0 : Int32)), .val (.int q1), .val (.long q2), .second, .val (.int ((((lo + hi).toUInt32 >>> ((1 : Int32) &&& 31).toUInt32).toInt32) + (1 : Int32))), .val (.int hi), .val (.int (((lo + hi).toUInt32 >>> ((1 : Int32) &&& 31).toUInt32).toInt32)), .val (.long y3), .second] []))
          refine own_st (fun _ k => XS.goto X0.here hx rfl (pc0 := 65) (pc' := 8) rfl (hb hby d8_65) (by decide) (by decide) k) ?_
          show own_G p.tables e below _ (s₁.setTop (mkF m 8 #[.val (.ref a1), .val (.int (0 : Int32)), .val (.int q1), .val (.long q2), .second, .val (.int ((((lo + hi).toUInt32 >>> ((1 : Int32) &&& 31).toUInt32).toInt32) + (1 : Int32))), .val (.int hi), .val (.int (((lo + hi).toUInt32 >>> ((1 : Int32) &&& 31).toUInt32).toInt32)), .val (.long y3), .second] []))
          exact ih _ _ _ _ (own_bi_lo hs inv hc12_2 hy3 hc34_4) (own_mlo inv hc12_2 hkk)
        · refine own_st (fun _ k => XS.ifYes X0.here hx rfl (pc0 := 34) (pc' := 46) rfl (hb hby d8_34) rfl ((if0 _ _).trans (flt (fun q => hc34_4 ((lw_lt y3 q2).mp q))).2.1) (by decide) (by decide) k) ?_
          show own_G p.tables e below _ (s₁.setTop (mkF m 46 #[.val (.ref a1), .val (.int (0 : Int32)), .val (.int q1), .val (.long q2), .second, .val (.int lo), .val (.int hi), .val (.int (((lo + hi).toUInt32 >>> ((1 : Int32) &&& 31).toUInt32).toInt32)), .val (.long y3), .second] []))
          refine own_st (fun _ k => XS.lload X0.here hx rfl (hb hby d8_46) rfl k) ?_
          show own_G p.tables e below _ (s₁.setTop (mkF m 48 #[.val (.ref a1), .val (.int (0 : Int32)), .val (.int q1), .val (.long q2), .second, .val (.int lo), .val (.int hi), .val (.int (((lo + hi).toUInt32 >>> ((1 : Int32) &&& 31).toUInt32).toInt32)), .val (.long y3), .second] [(.long y3)]))
          refine own_st (fun _ k => XS.lloadN X0.here hx rfl (hb hby d8_48) rfl k) ?_
          show own_G p.tables e below _ (s₁.setTop (mkF m 49 #[.val (.ref a1), .val (.int (0 : Int32)), .val (.int q1), .val (.long q2), .second, .val (.int lo), .val (.int hi), .val (.int (((lo + hi).toUInt32 >>> ((1 : Int32) &&& 31).toUInt32).toInt32)), .val (.long y3), .second] [(.long q2), (.long y3)]))
          refine own_st (fun _ k => XS.lcmp X0.here hx rfl (hb hby d8_49) rfl k) ?_
          show own_G p.tables e below _ (s₁.setTop (mkF m 50 #[.val (.ref a1), .val (.int (0 : Int32)), .val (.int q1), .val (.long q2), .second, .val (.int lo), .val (.int hi), .val (.int (((lo + hi).toUInt32 >>> ((1 : Int32) &&& 31).toUInt32).toInt32)), .val (.long y3), .second] [(.int (lcmpW y3 q2))]))
          by_cases hc50_5 : q2 < y3
          · refine own_st (fun _ k => XS.ifNo X0.here hx rfl (hb hby d8_50) rfl ((if0 _ _).trans (tlt ((lw_gt y3 q2).mpr hc50_5)).2.2.2) k) ?_
            show own_G p.tables e below _ (s₁.setTop (mkF m 53 #[.val (.ref a1), .val (.int (0 : Int32)), .val (.int q1), .val (.long q2), .second, .val (.int lo), .val (.int hi), .val (.int (((lo + hi).toUInt32 >>> ((1 : Int32) &&& 31).toUInt32).toInt32)), .val (.long y3), .second] []))
            refine own_st (fun _ k => XS.iload X0.here hx rfl (hb hby d8_53) rfl k) ?_
            show own_G p.tables e below _ (s₁.setTop (mkF m 55 #[.val (.ref a1), .val (.int (0 : Int32)), .val (.int q1), .val (.long q2), .second, .val (.int lo), .val (.int hi), .val (.int (((lo + hi).toUInt32 >>> ((1 : Int32) &&& 31).toUInt32).toInt32)), .val (.long y3), .second] [(.int (((lo + hi).toUInt32 >>> ((1 : Int32) &&& 31).toUInt32).toInt32))]))
            refine own_st (fun _ k => XS.iconst X0.here hx rfl (hb hby d8_55) k) ?_
            show own_G p.tables e below _ (s₁.setTop (mkF m 56 #[.val (.ref a1), .val (.int (0 : Int32)), .val (.int q1), .val (.long q2), .second, .val (.int lo), .val (.int hi), .val (.int (((lo + hi).toUInt32 >>> ((1 : Int32) &&& 31).toUInt32).toInt32)), .val (.long y3), .second] [(.int (1 : Int32)), (.int (((lo + hi).toUInt32 >>> ((1 : Int32) &&& 31).toUInt32).toInt32))]))
            refine own_st (fun _ k => XS.isub X0.here hx rfl (hb hby d8_56) rfl k) ?_
            show own_G p.tables e below _ (s₁.setTop (mkF m 57 #[.val (.ref a1), .val (.int (0 : Int32)), .val (.int q1), .val (.long q2), .second, .val (.int lo), .val (.int hi), .val (.int (((lo + hi).toUInt32 >>> ((1 : Int32) &&& 31).toUInt32).toInt32)), .val (.long y3), .second] [(.int ((((lo + hi).toUInt32 >>> ((1 : Int32) &&& 31).toUInt32).toInt32) - (1 : Int32)))]))
            refine own_st (fun _ k => XS.istore X0.here hx rfl (hb hby d8_57) rfl (l' := #[.val (.ref a1), .val (.int (0 : Int32)), .val (.int q1), .val (.long q2), .second, .val (.int lo), .val (.int ((((lo + hi).toUInt32 >>> ((1 : Int32) &&& 31).toUInt32).toInt32) - (1 : Int32))), .val (.int (((lo + hi).toUInt32 >>> ((1 : Int32) &&& 31).toUInt32).toInt32)), .val (.long y3), .second]) rfl k) ?_
            show own_G p.tables e below _ (s₁.setTop (mkF m 59 #[.val (.ref a1), .val (.int (0 : Int32)), .val (.int q1), .val (.long q2), .second, .val (.int lo), .val (.int ((((lo + hi).toUInt32 >>> ((1 : Int32) &&& 31).toUInt32).toInt32) - (1 : Int32))), .val (.int (((lo + hi).toUInt32 >>> ((1 : Int32) &&& 31).toUInt32).toInt32)), .val (.long y3), .second] []))
            refine own_st (fun _ k => XS.goto X0.here hx rfl (pc0 := 59) (pc' := 65) rfl (hb hby d8_59) (by decide) (by decide) k) ?_
            show own_G p.tables e below _ (s₁.setTop (mkF m 65 #[.val (.ref a1), .val (.int (0 : Int32)), .val (.int q1), .val (.long q2), .second, .val (.int lo), .val (.int ((((lo + hi).toUInt32 >>> ((1 : Int32) &&& 31).toUInt32).toInt32) - (1 : Int32))), .val (.int (((lo + hi).toUInt32 >>> ((1 : Int32) &&& 31).toUInt32).toInt32)), .val (.long y3), .second] []))
            refine own_st (fun _ k => XS.goto X0.here hx rfl (pc0 := 65) (pc' := 8) rfl (hb hby d8_65) (by decide) (by decide) k) ?_
            show own_G p.tables e below _ (s₁.setTop (mkF m 8 #[.val (.ref a1), .val (.int (0 : Int32)), .val (.int q1), .val (.long q2), .second, .val (.int lo), .val (.int ((((lo + hi).toUInt32 >>> ((1 : Int32) &&& 31).toUInt32).toInt32) - (1 : Int32))), .val (.int (((lo + hi).toUInt32 >>> ((1 : Int32) &&& 31).toUInt32).toInt32)), .val (.long y3), .second] []))
            exact ih _ _ _ _ (own_bi_hi hs inv hc12_2 hy3 hc50_5) (own_mhi inv hc12_2 hkk)
          · refine own_st (fun _ k => XS.ifYes X0.here hx rfl (pc0 := 50) (pc' := 62) rfl (hb hby d8_50) rfl ((if0 _ _).trans (flt (fun q => hc50_5 ((lw_gt y3 q2).mp q))).2.2.2) (by decide) (by decide) k) ?_
            show own_G p.tables e below _ (s₁.setTop (mkF m 62 #[.val (.ref a1), .val (.int (0 : Int32)), .val (.int q1), .val (.long q2), .second, .val (.int lo), .val (.int hi), .val (.int (((lo + hi).toUInt32 >>> ((1 : Int32) &&& 31).toUInt32).toInt32)), .val (.long y3), .second] []))
            refine own_st (fun _ k => XS.iload X0.here hx rfl (hb hby d8_62) rfl k) ?_
            show own_G p.tables e below _ (s₁.setTop (mkF m 64 #[.val (.ref a1), .val (.int (0 : Int32)), .val (.int q1), .val (.long q2), .second, .val (.int lo), .val (.int hi), .val (.int (((lo + hi).toUInt32 >>> ((1 : Int32) &&& 31).toUInt32).toInt32)), .val (.long y3), .second] [(.int (((lo + hi).toUInt32 >>> ((1 : Int32) &&& 31).toUInt32).toInt32))]))
            exact own_retI X0 hx hlk Bd.returns (hb hby d8_64) (by rw [e0]; exact ⟨⟨_, rfl, own_bsf inv hc12_2 hy3 hc34_4 hc50_5⟩, N0, rfl⟩) (by decide) (by decide)
  refine own_st (fun _ k => XS.iloadN X0.here hx rfl (hb hby d8_0) rfl k) ?_
  show own_G p.tables e below _ (s₁.setTop (mkF m 1 #[.val (.ref a1), .val (.int (0 : Int32)), .val (.int q1), .val (.long q2), .second, .unset, .unset, .unset, .unset, .unset] [(.int (0 : Int32))]))
  refine own_st (fun _ k => XS.istore X0.here hx rfl (hb hby d8_1) rfl (l' := #[.val (.ref a1), .val (.int (0 : Int32)), .val (.int q1), .val (.long q2), .second, .val (.int (0 : Int32)), .unset, .unset, .unset, .unset]) rfl k) ?_
  show own_G p.tables e below _ (s₁.setTop (mkF m 3 #[.val (.ref a1), .val (.int (0 : Int32)), .val (.int q1), .val (.long q2), .second, .val (.int (0 : Int32)), .unset, .unset, .unset, .unset] []))
  refine own_st (fun _ k => XS.iloadN X0.here hx rfl (hb hby d8_3) rfl k) ?_
  show own_G p.tables e below _ (s₁.setTop (mkF m 4 #[.val (.ref a1), .val (.int (0 : Int32)), .val (.int q1), .val (.long q2), .second, .val (.int (0 : Int32)), .unset, .unset, .unset, .unset] [(.int q1)]))
  refine own_st (fun _ k => XS.iconst X0.here hx rfl (hb hby d8_4) k) ?_
  show own_G p.tables e below _ (s₁.setTop (mkF m 5 #[.val (.ref a1), .val (.int (0 : Int32)), .val (.int q1), .val (.long q2), .second, .val (.int (0 : Int32)), .unset, .unset, .unset, .unset] [(.int (1 : Int32)), (.int q1)]))
  refine own_st (fun _ k => XS.isub X0.here hx rfl (hb hby d8_5) rfl k) ?_
  show own_G p.tables e below _ (s₁.setTop (mkF m 6 #[.val (.ref a1), .val (.int (0 : Int32)), .val (.int q1), .val (.long q2), .second, .val (.int (0 : Int32)), .unset, .unset, .unset, .unset] [(.int (q1 - (1 : Int32)))]))
  refine own_st (fun _ k => XS.istore X0.here hx rfl (hb hby d8_6) rfl (l' := #[.val (.ref a1), .val (.int (0 : Int32)), .val (.int q1), .val (.long q2), .second, .val (.int (0 : Int32)), .val (.int (q1 - (1 : Int32))), .unset, .unset, .unset]) rfl k) ?_
  show own_G p.tables e below _ (s₁.setTop (mkF m 8 #[.val (.ref a1), .val (.int (0 : Int32)), .val (.int q1), .val (.long q2), .second, .val (.int (0 : Int32)), .val (.int (q1 - (1 : Int32))), .unset, .unset, .unset] []))
  refine own_st (fun _ k => XS.iload X0.here hx rfl (hb hby d8_8) rfl k) ?_
  show own_G p.tables e below _ (s₁.setTop (mkF m 10 #[.val (.ref a1), .val (.int (0 : Int32)), .val (.int q1), .val (.long q2), .second, .val (.int (0 : Int32)), .val (.int (q1 - (1 : Int32))), .unset, .unset, .unset] [(.int (0 : Int32))]))
  refine own_st (fun _ k => XS.iload X0.here hx rfl (hb hby d8_10) rfl k) ?_
  show own_G p.tables e below _ (s₁.setTop (mkF m 12 #[.val (.ref a1), .val (.int (0 : Int32)), .val (.int q1), .val (.long q2), .second, .val (.int (0 : Int32)), .val (.int (q1 - (1 : Int32))), .unset, .unset, .unset] [(.int (q1 - (1 : Int32))), (.int (0 : Int32))]))
  by_cases hc12_6 : (q1 - (1 : Int32)) < (0 : Int32)
  · refine own_st (fun _ k => XS.icmpYes X0.here hx rfl (pc0 := 12) (pc' := 68) rfl (hb hby d8_12) rfl (tlt hc12_6).2.2.1 (by decide) (by decide) k) ?_
    show own_G p.tables e below _ (s₁.setTop (mkF m 68 #[.val (.ref a1), .val (.int (0 : Int32)), .val (.int q1), .val (.long q2), .second, .val (.int (0 : Int32)), .val (.int (q1 - (1 : Int32))), .unset, .unset, .unset] []))
    refine own_st (fun _ k => XS.iload X0.here hx rfl (hb hby d8_68) rfl k) ?_
    show own_G p.tables e below _ (s₁.setTop (mkF m 70 #[.val (.ref a1), .val (.int (0 : Int32)), .val (.int q1), .val (.long q2), .second, .val (.int (0 : Int32)), .val (.int (q1 - (1 : Int32))), .unset, .unset, .unset] [(.int (0 : Int32))]))
    refine own_st (fun _ k => XS.iconst X0.here hx rfl (hb hby d8_70) k) ?_
    show own_G p.tables e below _ (s₁.setTop (mkF m 71 #[.val (.ref a1), .val (.int (0 : Int32)), .val (.int q1), .val (.long q2), .second, .val (.int (0 : Int32)), .val (.int (q1 - (1 : Int32))), .unset, .unset, .unset] [(.int (1 : Int32)), (.int (0 : Int32))]))
    refine own_st (fun _ k => XS.iadd X0.here hx rfl (hb hby d8_71) rfl k) ?_
    show own_G p.tables e below _ (s₁.setTop (mkF m 72 #[.val (.ref a1), .val (.int (0 : Int32)), .val (.int q1), .val (.long q2), .second, .val (.int (0 : Int32)), .val (.int (q1 - (1 : Int32))), .unset, .unset, .unset] [(.int (1 : Int32))]))
    refine own_st (fun _ k => XS.ineg X0.here hx rfl (hb hby d8_72) rfl k) ?_
    show own_G p.tables e below _ (s₁.setTop (mkF m 73 #[.val (.ref a1), .val (.int (0 : Int32)), .val (.int q1), .val (.long q2), .second, .val (.int (0 : Int32)), .val (.int (q1 - (1 : Int32))), .unset, .unset, .unset] [(.int (-(1 : Int32)))]))
    exact own_retI X0 hx hlk Bd.returns (hb hby d8_73) (by rw [e0]; exact ⟨⟨_, rfl, own_bsn0 inv0 hc12_6⟩, N0, rfl⟩) (by decide) (by decide)
  · refine own_st (fun _ k => XS.icmpNo X0.here hx rfl (hb hby d8_12) rfl (flt hc12_6).2.2.1 k) ?_
    show own_G p.tables e below _ (s₁.setTop (mkF m 15 #[.val (.ref a1), .val (.int (0 : Int32)), .val (.int q1), .val (.long q2), .second, .val (.int (0 : Int32)), .val (.int (q1 - (1 : Int32))), .unset, .unset, .unset] []))
    refine own_st (fun _ k => XS.iload X0.here hx rfl (hb hby d8_15) rfl k) ?_
    show own_G p.tables e below _ (s₁.setTop (mkF m 17 #[.val (.ref a1), .val (.int (0 : Int32)), .val (.int q1), .val (.long q2), .second, .val (.int (0 : Int32)), .val (.int (q1 - (1 : Int32))), .unset, .unset, .unset] [(.int (0 : Int32))]))
    refine own_st (fun _ k => XS.iload X0.here hx rfl (hb hby d8_17) rfl k) ?_
    show own_G p.tables e below _ (s₁.setTop (mkF m 19 #[.val (.ref a1), .val (.int (0 : Int32)), .val (.int q1), .val (.long q2), .second, .val (.int (0 : Int32)), .val (.int (q1 - (1 : Int32))), .unset, .unset, .unset] [(.int (q1 - (1 : Int32))), (.int (0 : Int32))]))
    refine own_st (fun _ k => XS.iadd X0.here hx rfl (hb hby d8_19) rfl k) ?_
    show own_G p.tables e below _ (s₁.setTop (mkF m 20 #[.val (.ref a1), .val (.int (0 : Int32)), .val (.int q1), .val (.long q2), .second, .val (.int (0 : Int32)), .val (.int (q1 - (1 : Int32))), .unset, .unset, .unset] [(.int ((0 : Int32) + (q1 - (1 : Int32))))]))
    refine own_st (fun _ k => XS.iconst X0.here hx rfl (hb hby d8_20) k) ?_
    show own_G p.tables e below _ (s₁.setTop (mkF m 21 #[.val (.ref a1), .val (.int (0 : Int32)), .val (.int q1), .val (.long q2), .second, .val (.int (0 : Int32)), .val (.int (q1 - (1 : Int32))), .unset, .unset, .unset] [(.int (1 : Int32)), (.int ((0 : Int32) + (q1 - (1 : Int32))))]))
    refine own_st (fun _ k => XS.iushr X0.here hx rfl (hb hby d8_21) rfl k) ?_
    show own_G p.tables e below _ (s₁.setTop (mkF m 22 #[.val (.ref a1), .val (.int (0 : Int32)), .val (.int q1), .val (.long q2), .second, .val (.int (0 : Int32)), .val (.int (q1 - (1 : Int32))), .unset, .unset, .unset] [(.int ((((0 : Int32) + (q1 - (1 : Int32))).toUInt32 >>> ((1 : Int32) &&& 31).toUInt32).toInt32))]))
    refine own_st (fun _ k => XS.istore X0.here hx rfl (hb hby d8_22) rfl (l' := #[.val (.ref a1), .val (.int (0 : Int32)), .val (.int q1), .val (.long q2), .second, .val (.int (0 : Int32)), .val (.int (q1 - (1 : Int32))), .val (.int ((((0 : Int32) + (q1 - (1 : Int32))).toUInt32 >>> ((1 : Int32) &&& 31).toUInt32).toInt32)), .unset, .unset]) rfl k) ?_
    show own_G p.tables e below _ (s₁.setTop (mkF m 24 #[.val (.ref a1), .val (.int (0 : Int32)), .val (.int q1), .val (.long q2), .second, .val (.int (0 : Int32)), .val (.int (q1 - (1 : Int32))), .val (.int ((((0 : Int32) + (q1 - (1 : Int32))).toUInt32 >>> ((1 : Int32) &&& 31).toUInt32).toInt32)), .unset, .unset] []))
    refine own_st (fun _ k => XS.aloadN X0.here hx rfl (hb hby d8_24) rfl rfl k) ?_
    show own_G p.tables e below _ (s₁.setTop (mkF m 25 #[.val (.ref a1), .val (.int (0 : Int32)), .val (.int q1), .val (.long q2), .second, .val (.int (0 : Int32)), .val (.int (q1 - (1 : Int32))), .val (.int ((((0 : Int32) + (q1 - (1 : Int32))).toUInt32 >>> ((1 : Int32) &&& 31).toUInt32).toInt32)), .unset, .unset] [(.ref a1)]))
    refine own_st (fun _ k => XS.iload X0.here hx rfl (hb hby d8_25) rfl k) ?_
    show own_G p.tables e below _ (s₁.setTop (mkF m 27 #[.val (.ref a1), .val (.int (0 : Int32)), .val (.int q1), .val (.long q2), .second, .val (.int (0 : Int32)), .val (.int (q1 - (1 : Int32))), .val (.int ((((0 : Int32) + (q1 - (1 : Int32))).toUInt32 >>> ((1 : Int32) &&& 31).toUInt32).toInt32)), .unset, .unset] [(.int ((((0 : Int32) + (q1 - (1 : Int32))).toUInt32 >>> ((1 : Int32) &&& 31).toUInt32).toInt32)), (.ref a1)]))
    obtain ⟨inb7, y7, hy7, hg7⟩ := own_bi_at hk hl inv0 hc12_6
    obtain ⟨cl7, Ar7, qk7, S7, Nn7, H7, G7⟩ := V_a1
    have hin7 := inb_of S7 inb7
    refine own_st (fun _ k => X0.laload hx (j := ((((0 : Int32) + (q1 - (1 : Int32))).toUInt32 >>> ((1 : Int32) &&& 31).toUInt32).toInt32)) (v := (.long y7)) (by rw [e0]; exact Ar7.1) (State.isArrayOf_alike hZ.alike Ar7.2.1) Ar7.2.2 hin7 (Has.at H7 hin7 hg7) (g := (mkF m 27 #[.val (.ref a1), .val (.int (0 : Int32)), .val (.int q1), .val (.long q2), .second, .val (.int (0 : Int32)), .val (.int (q1 - (1 : Int32))), .val (.int ((((0 : Int32) + (q1 - (1 : Int32))).toUInt32 >>> ((1 : Int32) &&& 31).toUInt32).toInt32)), .unset, .unset] [(.int ((((0 : Int32) + (q1 - (1 : Int32))).toUInt32 >>> ((1 : Int32) &&& 31).toUInt32).toInt32)), (.ref a1)])) rfl rfl (hb hby d8_27) _ k) ?_
    show own_G p.tables e below _ (s₁.setTop (mkF m 28 #[.val (.ref a1), .val (.int (0 : Int32)), .val (.int q1), .val (.long q2), .second, .val (.int (0 : Int32)), .val (.int (q1 - (1 : Int32))), .val (.int ((((0 : Int32) + (q1 - (1 : Int32))).toUInt32 >>> ((1 : Int32) &&& 31).toUInt32).toInt32)), .unset, .unset] [(.long y7)]))
    refine own_st (fun _ k => XS.lstore X0.here hx rfl (hb hby d8_28) rfl (l' := #[.val (.ref a1), .val (.int (0 : Int32)), .val (.int q1), .val (.long q2), .second, .val (.int (0 : Int32)), .val (.int (q1 - (1 : Int32))), .val (.int ((((0 : Int32) + (q1 - (1 : Int32))).toUInt32 >>> ((1 : Int32) &&& 31).toUInt32).toInt32)), .val (.long y7), .second]) rfl k) ?_
    show own_G p.tables e below _ (s₁.setTop (mkF m 30 #[.val (.ref a1), .val (.int (0 : Int32)), .val (.int q1), .val (.long q2), .second, .val (.int (0 : Int32)), .val (.int (q1 - (1 : Int32))), .val (.int ((((0 : Int32) + (q1 - (1 : Int32))).toUInt32 >>> ((1 : Int32) &&& 31).toUInt32).toInt32)), .val (.long y7), .second] []))
    refine own_st (fun _ k => XS.lload X0.here hx rfl (hb hby d8_30) rfl k) ?_
    show own_G p.tables e below _ (s₁.setTop (mkF m 32 #[.val (.ref a1), .val (.int (0 : Int32)), .val (.int q1), .val (.long q2), .second, .val (.int (0 : Int32)), .val (.int (q1 - (1 : Int32))), .val (.int ((((0 : Int32) + (q1 - (1 : Int32))).toUInt32 >>> ((1 : Int32) &&& 31).toUInt32).toInt32)), .val (.long y7), .second] [(.long y7)]))
    refine own_st (fun _ k => XS.lloadN X0.here hx rfl (hb hby d8_32) rfl k) ?_
    show own_G p.tables e below _ (s₁.setTop (mkF m 33 #[.val (.ref a1), .val (.int (0 : Int32)), .val (.int q1), .val (.long q2), .second, .val (.int (0 : Int32)), .val (.int (q1 - (1 : Int32))), .val (.int ((((0 : Int32) + (q1 - (1 : Int32))).toUInt32 >>> ((1 : Int32) &&& 31).toUInt32).toInt32)), .val (.long y7), .second] [(.long q2), (.long y7)]))
    refine own_st (fun _ k => XS.lcmp X0.here hx rfl (hb hby d8_33) rfl k) ?_
    show own_G p.tables e below _ (s₁.setTop (mkF m 34 #[.val (.ref a1), .val (.int (0 : Int32)), .val (.int q1), .val (.long q2), .second, .val (.int (0 : Int32)), .val (.int (q1 - (1 : Int32))), .val (.int ((((0 : Int32) + (q1 - (1 : Int32))).toUInt32 >>> ((1 : Int32) &&& 31).toUInt32).toInt32)), .val (.long y7), .second] [(.int (lcmpW y7 q2))]))
    by_cases hc34_8 : y7 < q2
    · refine own_st (fun _ k => XS.ifNo X0.here hx rfl (hb hby d8_34) rfl ((if0 _ _).trans (tlt ((lw_lt y7 q2).mpr hc34_8)).2.1) k) ?_
      show own_G p.tables e below _ (s₁.setTop (mkF m 37 #[.val (.ref a1), .val (.int (0 : Int32)), .val (.int q1), .val (.long q2), .second, .val (.int (0 : Int32)), .val (.int (q1 - (1 : Int32))), .val (.int ((((0 : Int32) + (q1 - (1 : Int32))).toUInt32 >>> ((1 : Int32) &&& 31).toUInt32).toInt32)), .val (.long y7), .second] []))
      refine own_st (fun _ k => XS.iload X0.here hx rfl (hb hby d8_37) rfl k) ?_
      show own_G p.tables e below _ (s₁.setTop (mkF m 39 #[.val (.ref a1), .val (.int (0 : Int32)), .val (.int q1), .val (.long q2), .second, .val (.int (0 : Int32)), .val (.int (q1 - (1 : Int32))), .val (.int ((((0 : Int32) + (q1 - (1 : Int32))).toUInt32 >>> ((1 : Int32) &&& 31).toUInt32).toInt32)), .val (.long y7), .second] [(.int ((((0 : Int32) + (q1 - (1 : Int32))).toUInt32 >>> ((1 : Int32) &&& 31).toUInt32).toInt32))]))
      refine own_st (fun _ k => XS.iconst X0.here hx rfl (hb hby d8_39) k) ?_
      show own_G p.tables e below _ (s₁.setTop (mkF m 40 #[.val (.ref a1), .val (.int (0 : Int32)), .val (.int q1), .val (.long q2), .second, .val (.int (0 : Int32)), .val (.int (q1 - (1 : Int32))), .val (.int ((((0 : Int32) + (q1 - (1 : Int32))).toUInt32 >>> ((1 : Int32) &&& 31).toUInt32).toInt32)), .val (.long y7), .second] [(.int (1 : Int32)), (.int ((((0 : Int32) + (q1 - (1 : Int32))).toUInt32 >>> ((1 : Int32) &&& 31).toUInt32).toInt32))]))
      refine own_st (fun _ k => XS.iadd X0.here hx rfl (hb hby d8_40) rfl k) ?_
      show own_G p.tables e below _ (s₁.setTop (mkF m 41 #[.val (.ref a1), .val (.int (0 : Int32)), .val (.int q1), .val (.long q2), .second, .val (.int (0 : Int32)), .val (.int (q1 - (1 : Int32))), .val (.int ((((0 : Int32) + (q1 - (1 : Int32))).toUInt32 >>> ((1 : Int32) &&& 31).toUInt32).toInt32)), .val (.long y7), .second] [(.int (((((0 : Int32) + (q1 - (1 : Int32))).toUInt32 >>> ((1 : Int32) &&& 31).toUInt32).toInt32) + (1 : Int32)))]))
      refine own_st (fun _ k => XS.istore X0.here hx rfl (hb hby d8_41) rfl (l' := #[.val (.ref a1), .val (.int (0 : Int32)), .val (.int q1), .val (.long q2), .second, .val (.int (((((0 : Int32) + (q1 - (1 : Int32))).toUInt32 >>> ((1 : Int32) &&& 31).toUInt32).toInt32) + (1 : Int32))), .val (.int (q1 - (1 : Int32))), .val (.int ((((0 : Int32) + (q1 - (1 : Int32))).toUInt32 >>> ((1 : Int32) &&& 31).toUInt32).toInt32)), .val (.long y7), .second]) rfl k) ?_
      show own_G p.tables e below _ (s₁.setTop (mkF m 43 #[.val (.ref a1), .val (.int (0 : Int32)), .val (.int q1), .val (.long q2), .second, .val (.int (((((0 : Int32) + (q1 - (1 : Int32))).toUInt32 >>> ((1 : Int32) &&& 31).toUInt32).toInt32) + (1 : Int32))), .val (.int (q1 - (1 : Int32))), .val (.int ((((0 : Int32) + (q1 - (1 : Int32))).toUInt32 >>> ((1 : Int32) &&& 31).toUInt32).toInt32)), .val (.long y7), .second] []))
      refine own_st (fun _ k => XS.goto X0.here hx rfl (pc0 := 43) (pc' := 65) rfl (hb hby d8_43) (by decide) (by decide) k) ?_
      show own_G p.tables e below _ (s₁.setTop (mkF m 65 #[.val (.ref a1), .val (.int (0 : Int32)), .val (.int q1), .val (.long q2), .second, .val (.int (((((0 : Int32) + (q1 - (1 : Int32))).toUInt32 >>> ((1 : Int32) &&& 31).toUInt32).toInt32) + (1 : Int32))), .val (.int (q1 - (1 : Int32))), .val (.int ((((0 : Int32) + (q1 - (1 : Int32))).toUInt32 >>> ((1 : Int32) &&& 31).toUInt32).toInt32)), .val (.long y7), .second] []))
      refine own_st (fun _ k => XS.goto X0.here hx rfl (pc0 := 65) (pc' := 8) rfl (hb hby d8_65) (by decide) (by decide) k) ?_
      show own_G p.tables e below _ (s₁.setTop (mkF m 8 #[.val (.ref a1), .val (.int (0 : Int32)), .val (.int q1), .val (.long q2), .second, .val (.int (((((0 : Int32) + (q1 - (1 : Int32))).toUInt32 >>> ((1 : Int32) &&& 31).toUInt32).toInt32) + (1 : Int32))), .val (.int (q1 - (1 : Int32))), .val (.int ((((0 : Int32) + (q1 - (1 : Int32))).toUInt32 >>> ((1 : Int32) &&& 31).toUInt32).toInt32)), .val (.long y7), .second] []))
      exact LOOP _ _ _ _ _ (own_bi_lo hs inv0 hc12_6 hy7 hc34_8) (Nat.le_refl _)
    · refine own_st (fun _ k => XS.ifYes X0.here hx rfl (pc0 := 34) (pc' := 46) rfl (hb hby d8_34) rfl ((if0 _ _).trans (flt (fun q => hc34_8 ((lw_lt y7 q2).mp q))).2.1) (by decide) (by decide) k) ?_
      show own_G p.tables e below _ (s₁.setTop (mkF m 46 #[.val (.ref a1), .val (.int (0 : Int32)), .val (.int q1), .val (.long q2), .second, .val (.int (0 : Int32)), .val (.int (q1 - (1 : Int32))), .val (.int ((((0 : Int32) + (q1 - (1 : Int32))).toUInt32 >>> ((1 : Int32) &&& 31).toUInt32).toInt32)), .val (.long y7), .second] []))
      refine own_st (fun _ k => XS.lload X0.here hx rfl (hb hby d8_46) rfl k) ?_
      show own_G p.tables e below _ (s₁.setTop (mkF m 48 #[.val (.ref a1), .val (.int (0 : Int32)), .val (.int q1), .val (.long q2), .second, .val (.int (0 : Int32)), .val (.int (q1 - (1 : Int32))), .val (.int ((((0 : Int32) + (q1 - (1 : Int32))).toUInt32 >>> ((1 : Int32) &&& 31).toUInt32).toInt32)), .val (.long y7), .second] [(.long y7)]))
      refine own_st (fun _ k => XS.lloadN X0.here hx rfl (hb hby d8_48) rfl k) ?_
      show own_G p.tables e below _ (s₁.setTop (mkF m 49 #[.val (.ref a1), .val (.int (0 : Int32)), .val (.int q1), .val (.long q2), .second, .val (.int (0 : Int32)), .val (.int (q1 - (1 : Int32))), .val (.int ((((0 : Int32) + (q1 - (1 : Int32))).toUInt32 >>> ((1 : Int32) &&& 31).toUInt32).toInt32)), .val (.long y7), .second] [(.long q2), (.long y7)]))
      refine own_st (fun _ k => XS.lcmp X0.here hx rfl (hb hby d8_49) rfl k) ?_
      show own_G p.tables e below _ (s₁.setTop (mkF m 50 #[.val (.ref a1), .val (.int (0 : Int32)), .val (.int q1), .val (.long q2), .second, .val (.int (0 : Int32)), .val (.int (q1 - (1 : Int32))), .val (.int ((((0 : Int32) + (q1 - (1 : Int32))).toUInt32 >>> ((1 : Int32) &&& 31).toUInt32).toInt32)), .val (.long y7), .second] [(.int (lcmpW y7 q2))]))
      by_cases hc50_9 : q2 < y7
      · refine own_st (fun _ k => XS.ifNo X0.here hx rfl (hb hby d8_50) rfl ((if0 _ _).trans (tlt ((lw_gt y7 q2).mpr hc50_9)).2.2.2) k) ?_
        show own_G p.tables e below _ (s₁.setTop (mkF m 53 #[.val (.ref a1), .val (.int (0 : Int32)), .val (.int q1), .val (.long q2), .second, .val (.int (0 : Int32)), .val (.int (q1 - (1 : Int32))), .val (.int ((((0 : Int32) + (q1 - (1 : Int32))).toUInt32 >>> ((1 : Int32) &&& 31).toUInt32).toInt32)), .val (.long y7), .second] []))
        refine own_st (fun _ k => XS.iload X0.here hx rfl (hb hby d8_53) rfl k) ?_
        show own_G p.tables e below _ (s₁.setTop (mkF m 55 #[.val (.ref a1), .val (.int (0 : Int32)), .val (.int q1), .val (.long q2), .second, .val (.int (0 : Int32)), .val (.int (q1 - (1 : Int32))), .val (.int ((((0 : Int32) + (q1 - (1 : Int32))).toUInt32 >>> ((1 : Int32) &&& 31).toUInt32).toInt32)), .val (.long y7), .second] [(.int ((((0 : Int32) + (q1 - (1 : Int32))).toUInt32 >>> ((1 : Int32) &&& 31).toUInt32).toInt32))]))
        refine own_st (fun _ k => XS.iconst X0.here hx rfl (hb hby d8_55) k) ?_
        show own_G p.tables e below _ (s₁.setTop (mkF m 56 #[.val (.ref a1), .val (.int (0 : Int32)), .val (.int q1), .val (.long q2), .second, .val (.int (0 : Int32)), .val (.int (q1 - (1 : Int32))), .val (.int ((((0 : Int32) + (q1 - (1 : Int32))).toUInt32 >>> ((1 : Int32) &&& 31).toUInt32).toInt32)), .val (.long y7), .second] [(.int (1 : Int32)), (.int ((((0 : Int32) + (q1 - (1 : Int32))).toUInt32 >>> ((1 : Int32) &&& 31).toUInt32).toInt32))]))
        refine own_st (fun _ k => XS.isub X0.here hx rfl (hb hby d8_56) rfl k) ?_
        show own_G p.tables e below _ (s₁.setTop (mkF m 57 #[.val (.ref a1), .val (.int (0 : Int32)), .val (.int q1), .val (.long q2), .second, .val (.int (0 : Int32)), .val (.int (q1 - (1 : Int32))), .val (.int ((((0 : Int32) + (q1 - (1 : Int32))).toUInt32 >>> ((1 : Int32) &&& 31).toUInt32).toInt32)), .val (.long y7), .second] [(.int (((((0 : Int32) + (q1 - (1 : Int32))).toUInt32 >>> ((1 : Int32) &&& 31).toUInt32).toInt32) - (1 : Int32)))]))
        refine own_st (fun _ k => XS.istore X0.here hx rfl (hb hby d8_57) rfl (l' := #[.val (.ref a1), .val (.int (0 : Int32)), .val (.int q1), .val (.long q2), .second, .val (.int (0 : Int32)), .val (.int (((((0 : Int32) + (q1 - (1 : Int32))).toUInt32 >>> ((1 : Int32) &&& 31).toUInt32).toInt32) - (1 : Int32))), .val (.int ((((0 : Int32) + (q1 - (1 : Int32))).toUInt32 >>> ((1 : Int32) &&& 31).toUInt32).toInt32)), .val (.long y7), .second]) rfl k) ?_
        show own_G p.tables e below _ (s₁.setTop (mkF m 59 #[.val (.ref a1), .val (.int (0 : Int32)), .val (.int q1), .val (.long q2), .second, .val (.int (0 : Int32)), .val (.int (((((0 : Int32) + (q1 - (1 : Int32))).toUInt32 >>> ((1 : Int32) &&& 31).toUInt32).toInt32) - (1 : Int32))), .val (.int ((((0 : Int32) + (q1 - (1 : Int32))).toUInt32 >>> ((1 : Int32) &&& 31).toUInt32).toInt32)), .val (.long y7), .second] []))
        refine own_st (fun _ k => XS.goto X0.here hx rfl (pc0 := 59) (pc' := 65) rfl (hb hby d8_59) (by decide) (by decide) k) ?_
        show own_G p.tables e below _ (s₁.setTop (mkF m 65 #[.val (.ref a1), .val (.int (0 : Int32)), .val (.int q1), .val (.long q2), .second, .val (.int (0 : Int32)), .val (.int (((((0 : Int32) + (q1 - (1 : Int32))).toUInt32 >>> ((1 : Int32) &&& 31).toUInt32).toInt32) - (1 : Int32))), .val (.int ((((0 : Int32) + (q1 - (1 : Int32))).toUInt32 >>> ((1 : Int32) &&& 31).toUInt32).toInt32)), .val (.long y7), .second] []))
        refine own_st (fun _ k => XS.goto X0.here hx rfl (pc0 := 65) (pc' := 8) rfl (hb hby d8_65) (by decide) (by decide) k) ?_
        show own_G p.tables e below _ (s₁.setTop (mkF m 8 #[.val (.ref a1), .val (.int (0 : Int32)), .val (.int q1), .val (.long q2), .second, .val (.int (0 : Int32)), .val (.int (((((0 : Int32) + (q1 - (1 : Int32))).toUInt32 >>> ((1 : Int32) &&& 31).toUInt32).toInt32) - (1 : Int32))), .val (.int ((((0 : Int32) + (q1 - (1 : Int32))).toUInt32 >>> ((1 : Int32) &&& 31).toUInt32).toInt32)), .val (.long y7), .second] []))
        exact LOOP _ _ _ _ _ (own_bi_hi hs inv0 hc12_6 hy7 hc50_9) (Nat.le_refl _)
      · refine own_st (fun _ k => XS.ifYes X0.here hx rfl (pc0 := 50) (pc' := 62) rfl (hb hby d8_50) rfl ((if0 _ _).trans (flt (fun q => hc50_9 ((lw_gt y7 q2).mp q))).2.2.2) (by decide) (by decide) k) ?_
        show own_G p.tables e below _ (s₁.setTop (mkF m 62 #[.val (.ref a1), .val (.int (0 : Int32)), .val (.int q1), .val (.long q2), .second, .val (.int (0 : Int32)), .val (.int (q1 - (1 : Int32))), .val (.int ((((0 : Int32) + (q1 - (1 : Int32))).toUInt32 >>> ((1 : Int32) &&& 31).toUInt32).toInt32)), .val (.long y7), .second] []))
        refine own_st (fun _ k => XS.iload X0.here hx rfl (hb hby d8_62) rfl k) ?_
        show own_G p.tables e below _ (s₁.setTop (mkF m 64 #[.val (.ref a1), .val (.int (0 : Int32)), .val (.int q1), .val (.long q2), .second, .val (.int (0 : Int32)), .val (.int (q1 - (1 : Int32))), .val (.int ((((0 : Int32) + (q1 - (1 : Int32))).toUInt32 >>> ((1 : Int32) &&& 31).toUInt32).toInt32)), .val (.long y7), .second] [(.int ((((0 : Int32) + (q1 - (1 : Int32))).toUInt32 >>> ((1 : Int32) &&& 31).toUInt32).toInt32))]))
        exact own_retI X0 hx hlk Bd.returns (hb hby d8_64) (by rw [e0]; exact ⟨⟨_, rfl, own_bsf inv0 hc12_6 hy7 hc34_8 hc50_9⟩, N0, rfl⟩) (by decide) (by decide)
def Q6 (Z : State) (a1 : Addr) (q1 : Int32) (q2 : Int64) (ka : ClassId) (kI : Int32) (K : Nat) (ord : List Int64) (h0 : Heap) (n0 : Nat) (v : Option Value) (h : Heap) (L : List Loc) : Prop := (∃ z : Int32, v = some (.int z) ∧ own_bsa ord q1.toInt.toNat q2 z) ∧ Fr n0 L ∧ h = h0
set_option maxRecDepth 65536 in
set_option maxHeartbeats 40000000 in
theorem rm6 (l : Launch) (Z : State) (a0 : Array Value) (hw : ∀ d ∈ tables_1, d.before a0 Z = true) (ws : List Jvm.Cond) (a1 : Addr) (q1 : Int32) (q2 : Int64) (ka : ClassId) (kI : Int32) (K : Nat) (ord : List Int64) (h0 : Heap) (n0 : Nat) (Z0 : n0 ≤ h0.size) (V_a1 : Arv Z h0 a1 ka .long kI (ord.map Value.long) (.long (0 : Int64))) (hk : kI.toInt = (K : Int)) (hK4 : K ≤ 4) (hl : ord.length = K) (hto : 0 ≤ q1.toInt ∧ q1.toInt ≤ (K : Int)) (hs : own_srt (ord.take q1.toInt.toNat)) :
    MetFree l (⟨"java/util/Arrays", "binarySearch", "([JIIJ)I"⟩ : MethodName) (head1 (Jvm.Cond.code (⟨"java/util/Arrays", "binarySearch", "([JIIJ)I"⟩ : MethodName) jdk_65_method_55_code 5 (some .int) :: ws) ({ frames := 1, cells := 0, slots := 0, locals := 21 } : Room)) (fun a U => a = #[(.ref a1), (.int (0 : Int32)), (.int q1), (.long q2)] ∧ Z.Warmed39 U.vm ∧ U.heap = h0) (fun _ _ _ _ _ => True) (fun _ U o U' => ∃ v L, o = .returned v ∧ Q6 Z a1 q1 q2 ka kI K ord h0 n0 v U'.heap L ∧ FrameEnd U o U' L ({ frames := 1, cells := 0, slots := 0, locals := 21 } : Room).cells ({ frames := 1, cells := 0, slots := 0, locals := 21 } : Room).slots) := by
  refine MetFree.of_bodySF (plainFor_of_name pn_6) hisR ?_
  intro p e s m args below meth c s₁ Bd hml0 hP hK
  obtain ⟨rfl, hZ, hh⟩ := hP
  have hx := Bd.exec
  have hby := Bd.bytes
  have hlk := BodyLoose.notSynchronized Bd
  have hml : c.maxLocals = 5 := hml0
  have hown : s.vm.findClass "java/util/Arrays" = some m.cls := findClass_of_methodNamed Bd.named
  have hnm := (name_of_methodNamed Bd.named Bd.method).1
  have X0 : Stand p l e ({ frames := 1, cells := 0, slots := 0, locals := 21 } : Room) s m #[(.ref a1), (.int (0 : Int32)), (.int q1), (.long q2)] below meth c s₁ [] 0 0 := Stand.of_body Bd
  have e0 : s₁.heap = h0 := by rw [← hh, Bd.state]; rfl
  have N0 := Fr.nil n0
  have K0 := Keep.refl h0 []
  show own_G p.tables e below (own_P s (Q6 Z a1 q1 q2 ka kI K ord h0 n0) 0 0) (s₁.setTop (entryFrame m #[(.ref a1), (.int (0 : Int32)), (.int q1), (.long q2)] 5))
  refine own_st (fun t k => castTop (ef_6 m a1 q1 q2) k) ?_
  show own_G p.tables e below _ (s₁.setTop (mkF m 0 #[.val (.ref a1), .val (.int (0 : Int32)), .val (.int q1), .val (.long q2), .second] []))
  refine own_st (fun _ k => XS.aloadN X0.here hx rfl (hb hby d6_0) rfl rfl k) ?_
  show own_G p.tables e below _ (s₁.setTop (mkF m 1 #[.val (.ref a1), .val (.int (0 : Int32)), .val (.int q1), .val (.long q2), .second] [(.ref a1)]))
  obtain ⟨cl1, Ar1, qk1, S1, Nn1, H1, G1⟩ := V_a1
  refine own_st (fun _ k => X0.arraylength hx (by rw [e0]; exact Ar1.1) (State.isArrayOf_alike hZ.alike Ar1.2.1) (g := (mkF m 1 #[.val (.ref a1), .val (.int (0 : Int32)), .val (.int q1), .val (.long q2), .second] [(.ref a1)])) rfl rfl (hb hby d6_1) _ (by rw [len_of S1 Nn1]; exact k)) ?_
  show own_G p.tables e below _ (s₁.setTop (mkF m 2 #[.val (.ref a1), .val (.int (0 : Int32)), .val (.int q1), .val (.long q2), .second] [(.int kI)]))
  have V2 : Arv Z h0 a1 ka .long kI (ord.map Value.long) (.long (0 : Int64)) := ⟨cl1, Ar1, qk1, S1, Nn1, H1, G1⟩
  refine own_st (fun _ k => XS.iloadN X0.here hx rfl (hb hby d6_2) rfl k) ?_
  show own_G p.tables e below _ (s₁.setTop (mkF m 3 #[.val (.ref a1), .val (.int (0 : Int32)), .val (.int q1), .val (.long q2), .second] [(.int (0 : Int32)), (.int kI)]))
  refine own_st (fun _ k => XS.iloadN X0.here hx rfl (hb hby d6_3) rfl k) ?_
  show own_G p.tables e below _ (s₁.setTop (mkF m 4 #[.val (.ref a1), .val (.int (0 : Int32)), .val (.int q1), .val (.long q2), .second] [(.int q1), (.int (0 : Int32)), (.int kI)]))
  obtain ⟨_, _, ⟨T3, L3, k3, n3⟩, -, X3, ⟨Lc3, hQ3, l3, y3, z3⟩, st3⟩ := Jvm.LawKit.callS X0 hx (y := (⟨"java/util/Arrays", "rangeCheck", "(III)V"⟩ : MethodName)) hown (mvT hZ (hw _ (List.mem_of_getElem? (i := 36) rfl))) (mvT hZ (hw _ (List.mem_of_getElem? (i := 37) rfl))) (mvT hZ (hw _ (List.mem_of_getElem? (i := 34) rfl))) (mvT hZ (hw _ (List.mem_of_getElem? (i := 38) rfl))) (by decide) (backOf (W := 0) (rm7 l Z a0 hw [] kI (0 : Int32) q1 h0 n0 Z0 (own_n0 hto.1) (by decide) (own_nk hk hto.2)) hZ (hw _ (List.mem_of_getElem? (i := 38) rfl)) (hw _ (List.mem_of_getElem? (i := 34) rfl)) (by decide) (by decide)) (g := (mkF m 4 #[.val (.ref a1), .val (.int (0 : Int32)), .val (.int q1), .val (.long q2), .second] [(.int q1), (.int (0 : Int32)), (.int kI)])) rfl (by rw [hml]; rfl) (argsL := [(.int kI), (.int (0 : Int32)), (.int q1)]) (rest := []) (lenOf pd_0 rfl) rfl (by show 2 * 0 + _ ≤ _; exact Nat.le_of_eq rfl) (hb hby d6_4) (fun _ _ => ⟨rfl, e0, (by decide : 0 + 0 ≤ _), (by decide : 0 + 0 ≤ _)⟩)
  dsimp only [Pt.U, Pt.locs, Pt.cells, Pt.slots] at X3 l3 y3 z3 st3 hQ3
  subst l3 y3 z3
  obtain ⟨rfl, N3q, e3⟩ := hQ3
  have N3 := Fr.app N0 N3q
  refine own_st st3 ?_
  show own_G p.tables e below _ (T3.setTop (mkF m 7 #[.val (.ref a1), .val (.int (0 : Int32)), .val (.int q1), .val (.long q2), .second] []))
  refine own_st (fun _ k => XS.aloadN X3.here hx rfl (hb hby d6_7) rfl rfl k) ?_
  show own_G p.tables e below _ (T3.setTop (mkF m 8 #[.val (.ref a1), .val (.int (0 : Int32)), .val (.int q1), .val (.long q2), .second] [(.ref a1)]))
  refine own_st (fun _ k => XS.iloadN X3.here hx rfl (hb hby d6_8) rfl k) ?_
  show own_G p.tables e below _ (T3.setTop (mkF m 9 #[.val (.ref a1), .val (.int (0 : Int32)), .val (.int q1), .val (.long q2), .second] [(.int (0 : Int32)), (.ref a1)]))
  refine own_st (fun _ k => XS.iloadN X3.here hx rfl (hb hby d6_9) rfl k) ?_
  show own_G p.tables e below _ (T3.setTop (mkF m 10 #[.val (.ref a1), .val (.int (0 : Int32)), .val (.int q1), .val (.long q2), .second] [(.int q1), (.int (0 : Int32)), (.ref a1)]))
  refine own_st (fun _ k => XS.lloadN X3.here hx rfl (hb hby d6_10) rfl k) ?_
  show own_G p.tables e below _ (T3.setTop (mkF m 11 #[.val (.ref a1), .val (.int (0 : Int32)), .val (.int q1), .val (.long q2), .second] [(.long q2), (.int q1), (.int (0 : Int32)), (.ref a1)]))
  obtain ⟨_, _, ⟨T4, L4, k4, n4⟩, -, X4, ⟨Lc4, hQ4, l4, y4, z4⟩, st4⟩ := Jvm.LawKit.callS X3 hx (y := (⟨"java/util/Arrays", "binarySearch0", "([JIIJ)I"⟩ : MethodName)) hown (mvT hZ (hw _ (List.mem_of_getElem? (i := 39) rfl))) (mvT hZ (hw _ (List.mem_of_getElem? (i := 40) rfl))) (mvT hZ (hw _ (List.mem_of_getElem? (i := 34) rfl))) (mvT hZ (hw _ (List.mem_of_getElem? (i := 41) rfl))) (by decide) (backOf (W := 0) (rm8 l Z a0 hw [] a1 q1 q2 ka kI K ord h0 n0 Z0 V2 hk hK4 hl hto hs) hZ (hw _ (List.mem_of_getElem? (i := 41) rfl)) (hw _ (List.mem_of_getElem? (i := 34) rfl)) (by decide) (by decide)) (g := (mkF m 11 #[.val (.ref a1), .val (.int (0 : Int32)), .val (.int q1), .val (.long q2), .second] [(.long q2), (.int q1), (.int (0 : Int32)), (.ref a1)])) rfl (by rw [hml]; rfl) (argsL := [(.ref a1), (.int (0 : Int32)), (.int q1), (.long q2)]) (rest := []) (lenOf pd_1 rfl) rfl (by show 2 * 0 + _ ≤ _; exact Nat.le_of_eq rfl) (hb hby d6_11) (fun _ _ => ⟨rfl, e3, (by decide : 0 + 0 ≤ _), (by decide : 0 + 0 ≤ _)⟩)
  dsimp only [Pt.U, Pt.locs, Pt.cells, Pt.slots] at X4 l4 y4 z4 st4 hQ4
  subst l4 y4 z4
  obtain ⟨⟨r4, rfl, hb4⟩, N4q, e4⟩ := hQ4
  have N4 := Fr.app N3 N4q
  refine own_st st4 ?_
  show own_G p.tables e below _ (T4.setTop (mkF m 14 #[.val (.ref a1), .val (.int (0 : Int32)), .val (.int q1), .val (.long q2), .second] [(.int r4)]))
  exact own_retI X4 hx hlk Bd.returns (hb hby d6_14) (by rw [e4]; exact ⟨⟨_, rfl, hb4⟩, N4, rfl⟩) (by decide) (by decide)
def Q9 (Z : State) (q1 : Int32) (q2 : Int32) (h0 : Heap) (n0 : Nat) (v : Option Value) (h : Heap) (L : List Loc) : Prop := (∃ z : Int32, v = some (.int z) ∧ z = (if q2 < q1 then q2 else q1)) ∧ Fr n0 L ∧ h = h0
set_option maxRecDepth 65536 in
set_option maxHeartbeats 40000000 in
theorem rm9 (l : Launch) (Z : State) (a0 : Array Value) (hw : ∀ d ∈ tables_1, d.before a0 Z = true) (ws : List Jvm.Cond) (q1 : Int32) (q2 : Int32) (h0 : Heap) (n0 : Nat) (Z0 : n0 ≤ h0.size) :
    MetFree l (⟨"java/lang/Math", "min", "(II)I"⟩ : MethodName) (head1 (Jvm.Cond.code (⟨"java/lang/Math", "min", "(II)I"⟩ : MethodName) jdk_29_method_69_code 2 (some .int) :: ws) ({ frames := 0, cells := 0, slots := 0, locals := 0 } : Room)) (fun a U => a = #[(.int q1), (.int q2)] ∧ Z.Warmed39 U.vm ∧ U.heap = h0) (fun _ _ _ _ _ => True) (fun _ U o U' => ∃ v L, o = .returned v ∧ Q9 Z q1 q2 h0 n0 v U'.heap L ∧ FrameEnd U o U' L ({ frames := 0, cells := 0, slots := 0, locals := 0 } : Room).cells ({ frames := 0, cells := 0, slots := 0, locals := 0 } : Room).slots) := by
  refine MetFree.of_bodySF (Jvm.Free.JP.mathPlain rfl (by decide +kernel)) hisR ?_
  intro p e s m args below meth c s₁ Bd hml0 hP hK
  obtain ⟨rfl, hZ, hh⟩ := hP
  have hx := Bd.exec
  have hby := Bd.bytes
  have hlk := BodyLoose.notSynchronized Bd
  have hml : c.maxLocals = 2 := hml0
  have hown : s.vm.findClass "java/lang/Math" = some m.cls := findClass_of_methodNamed Bd.named
  have hnm := (name_of_methodNamed Bd.named Bd.method).1
  have X0 : Stand p l e ({ frames := 0, cells := 0, slots := 0, locals := 0 } : Room) s m #[(.int q1), (.int q2)] below meth c s₁ [] 0 0 := Stand.of_body Bd
  have e0 : s₁.heap = h0 := by rw [← hh, Bd.state]; rfl
  have N0 := Fr.nil n0
  have K0 := Keep.refl h0 []
  show own_G p.tables e below (own_P s (Q9 Z q1 q2 h0 n0) 0 0) (s₁.setTop (entryFrame m #[(.int q1), (.int q2)] 2))
  refine own_st (fun t k => castTop (ef_9 m q1 q2) k) ?_
  show own_G p.tables e below _ (s₁.setTop (mkF m 0 #[.val (.int q1), .val (.int q2)] []))
  refine own_st (fun _ k => XS.iloadN X0.here hx rfl (hb hby d9_0) rfl k) ?_
  show own_G p.tables e below _ (s₁.setTop (mkF m 1 #[.val (.int q1), .val (.int q2)] [(.int q1)]))
  refine own_st (fun _ k => XS.iloadN X0.here hx rfl (hb hby d9_1) rfl k) ?_
  show own_G p.tables e below _ (s₁.setTop (mkF m 2 #[.val (.int q1), .val (.int q2)] [(.int q2), (.int q1)]))
  have J10_2 : ∀ (z3 : Int32) (hz3 : z3 = (if q2 < q1 then q2 else q1)), own_G p.tables e below (own_P s (Q9 Z q1 q2 h0 n0) 0 0) (s₁.setTop (mkF m 10 #[.val (.int q1), .val (.int q2)] [(.int z3)])) := by
    intro z3 hz3
    exact own_retI X0 hx hlk Bd.returns (hb hby d9_10) (by rw [e0]; exact ⟨⟨_, rfl, (by subst hz3; exact rfl)⟩, N0, rfl⟩) (by decide) (by decide)
  by_cases hc2_1 : q2 < q1
  · refine own_st (fun _ k => XS.icmpYes X0.here hx rfl (pc0 := 2) (pc' := 9) rfl (hb hby d9_2) rfl (tlt hc2_1).2.2.1 (by decide) (by decide) k) ?_
    show own_G p.tables e below _ (s₁.setTop (mkF m 9 #[.val (.int q1), .val (.int q2)] []))
    refine own_st (fun _ k => XS.iloadN X0.here hx rfl (hb hby d9_9) rfl k) ?_
    show own_G p.tables e below _ (s₁.setTop (mkF m 10 #[.val (.int q1), .val (.int q2)] [(.int q2)]))
    exact J10_2 q2 ((if_pos hc2_1).symm)
  · refine own_st (fun _ k => XS.icmpNo X0.here hx rfl (hb hby d9_2) rfl (flt hc2_1).2.2.1 k) ?_
    show own_G p.tables e below _ (s₁.setTop (mkF m 5 #[.val (.int q1), .val (.int q2)] []))
    refine own_st (fun _ k => XS.iloadN X0.here hx rfl (hb hby d9_5) rfl k) ?_
    show own_G p.tables e below _ (s₁.setTop (mkF m 6 #[.val (.int q1), .val (.int q2)] [(.int q1)]))
    refine own_st (fun _ k => XS.goto X0.here hx rfl (pc0 := 6) (pc' := 10) rfl (hb hby d9_6) (by decide) (by decide) k) ?_
    show own_G p.tables e below _ (s₁.setTop (mkF m 10 #[.val (.int q1), .val (.int q2)] [(.int q1)]))
    exact J10_2 q1 ((if_neg hc2_1).symm)
def Q10 (Z : State) (q1 : Int64) (q2 : Int64) (h0 : Heap) (n0 : Nat) (v : Option Value) (h : Heap) (L : List Loc) : Prop := (∃ z : Int64, v = some (.long z) ∧ z = (if q1 < q2 then q2 else q1)) ∧ Fr n0 L ∧ h = h0
set_option maxRecDepth 65536 in
set_option maxHeartbeats 40000000 in
theorem rm10 (l : Launch) (Z : State) (a0 : Array Value) (hw : ∀ d ∈ tables_1, d.before a0 Z = true) (ws : List Jvm.Cond) (q1 : Int64) (q2 : Int64) (h0 : Heap) (n0 : Nat) (Z0 : n0 ≤ h0.size) :
    MetFree l (⟨"java/lang/Math", "max", "(JJ)J"⟩ : MethodName) (head1 (Jvm.Cond.code (⟨"java/lang/Math", "max", "(JJ)J"⟩ : MethodName) jdk_29_method_66_code 4 (some .long) :: ws) ({ frames := 0, cells := 0, slots := 0, locals := 0 } : Room)) (fun a U => a = #[(.long q1), (.long q2)] ∧ Z.Warmed39 U.vm ∧ U.heap = h0) (fun _ _ _ _ _ => True) (fun _ U o U' => ∃ v L, o = .returned v ∧ Q10 Z q1 q2 h0 n0 v U'.heap L ∧ FrameEnd U o U' L ({ frames := 0, cells := 0, slots := 0, locals := 0 } : Room).cells ({ frames := 0, cells := 0, slots := 0, locals := 0 } : Room).slots) := by
  refine MetFree.of_bodySF (Jvm.Free.JP.mathPlain rfl (by decide +kernel)) hisR ?_
  intro p e s m args below meth c s₁ Bd hml0 hP hK
  obtain ⟨rfl, hZ, hh⟩ := hP
  have hx := Bd.exec
  have hby := Bd.bytes
  have hlk := BodyLoose.notSynchronized Bd
  have hml : c.maxLocals = 4 := hml0
  have hown : s.vm.findClass "java/lang/Math" = some m.cls := findClass_of_methodNamed Bd.named
  have hnm := (name_of_methodNamed Bd.named Bd.method).1
  have X0 : Stand p l e ({ frames := 0, cells := 0, slots := 0, locals := 0 } : Room) s m #[(.long q1), (.long q2)] below meth c s₁ [] 0 0 := Stand.of_body Bd
  have e0 : s₁.heap = h0 := by rw [← hh, Bd.state]; rfl
  have N0 := Fr.nil n0
  have K0 := Keep.refl h0 []
  show own_G p.tables e below (own_P s (Q10 Z q1 q2 h0 n0) 0 0) (s₁.setTop (entryFrame m #[(.long q1), (.long q2)] 4))
  refine own_st (fun t k => castTop (ef_10 m q1 q2) k) ?_
  show own_G p.tables e below _ (s₁.setTop (mkF m 0 #[.val (.long q1), .second, .val (.long q2), .second] []))
  refine own_st (fun _ k => XS.lloadN X0.here hx rfl (hb hby d10_0) rfl k) ?_
  show own_G p.tables e below _ (s₁.setTop (mkF m 1 #[.val (.long q1), .second, .val (.long q2), .second] [(.long q1)]))
  refine own_st (fun _ k => XS.lloadN X0.here hx rfl (hb hby d10_1) rfl k) ?_
  show own_G p.tables e below _ (s₁.setTop (mkF m 2 #[.val (.long q1), .second, .val (.long q2), .second] [(.long q2), (.long q1)]))
  refine own_st (fun _ k => XS.lcmp X0.here hx rfl (hb hby d10_2) rfl k) ?_
  show own_G p.tables e below _ (s₁.setTop (mkF m 3 #[.val (.long q1), .second, .val (.long q2), .second] [(.int (lcmpW q1 q2))]))
  have J11_2 : ∀ (z3 : Int64) (hz3 : z3 = (if q1 < q2 then q2 else q1)), own_G p.tables e below (own_P s (Q10 Z q1 q2 h0 n0) 0 0) (s₁.setTop (mkF m 11 #[.val (.long q1), .second, .val (.long q2), .second] [(.long z3)])) := by
    intro z3 hz3
    exact own_retJ X0 hx hlk Bd.returns (hb hby d10_11) (by rw [e0]; exact ⟨⟨_, rfl, (by subst hz3; exact rfl)⟩, N0, rfl⟩) (by decide) (by decide)
  by_cases hc3_1 : q1 < q2
  · refine own_st (fun _ k => XS.ifYes X0.here hx rfl (pc0 := 3) (pc' := 10) rfl (hb hby d10_3) rfl ((if0 _ _).trans (tlt ((lw_lt q1 q2).mpr hc3_1)).1) (by decide) (by decide) k) ?_
    show own_G p.tables e below _ (s₁.setTop (mkF m 10 #[.val (.long q1), .second, .val (.long q2), .second] []))
    refine own_st (fun _ k => XS.lloadN X0.here hx rfl (hb hby d10_10) rfl k) ?_
    show own_G p.tables e below _ (s₁.setTop (mkF m 11 #[.val (.long q1), .second, .val (.long q2), .second] [(.long q2)]))
    exact J11_2 q2 ((if_pos hc3_1).symm)
  · refine own_st (fun _ k => XS.ifNo X0.here hx rfl (hb hby d10_3) rfl ((if0 _ _).trans (flt (fun q => hc3_1 ((lw_lt q1 q2).mp q))).1) k) ?_
    show own_G p.tables e below _ (s₁.setTop (mkF m 6 #[.val (.long q1), .second, .val (.long q2), .second] []))
    refine own_st (fun _ k => XS.lloadN X0.here hx rfl (hb hby d10_6) rfl k) ?_
    show own_G p.tables e below _ (s₁.setTop (mkF m 7 #[.val (.long q1), .second, .val (.long q2), .second] [(.long q1)]))
    refine own_st (fun _ k => XS.goto X0.here hx rfl (pc0 := 7) (pc' := 11) rfl (hb hby d10_7) (by decide) (by decide) k) ?_
    show own_G p.tables e below _ (s₁.setTop (mkF m 11 #[.val (.long q1), .second, .val (.long q2), .second] [(.long q1)]))
    exact J11_2 q1 ((if_neg hc3_1).symm)
def Q4 (Z : State) (q1 : Int32) (q2 : Int32) (q3 : Int64) (q4 : Int64) (q5 : Int64) (q6 : Int64) (q7 : Int64) (h0 : Heap) (n0 : Nat) (v : Option Value) (h : Heap) (L : List Loc) : Prop := (∃ z : Int64, v = some (.long z) ∧ z = (own_exp q1 q2 q3 q4 q5 q6 q7)) ∧ Fr n0 L ∧ h = h0
set_option maxRecDepth 65536 in
set_option maxHeartbeats 40000000 in
theorem rm4 (l : Launch) (Z : State) (a0 : Array Value) (hw : ∀ d ∈ tables_1, d.before a0 Z = true) (ws : List Jvm.Cond) (q1 : Int32) (q2 : Int32) (q3 : Int64) (q4 : Int64) (q5 : Int64) (q6 : Int64) (q7 : Int64) (h0 : Heap) (n0 : Nat) (Z0 : n0 ≤ h0.size) :
    MetFree l (⟨"com/example/funnel/funnel/admission/RecentTimesPercentile95PinLaw", "expected", "(IIJJJJJ)J"⟩ : MethodName) (head1 (Jvm.Cond.code (⟨"com/example/funnel/funnel/admission/RecentTimesPercentile95PinLaw", "expected", "(IIJJJJJ)J"⟩ : MethodName) method_3_code 16 (some .long) :: ws) ({ frames := 1, cells := 0, slots := 0, locals := 15 } : Room)) (fun a U => a = #[(.int q1), (.int q2), (.long q3), (.long q4), (.long q5), (.long q6), (.long q7)] ∧ Z.Warmed39 U.vm ∧ U.heap = h0) (fun _ _ _ _ _ => True) (fun _ U o U' => ∃ v L, o = .returned v ∧ Q4 Z q1 q2 q3 q4 q5 q6 q7 h0 n0 v U'.heap L ∧ FrameEnd U o U' L ({ frames := 1, cells := 0, slots := 0, locals := 15 } : Room).cells ({ frames := 1, cells := 0, slots := 0, locals := 15 } : Room).slots) := by
  refine MetFree.of_bodySF (plainFor_of_name pn_4) hisR ?_
  intro p e s m args below meth c s₁ Bd hml0 hP hK
  obtain ⟨rfl, hZ, hh⟩ := hP
  have hx := Bd.exec
  have hby := Bd.bytes
  have hlk := BodyLoose.notSynchronized Bd
  have hml : c.maxLocals = 16 := hml0
  have hown : s.vm.findClass "com/example/funnel/funnel/admission/RecentTimesPercentile95PinLaw" = some m.cls := findClass_of_methodNamed Bd.named
  have hnm := (name_of_methodNamed Bd.named Bd.method).1
  have X0 : Stand p l e ({ frames := 1, cells := 0, slots := 0, locals := 15 } : Room) s m #[(.int q1), (.int q2), (.long q3), (.long q4), (.long q5), (.long q6), (.long q7)] below meth c s₁ [] 0 0 := Stand.of_body Bd
  have e0 : s₁.heap = h0 := by rw [← hh, Bd.state]; rfl
  have N0 := Fr.nil n0
  have K0 := Keep.refl h0 []
  show own_G p.tables e below (own_P s (Q4 Z q1 q2 q3 q4 q5 q6 q7 h0 n0) 0 0) (s₁.setTop (entryFrame m #[(.int q1), (.int q2), (.long q3), (.long q4), (.long q5), (.long q6), (.long q7)] 16))
  refine own_st (fun t k => castTop (ef_4 m q1 q2 q3 q4 q5 q6 q7) k) ?_
  show own_G p.tables e below _ (s₁.setTop (mkF m 0 #[.val (.int q1), .val (.int q2), .val (.long q3), .second, .val (.long q4), .second, .val (.long q5), .second, .val (.long q6), .second, .val (.long q7), .second, .unset, .unset, .unset, .unset] []))
  refine own_st (fun _ k => XS.iloadN X0.here hx rfl (hb hby d4_0) rfl k) ?_
  show own_G p.tables e below _ (s₁.setTop (mkF m 1 #[.val (.int q1), .val (.int q2), .val (.long q3), .second, .val (.long q4), .second, .val (.long q5), .second, .val (.long q6), .second, .val (.long q7), .second, .unset, .unset, .unset, .unset] [(.int q2)]))
  by_cases hc1_1 : q2 = (0 : Int32)
  · refine own_st (fun _ k => XS.ifNo X0.here hx rfl (hb hby d4_1) rfl ((if0 _ _).trans (teq hc1_1).2) k) ?_
    show own_G p.tables e below _ (s₁.setTop (mkF m 4 #[.val (.int q1), .val (.int q2), .val (.long q3), .second, .val (.long q4), .second, .val (.long q5), .second, .val (.long q6), .second, .val (.long q7), .second, .unset, .unset, .unset, .unset] []))
    refine own_st (fun _ k => XS.lconst X0.here hx rfl (hb hby d4_4) k) ?_
    show own_G p.tables e below _ (s₁.setTop (mkF m 5 #[.val (.int q1), .val (.int q2), .val (.long q3), .second, .val (.long q4), .second, .val (.long q5), .second, .val (.long q6), .second, .val (.long q7), .second, .unset, .unset, .unset, .unset] [(.long (0 : Int64))]))
    exact own_retJ X0 hx hlk Bd.returns (hb hby d4_5) (by rw [e0]; exact ⟨⟨_, rfl, (own_exp0 hc1_1).symm⟩, N0, rfl⟩) (by decide) (by decide)
  · refine own_st (fun _ k => XS.ifYes X0.here hx rfl (pc0 := 1) (pc' := 6) rfl (hb hby d4_1) rfl ((if0 _ _).trans (feq hc1_1).2) (by decide) (by decide) k) ?_
    show own_G p.tables e below _ (s₁.setTop (mkF m 6 #[.val (.int q1), .val (.int q2), .val (.long q3), .second, .val (.long q4), .second, .val (.long q5), .second, .val (.long q6), .second, .val (.long q7), .second, .unset, .unset, .unset, .unset] []))
    refine own_st (fun _ k => XS.iloadN X0.here hx rfl (hb hby d4_6) rfl k) ?_
    show own_G p.tables e below _ (s₁.setTop (mkF m 7 #[.val (.int q1), .val (.int q2), .val (.long q3), .second, .val (.long q4), .second, .val (.long q5), .second, .val (.long q6), .second, .val (.long q7), .second, .unset, .unset, .unset, .unset] [(.int q2)]))
    refine own_st (fun _ k => XS.iloadN X0.here hx rfl (hb hby d4_7) rfl k) ?_
    show own_G p.tables e below _ (s₁.setTop (mkF m 8 #[.val (.int q1), .val (.int q2), .val (.long q3), .second, .val (.long q4), .second, .val (.long q5), .second, .val (.long q6), .second, .val (.long q7), .second, .unset, .unset, .unset, .unset] [(.int q1), (.int q2)]))
    obtain ⟨_, _, ⟨T2, L2, k2, n2⟩, -, X2, ⟨Lc2, hQ2, l2, y2, z2⟩, st2⟩ := Jvm.LawKit.callS X0 hx (y := (⟨"java/lang/Math", "min", "(II)I"⟩ : MethodName)) hown (mvT hZ (hw _ (List.mem_of_getElem? (i := 46) rfl))) (mvT hZ (hw _ (List.mem_of_getElem? (i := 47) rfl))) (mvT hZ (hw _ (List.mem_of_getElem? (i := 48) rfl))) (mvT hZ (hw _ (List.mem_of_getElem? (i := 49) rfl))) (by decide) (backOf (W := 0) (rm9 l Z a0 hw [] q2 q1 h0 n0 Z0 ) hZ (hw _ (List.mem_of_getElem? (i := 49) rfl)) (hw _ (List.mem_of_getElem? (i := 48) rfl)) (by decide) (by decide)) (g := (mkF m 8 #[.val (.int q1), .val (.int q2), .val (.long q3), .second, .val (.long q4), .second, .val (.long q5), .second, .val (.long q6), .second, .val (.long q7), .second, .unset, .unset, .unset, .unset] [(.int q1), (.int q2)])) rfl (by rw [hml]; rfl) (argsL := [(.int q2), (.int q1)]) (rest := []) (lenOf pd_2 rfl) rfl (by show 2 * 0 + _ ≤ _; exact Nat.le_of_eq rfl) (hb hby d4_8) (fun _ _ => ⟨rfl, e0, (by decide : 0 + 0 ≤ _), (by decide : 0 + 0 ≤ _)⟩)
    dsimp only [Pt.U, Pt.locs, Pt.cells, Pt.slots] at X2 l2 y2 z2 st2 hQ2
    subst l2 y2 z2
    obtain ⟨⟨r2, rfl, hr2⟩, N2q, e2⟩ := hQ2
    have N2 := Fr.app N0 N2q
    refine own_st st2 ?_
    show own_G p.tables e below _ (T2.setTop (mkF m 11 #[.val (.int q1), .val (.int q2), .val (.long q3), .second, .val (.long q4), .second, .val (.long q5), .second, .val (.long q6), .second, .val (.long q7), .second, .unset, .unset, .unset, .unset] [(.int r2)]))
    refine own_st (fun _ k => XS.istore X2.here hx rfl (hb hby d4_11) rfl (l' := #[.val (.int q1), .val (.int q2), .val (.long q3), .second, .val (.long q4), .second, .val (.long q5), .second, .val (.long q6), .second, .val (.long q7), .second, .val (.int r2), .unset, .unset, .unset]) rfl k) ?_
    show own_G p.tables e below _ (T2.setTop (mkF m 13 #[.val (.int q1), .val (.int q2), .val (.long q3), .second, .val (.long q4), .second, .val (.long q5), .second, .val (.long q6), .second, .val (.long q7), .second, .val (.int r2), .unset, .unset, .unset] []))
    refine own_st (fun _ k => XS.iloadN X2.here hx rfl (hb hby d4_13) rfl k) ?_
    show own_G p.tables e below _ (T2.setTop (mkF m 14 #[.val (.int q1), .val (.int q2), .val (.long q3), .second, .val (.long q4), .second, .val (.long q5), .second, .val (.long q6), .second, .val (.long q7), .second, .val (.int r2), .unset, .unset, .unset] [(.int q2)]))
    refine own_st (fun _ k => XS.iload X2.here hx rfl (hb hby d4_14) rfl k) ?_
    show own_G p.tables e below _ (T2.setTop (mkF m 16 #[.val (.int q1), .val (.int q2), .val (.long q3), .second, .val (.long q4), .second, .val (.long q5), .second, .val (.long q6), .second, .val (.long q7), .second, .val (.int r2), .unset, .unset, .unset] [(.int r2), (.int q2)]))
    refine own_st (fun _ k => XS.isub X2.here hx rfl (hb hby d4_16) rfl k) ?_
    show own_G p.tables e below _ (T2.setTop (mkF m 17 #[.val (.int q1), .val (.int q2), .val (.long q3), .second, .val (.long q4), .second, .val (.long q5), .second, .val (.long q6), .second, .val (.long q7), .second, .val (.int r2), .unset, .unset, .unset] [(.int (q2 - r2))]))
    refine own_st (fun _ k => XS.istore X2.here hx rfl (hb hby d4_17) rfl (l' := #[.val (.int q1), .val (.int q2), .val (.long q3), .second, .val (.long q4), .second, .val (.long q5), .second, .val (.long q6), .second, .val (.long q7), .second, .val (.int r2), .val (.int (q2 - r2)), .unset, .unset]) rfl k) ?_
    show own_G p.tables e below _ (T2.setTop (mkF m 19 #[.val (.int q1), .val (.int q2), .val (.long q3), .second, .val (.long q4), .second, .val (.long q5), .second, .val (.long q6), .second, .val (.long q7), .second, .val (.int r2), .val (.int (q2 - r2)), .unset, .unset] []))
    refine own_st (X2.ldc2Long hx hown (mvT hZ (hw _ (List.mem_of_getElem? (i := 50) rfl))) (g := (mkF m 19 #[.val (.int q1), .val (.int q2), .val (.long q3), .second, .val (.long q4), .second, .val (.long q5), .second, .val (.long q6), .second, .val (.long q7), .second, .val (.int r2), .val (.int (q2 - r2)), .unset, .unset] [])) rfl (hb hby d4_19)) ?_
    show own_G p.tables e below _ (T2.setTop (mkF m 22 #[.val (.int q1), .val (.int q2), .val (.long q3), .second, .val (.long q4), .second, .val (.long q5), .second, .val (.long q6), .second, .val (.long q7), .second, .val (.int r2), .val (.int (q2 - r2)), .unset, .unset] [(.long (-9223372036854775808 : Int64))]))
    refine own_st (fun _ k => XS.lstore X2.here hx rfl (hb hby d4_22) rfl (l' := #[.val (.int q1), .val (.int q2), .val (.long q3), .second, .val (.long q4), .second, .val (.long q5), .second, .val (.long q6), .second, .val (.long q7), .second, .val (.int r2), .val (.int (q2 - r2)), .val (.long (-9223372036854775808 : Int64)), .second]) rfl k) ?_
    show own_G p.tables e below _ (T2.setTop (mkF m 24 #[.val (.int q1), .val (.int q2), .val (.long q3), .second, .val (.long q4), .second, .val (.long q5), .second, .val (.long q6), .second, .val (.long q7), .second, .val (.int r2), .val (.int (q2 - r2)), .val (.long (-9223372036854775808 : Int64)), .second] []))
    refine own_st (fun _ k => XS.iload X2.here hx rfl (hb hby d4_24) rfl k) ?_
    show own_G p.tables e below _ (T2.setTop (mkF m 26 #[.val (.int q1), .val (.int q2), .val (.long q3), .second, .val (.long q4), .second, .val (.long q5), .second, .val (.long q6), .second, .val (.long q7), .second, .val (.int r2), .val (.int (q2 - r2)), .val (.long (-9223372036854775808 : Int64)), .second] [(.int (q2 - r2))]))
    have J42_4 : ∀ (z5 : Int64) (hz5 : z5 = (if (0 : Int32) < (q2 - r2) then (-9223372036854775808 : Int64) else (if (0 : Int32) < q2 then ((if (-9223372036854775808 : Int64) < q3 then q3 else (-9223372036854775808 : Int64))) else (-9223372036854775808 : Int64)))) (T6 : State) (L6 : List Loc) (X6 : Stand p l e ({ frames := 1, cells := 0, slots := 0, locals := 15 } : Room) s m #[(.int q1), (.int q2), (.long q3), (.long q4), (.long q5), (.long q6), (.long q7)] below meth c T6 L6 0 0) (N6 : Fr n0 L6) (e6 : T6.heap = h0), own_G p.tables e below (own_P s (Q4 Z q1 q2 q3 q4 q5 q6 q7 h0 n0) 0 0) (T6.setTop (mkF m 42 #[.val (.int q1), .val (.int q2), .val (.long q3), .second, .val (.long q4), .second, .val (.long q5), .second, .val (.long q6), .second, .val (.long q7), .second, .val (.int r2), .val (.int (q2 - r2)), .val (.long z5), .second] [])) := by
      intro z5 hz5 T6 L6 X6 N6 e6
      refine own_st (fun _ k => XS.iload X6.here hx rfl (hb hby d4_42) rfl k) ?_
      show own_G p.tables e below _ (T6.setTop (mkF m 44 #[.val (.int q1), .val (.int q2), .val (.long q3), .second, .val (.long q4), .second, .val (.long q5), .second, .val (.long q6), .second, .val (.long q7), .second, .val (.int r2), .val (.int (q2 - r2)), .val (.long z5), .second] [(.int (q2 - r2))]))
      refine own_st (fun _ k => XS.iconst X6.here hx rfl (hb hby d4_44) k) ?_
      show own_G p.tables e below _ (T6.setTop (mkF m 45 #[.val (.int q1), .val (.int q2), .val (.long q3), .second, .val (.long q4), .second, .val (.long q5), .second, .val (.long q6), .second, .val (.long q7), .second, .val (.int r2), .val (.int (q2 - r2)), .val (.long z5), .second] [(.int (1 : Int32)), (.int (q2 - r2))]))
      have J62_8 : ∀ (z9 : Int64) (hz9 : z9 = (if (1 : Int32) < (q2 - r2) then z5 else (if (1 : Int32) < q2 then ((if z5 < q4 then q4 else z5)) else z5))) (T10 : State) (L10 : List Loc) (X10 : Stand p l e ({ frames := 1, cells := 0, slots := 0, locals := 15 } : Room) s m #[(.int q1), (.int q2), (.long q3), (.long q4), (.long q5), (.long q6), (.long q7)] below meth c T10 L10 0 0) (N10 : Fr n0 L10) (e10 : T10.heap = h0), own_G p.tables e below (own_P s (Q4 Z q1 q2 q3 q4 q5 q6 q7 h0 n0) 0 0) (T10.setTop (mkF m 62 #[.val (.int q1), .val (.int q2), .val (.long q3), .second, .val (.long q4), .second, .val (.long q5), .second, .val (.long q6), .second, .val (.long q7), .second, .val (.int r2), .val (.int (q2 - r2)), .val (.long z9), .second] [])) := by
        intro z9 hz9 T10 L10 X10 N10 e10
        refine own_st (fun _ k => XS.iload X10.here hx rfl (hb hby d4_62) rfl k) ?_
        show own_G p.tables e below _ (T10.setTop (mkF m 64 #[.val (.int q1), .val (.int q2), .val (.long q3), .second, .val (.long q4), .second, .val (.long q5), .second, .val (.long q6), .second, .val (.long q7), .second, .val (.int r2), .val (.int (q2 - r2)), .val (.long z9), .second] [(.int (q2 - r2))]))
        refine own_st (fun _ k => XS.iconst X10.here hx rfl (hb hby d4_64) k) ?_
        show own_G p.tables e below _ (T10.setTop (mkF m 65 #[.val (.int q1), .val (.int q2), .val (.long q3), .second, .val (.long q4), .second, .val (.long q5), .second, .val (.long q6), .second, .val (.long q7), .second, .val (.int r2), .val (.int (q2 - r2)), .val (.long z9), .second] [(.int (2 : Int32)), (.int (q2 - r2))]))
        have J82_12 : ∀ (z13 : Int64) (hz13 : z13 = (if (2 : Int32) < (q2 - r2) then z9 else (if (2 : Int32) < q2 then ((if z9 < q5 then q5 else z9)) else z9))) (T14 : State) (L14 : List Loc) (X14 : Stand p l e ({ frames := 1, cells := 0, slots := 0, locals := 15 } : Room) s m #[(.int q1), (.int q2), (.long q3), (.long q4), (.long q5), (.long q6), (.long q7)] below meth c T14 L14 0 0) (N14 : Fr n0 L14) (e14 : T14.heap = h0), own_G p.tables e below (own_P s (Q4 Z q1 q2 q3 q4 q5 q6 q7 h0 n0) 0 0) (T14.setTop (mkF m 82 #[.val (.int q1), .val (.int q2), .val (.long q3), .second, .val (.long q4), .second, .val (.long q5), .second, .val (.long q6), .second, .val (.long q7), .second, .val (.int r2), .val (.int (q2 - r2)), .val (.long z13), .second] [])) := by
          intro z13 hz13 T14 L14 X14 N14 e14
          refine own_st (fun _ k => XS.iload X14.here hx rfl (hb hby d4_82) rfl k) ?_
          show own_G p.tables e below _ (T14.setTop (mkF m 84 #[.val (.int q1), .val (.int q2), .val (.long q3), .second, .val (.long q4), .second, .val (.long q5), .second, .val (.long q6), .second, .val (.long q7), .second, .val (.int r2), .val (.int (q2 - r2)), .val (.long z13), .second] [(.int (q2 - r2))]))
          refine own_st (fun _ k => XS.iconst X14.here hx rfl (hb hby d4_84) k) ?_
          show own_G p.tables e below _ (T14.setTop (mkF m 85 #[.val (.int q1), .val (.int q2), .val (.long q3), .second, .val (.long q4), .second, .val (.long q5), .second, .val (.long q6), .second, .val (.long q7), .second, .val (.int r2), .val (.int (q2 - r2)), .val (.long z13), .second] [(.int (3 : Int32)), (.int (q2 - r2))]))
          have J102_16 : ∀ (z17 : Int64) (hz17 : z17 = (if (3 : Int32) < (q2 - r2) then z13 else (if (3 : Int32) < q2 then ((if z13 < q6 then q6 else z13)) else z13))) (T18 : State) (L18 : List Loc) (X18 : Stand p l e ({ frames := 1, cells := 0, slots := 0, locals := 15 } : Room) s m #[(.int q1), (.int q2), (.long q3), (.long q4), (.long q5), (.long q6), (.long q7)] below meth c T18 L18 0 0) (N18 : Fr n0 L18) (e18 : T18.heap = h0), own_G p.tables e below (own_P s (Q4 Z q1 q2 q3 q4 q5 q6 q7 h0 n0) 0 0) (T18.setTop (mkF m 102 #[.val (.int q1), .val (.int q2), .val (.long q3), .second, .val (.long q4), .second, .val (.long q5), .second, .val (.long q6), .second, .val (.long q7), .second, .val (.int r2), .val (.int (q2 - r2)), .val (.long z17), .second] [])) := by
            intro z17 hz17 T18 L18 X18 N18 e18
            refine own_st (fun _ k => XS.iload X18.here hx rfl (hb hby d4_102) rfl k) ?_
            show own_G p.tables e below _ (T18.setTop (mkF m 104 #[.val (.int q1), .val (.int q2), .val (.long q3), .second, .val (.long q4), .second, .val (.long q5), .second, .val (.long q6), .second, .val (.long q7), .second, .val (.int r2), .val (.int (q2 - r2)), .val (.long z17), .second] [(.int (q2 - r2))]))
            refine own_st (fun _ k => XS.iconst X18.here hx rfl (hb hby d4_104) k) ?_
            show own_G p.tables e below _ (T18.setTop (mkF m 105 #[.val (.int q1), .val (.int q2), .val (.long q3), .second, .val (.long q4), .second, .val (.long q5), .second, .val (.long q6), .second, .val (.long q7), .second, .val (.int r2), .val (.int (q2 - r2)), .val (.long z17), .second] [(.int (4 : Int32)), (.int (q2 - r2))]))
            have J122_20 : ∀ (z21 : Int64) (hz21 : z21 = (if (4 : Int32) < (q2 - r2) then z17 else (if (4 : Int32) < q2 then ((if z17 < q7 then q7 else z17)) else z17))) (T22 : State) (L22 : List Loc) (X22 : Stand p l e ({ frames := 1, cells := 0, slots := 0, locals := 15 } : Room) s m #[(.int q1), (.int q2), (.long q3), (.long q4), (.long q5), (.long q6), (.long q7)] below meth c T22 L22 0 0) (N22 : Fr n0 L22) (e22 : T22.heap = h0), own_G p.tables e below (own_P s (Q4 Z q1 q2 q3 q4 q5 q6 q7 h0 n0) 0 0) (T22.setTop (mkF m 122 #[.val (.int q1), .val (.int q2), .val (.long q3), .second, .val (.long q4), .second, .val (.long q5), .second, .val (.long q6), .second, .val (.long q7), .second, .val (.int r2), .val (.int (q2 - r2)), .val (.long z21), .second] [])) := by
              intro z21 hz21 T22 L22 X22 N22 e22
              refine own_st (fun _ k => XS.lload X22.here hx rfl (hb hby d4_122) rfl k) ?_
              show own_G p.tables e below _ (T22.setTop (mkF m 124 #[.val (.int q1), .val (.int q2), .val (.long q3), .second, .val (.long q4), .second, .val (.long q5), .second, .val (.long q6), .second, .val (.long q7), .second, .val (.int r2), .val (.int (q2 - r2)), .val (.long z21), .second] [(.long z21)]))
              exact own_retJ X22 hx hlk Bd.returns (hb hby d4_124) (by rw [e22]; exact ⟨⟨_, rfl, (by subst hz21; subst hz17; subst hz13; subst hz9; subst hz5; subst hr2; exact (own_exp1 hc1_1).symm)⟩, N22, rfl⟩) (by decide) (by decide)
            by_cases hc105_19 : (4 : Int32) < (q2 - r2)
            · refine own_st (fun _ k => XS.icmpYes X18.here hx rfl (pc0 := 105) (pc' := 122) rfl (hb hby d4_105) rfl (tlt hc105_19).2.2.1 (by decide) (by decide) k) ?_
              show own_G p.tables e below _ (T18.setTop (mkF m 122 #[.val (.int q1), .val (.int q2), .val (.long q3), .second, .val (.long q4), .second, .val (.long q5), .second, .val (.long q6), .second, .val (.long q7), .second, .val (.int r2), .val (.int (q2 - r2)), .val (.long z17), .second] []))
              exact J122_20 z17 ((if_pos hc105_19).symm) _ _ X18 N18 e18
            · refine own_st (fun _ k => XS.icmpNo X18.here hx rfl (hb hby d4_105) rfl (flt hc105_19).2.2.1 k) ?_
              show own_G p.tables e below _ (T18.setTop (mkF m 108 #[.val (.int q1), .val (.int q2), .val (.long q3), .second, .val (.long q4), .second, .val (.long q5), .second, .val (.long q6), .second, .val (.long q7), .second, .val (.int r2), .val (.int (q2 - r2)), .val (.long z17), .second] []))
              refine own_st (fun _ k => XS.iconst X18.here hx rfl (hb hby d4_108) k) ?_
              show own_G p.tables e below _ (T18.setTop (mkF m 109 #[.val (.int q1), .val (.int q2), .val (.long q3), .second, .val (.long q4), .second, .val (.long q5), .second, .val (.long q6), .second, .val (.long q7), .second, .val (.int r2), .val (.int (q2 - r2)), .val (.long z17), .second] [(.int (4 : Int32))]))
              refine own_st (fun _ k => XS.iloadN X18.here hx rfl (hb hby d4_109) rfl k) ?_
              show own_G p.tables e below _ (T18.setTop (mkF m 110 #[.val (.int q1), .val (.int q2), .val (.long q3), .second, .val (.long q4), .second, .val (.long q5), .second, .val (.long q6), .second, .val (.long q7), .second, .val (.int r2), .val (.int (q2 - r2)), .val (.long z17), .second] [(.int q2), (.int (4 : Int32))]))
              by_cases hc110_23 : (4 : Int32) < q2
              · refine own_st (fun _ k => XS.icmpNo X18.here hx rfl (hb hby d4_110) rfl (tlt hc110_23).2.1 k) ?_
                show own_G p.tables e below _ (T18.setTop (mkF m 113 #[.val (.int q1), .val (.int q2), .val (.long q3), .second, .val (.long q4), .second, .val (.long q5), .second, .val (.long q6), .second, .val (.long q7), .second, .val (.int r2), .val (.int (q2 - r2)), .val (.long z17), .second] []))
                refine own_st (fun _ k => XS.lload X18.here hx rfl (hb hby d4_113) rfl k) ?_
                show own_G p.tables e below _ (T18.setTop (mkF m 115 #[.val (.int q1), .val (.int q2), .val (.long q3), .second, .val (.long q4), .second, .val (.long q5), .second, .val (.long q6), .second, .val (.long q7), .second, .val (.int r2), .val (.int (q2 - r2)), .val (.long z17), .second] [(.long z17)]))
                refine own_st (fun _ k => XS.lload X18.here hx rfl (hb hby d4_115) rfl k) ?_
                show own_G p.tables e below _ (T18.setTop (mkF m 117 #[.val (.int q1), .val (.int q2), .val (.long q3), .second, .val (.long q4), .second, .val (.long q5), .second, .val (.long q6), .second, .val (.long q7), .second, .val (.int r2), .val (.int (q2 - r2)), .val (.long z17), .second] [(.long q7), (.long z17)]))
                obtain ⟨_, _, ⟨T24, L24, k24, n24⟩, -, X24, ⟨Lc24, hQ24, l24, y24, z24⟩, st24⟩ := Jvm.LawKit.callS X18 hx (y := (⟨"java/lang/Math", "max", "(JJ)J"⟩ : MethodName)) hown (mvT hZ (hw _ (List.mem_of_getElem? (i := 51) rfl))) (mvT hZ (hw _ (List.mem_of_getElem? (i := 52) rfl))) (mvT hZ (hw _ (List.mem_of_getElem? (i := 48) rfl))) (mvT hZ (hw _ (List.mem_of_getElem? (i := 53) rfl))) (by decide) (backOf (W := 0) (rm10 l Z a0 hw [] z17 q7 h0 n0 Z0 ) hZ (hw _ (List.mem_of_getElem? (i := 53) rfl)) (hw _ (List.mem_of_getElem? (i := 48) rfl)) (by decide) (by decide)) (g := (mkF m 117 #[.val (.int q1), .val (.int q2), .val (.long q3), .second, .val (.long q4), .second, .val (.long q5), .second, .val (.long q6), .second, .val (.long q7), .second, .val (.int r2), .val (.int (q2 - r2)), .val (.long z17), .second] [(.long q7), (.long z17)])) rfl (by rw [hml]; rfl) (argsL := [(.long z17), (.long q7)]) (rest := []) (lenOf pd_3 rfl) rfl (by show 2 * 0 + _ ≤ _; exact Nat.le_of_eq rfl) (hb hby d4_117) (fun _ _ => ⟨rfl, e18, (by decide : 0 + 0 ≤ _), (by decide : 0 + 0 ≤ _)⟩)
                dsimp only [Pt.U, Pt.locs, Pt.cells, Pt.slots] at X24 l24 y24 z24 st24 hQ24
                subst l24 y24 z24
                obtain ⟨⟨r24, rfl, hr24⟩, N24q, e24⟩ := hQ24
                have N24 := Fr.app N18 N24q
                refine own_st st24 ?_
                show own_G p.tables e below _ (T24.setTop (mkF m 120 #[.val (.int q1), .val (.int q2), .val (.long q3), .second, .val (.long q4), .second, .val (.long q5), .second, .val (.long q6), .second, .val (.long q7), .second, .val (.int r2), .val (.int (q2 - r2)), .val (.long z17), .second] [(.long r24)]))
                refine own_st (fun _ k => XS.lstore X24.here hx rfl (hb hby d4_120) rfl (l' := #[.val (.int q1), .val (.int q2), .val (.long q3), .second, .val (.long q4), .second, .val (.long q5), .second, .val (.long q6), .second, .val (.long q7), .second, .val (.int r2), .val (.int (q2 - r2)), .val (.long r24), .second]) rfl k) ?_
                show own_G p.tables e below _ (T24.setTop (mkF m 122 #[.val (.int q1), .val (.int q2), .val (.long q3), .second, .val (.long q4), .second, .val (.long q5), .second, .val (.long q6), .second, .val (.long q7), .second, .val (.int r2), .val (.int (q2 - r2)), .val (.long r24), .second] []))
                exact J122_20 r24 (by subst hr24; exact ((if_neg hc105_19).trans (if_pos hc110_23)).symm) _ _ X24 N24 e24
              · refine own_st (fun _ k => XS.icmpYes X18.here hx rfl (pc0 := 110) (pc' := 122) rfl (hb hby d4_110) rfl (flt hc110_23).2.1 (by decide) (by decide) k) ?_
                show own_G p.tables e below _ (T18.setTop (mkF m 122 #[.val (.int q1), .val (.int q2), .val (.long q3), .second, .val (.long q4), .second, .val (.long q5), .second, .val (.long q6), .second, .val (.long q7), .second, .val (.int r2), .val (.int (q2 - r2)), .val (.long z17), .second] []))
                exact J122_20 z17 (((if_neg hc105_19).trans (if_neg hc110_23)).symm) _ _ X18 N18 e18
          by_cases hc85_15 : (3 : Int32) < (q2 - r2)
          · refine own_st (fun _ k => XS.icmpYes X14.here hx rfl (pc0 := 85) (pc' := 102) rfl (hb hby d4_85) rfl (tlt hc85_15).2.2.1 (by decide) (by decide) k) ?_
            show own_G p.tables e below _ (T14.setTop (mkF m 102 #[.val (.int q1), .val (.int q2), .val (.long q3), .second, .val (.long q4), .second, .val (.long q5), .second, .val (.long q6), .second, .val (.long q7), .second, .val (.int r2), .val (.int (q2 - r2)), .val (.long z13), .second] []))
            exact J102_16 z13 ((if_pos hc85_15).symm) _ _ X14 N14 e14
          · refine own_st (fun _ k => XS.icmpNo X14.here hx rfl (hb hby d4_85) rfl (flt hc85_15).2.2.1 k) ?_
            show own_G p.tables e below _ (T14.setTop (mkF m 88 #[.val (.int q1), .val (.int q2), .val (.long q3), .second, .val (.long q4), .second, .val (.long q5), .second, .val (.long q6), .second, .val (.long q7), .second, .val (.int r2), .val (.int (q2 - r2)), .val (.long z13), .second] []))
            refine own_st (fun _ k => XS.iconst X14.here hx rfl (hb hby d4_88) k) ?_
            show own_G p.tables e below _ (T14.setTop (mkF m 89 #[.val (.int q1), .val (.int q2), .val (.long q3), .second, .val (.long q4), .second, .val (.long q5), .second, .val (.long q6), .second, .val (.long q7), .second, .val (.int r2), .val (.int (q2 - r2)), .val (.long z13), .second] [(.int (3 : Int32))]))
            refine own_st (fun _ k => XS.iloadN X14.here hx rfl (hb hby d4_89) rfl k) ?_
            show own_G p.tables e below _ (T14.setTop (mkF m 90 #[.val (.int q1), .val (.int q2), .val (.long q3), .second, .val (.long q4), .second, .val (.long q5), .second, .val (.long q6), .second, .val (.long q7), .second, .val (.int r2), .val (.int (q2 - r2)), .val (.long z13), .second] [(.int q2), (.int (3 : Int32))]))
            by_cases hc90_25 : (3 : Int32) < q2
            · refine own_st (fun _ k => XS.icmpNo X14.here hx rfl (hb hby d4_90) rfl (tlt hc90_25).2.1 k) ?_
              show own_G p.tables e below _ (T14.setTop (mkF m 93 #[.val (.int q1), .val (.int q2), .val (.long q3), .second, .val (.long q4), .second, .val (.long q5), .second, .val (.long q6), .second, .val (.long q7), .second, .val (.int r2), .val (.int (q2 - r2)), .val (.long z13), .second] []))
              refine own_st (fun _ k => XS.lload X14.here hx rfl (hb hby d4_93) rfl k) ?_
              show own_G p.tables e below _ (T14.setTop (mkF m 95 #[.val (.int q1), .val (.int q2), .val (.long q3), .second, .val (.long q4), .second, .val (.long q5), .second, .val (.long q6), .second, .val (.long q7), .second, .val (.int r2), .val (.int (q2 - r2)), .val (.long z13), .second] [(.long z13)]))
              refine own_st (fun _ k => XS.lload X14.here hx rfl (hb hby d4_95) rfl k) ?_
              show own_G p.tables e below _ (T14.setTop (mkF m 97 #[.val (.int q1), .val (.int q2), .val (.long q3), .second, .val (.long q4), .second, .val (.long q5), .second, .val (.long q6), .second, .val (.long q7), .second, .val (.int r2), .val (.int (q2 - r2)), .val (.long z13), .second] [(.long q6), (.long z13)]))
              obtain ⟨_, _, ⟨T26, L26, k26, n26⟩, -, X26, ⟨Lc26, hQ26, l26, y26, z26⟩, st26⟩ := Jvm.LawKit.callS X14 hx (y := (⟨"java/lang/Math", "max", "(JJ)J"⟩ : MethodName)) hown (mvT hZ (hw _ (List.mem_of_getElem? (i := 51) rfl))) (mvT hZ (hw _ (List.mem_of_getElem? (i := 52) rfl))) (mvT hZ (hw _ (List.mem_of_getElem? (i := 48) rfl))) (mvT hZ (hw _ (List.mem_of_getElem? (i := 53) rfl))) (by decide) (backOf (W := 0) (rm10 l Z a0 hw [] z13 q6 h0 n0 Z0 ) hZ (hw _ (List.mem_of_getElem? (i := 53) rfl)) (hw _ (List.mem_of_getElem? (i := 48) rfl)) (by decide) (by decide)) (g := (mkF m 97 #[.val (.int q1), .val (.int q2), .val (.long q3), .second, .val (.long q4), .second, .val (.long q5), .second, .val (.long q6), .second, .val (.long q7), .second, .val (.int r2), .val (.int (q2 - r2)), .val (.long z13), .second] [(.long q6), (.long z13)])) rfl (by rw [hml]; rfl) (argsL := [(.long z13), (.long q6)]) (rest := []) (lenOf pd_3 rfl) rfl (by show 2 * 0 + _ ≤ _; exact Nat.le_of_eq rfl) (hb hby d4_97) (fun _ _ => ⟨rfl, e14, (by decide : 0 + 0 ≤ _), (by decide : 0 + 0 ≤ _)⟩)
              dsimp only [Pt.U, Pt.locs, Pt.cells, Pt.slots] at X26 l26 y26 z26 st26 hQ26
              subst l26 y26 z26
              obtain ⟨⟨r26, rfl, hr26⟩, N26q, e26⟩ := hQ26
              have N26 := Fr.app N14 N26q
              refine own_st st26 ?_
              show own_G p.tables e below _ (T26.setTop (mkF m 100 #[.val (.int q1), .val (.int q2), .val (.long q3), .second, .val (.long q4), .second, .val (.long q5), .second, .val (.long q6), .second, .val (.long q7), .second, .val (.int r2), .val (.int (q2 - r2)), .val (.long z13), .second] [(.long r26)]))
              refine own_st (fun _ k => XS.lstore X26.here hx rfl (hb hby d4_100) rfl (l' := #[.val (.int q1), .val (.int q2), .val (.long q3), .second, .val (.long q4), .second, .val (.long q5), .second, .val (.long q6), .second, .val (.long q7), .second, .val (.int r2), .val (.int (q2 - r2)), .val (.long r26), .second]) rfl k) ?_
              show own_G p.tables e below _ (T26.setTop (mkF m 102 #[.val (.int q1), .val (.int q2), .val (.long q3), .second, .val (.long q4), .second, .val (.long q5), .second, .val (.long q6), .second, .val (.long q7), .second, .val (.int r2), .val (.int (q2 - r2)), .val (.long r26), .second] []))
              exact J102_16 r26 (by subst hr26; exact ((if_neg hc85_15).trans (if_pos hc90_25)).symm) _ _ X26 N26 e26
            · refine own_st (fun _ k => XS.icmpYes X14.here hx rfl (pc0 := 90) (pc' := 102) rfl (hb hby d4_90) rfl (flt hc90_25).2.1 (by decide) (by decide) k) ?_
              show own_G p.tables e below _ (T14.setTop (mkF m 102 #[.val (.int q1), .val (.int q2), .val (.long q3), .second, .val (.long q4), .second, .val (.long q5), .second, .val (.long q6), .second, .val (.long q7), .second, .val (.int r2), .val (.int (q2 - r2)), .val (.long z13), .second] []))
              exact J102_16 z13 (((if_neg hc85_15).trans (if_neg hc90_25)).symm) _ _ X14 N14 e14
        by_cases hc65_11 : (2 : Int32) < (q2 - r2)
        · refine own_st (fun _ k => XS.icmpYes X10.here hx rfl (pc0 := 65) (pc' := 82) rfl (hb hby d4_65) rfl (tlt hc65_11).2.2.1 (by decide) (by decide) k) ?_
          show own_G p.tables e below _ (T10.setTop (mkF m 82 #[.val (.int q1), .val (.int q2), .val (.long q3), .second, .val (.long q4), .second, .val (.long q5), .second, .val (.long q6), .second, .val (.long q7), .second, .val (.int r2), .val (.int (q2 - r2)), .val (.long z9), .second] []))
          exact J82_12 z9 ((if_pos hc65_11).symm) _ _ X10 N10 e10
        · refine own_st (fun _ k => XS.icmpNo X10.here hx rfl (hb hby d4_65) rfl (flt hc65_11).2.2.1 k) ?_
          show own_G p.tables e below _ (T10.setTop (mkF m 68 #[.val (.int q1), .val (.int q2), .val (.long q3), .second, .val (.long q4), .second, .val (.long q5), .second, .val (.long q6), .second, .val (.long q7), .second, .val (.int r2), .val (.int (q2 - r2)), .val (.long z9), .second] []))
          refine own_st (fun _ k => XS.iconst X10.here hx rfl (hb hby d4_68) k) ?_
          show own_G p.tables e below _ (T10.setTop (mkF m 69 #[.val (.int q1), .val (.int q2), .val (.long q3), .second, .val (.long q4), .second, .val (.long q5), .second, .val (.long q6), .second, .val (.long q7), .second, .val (.int r2), .val (.int (q2 - r2)), .val (.long z9), .second] [(.int (2 : Int32))]))
          refine own_st (fun _ k => XS.iloadN X10.here hx rfl (hb hby d4_69) rfl k) ?_
          show own_G p.tables e below _ (T10.setTop (mkF m 70 #[.val (.int q1), .val (.int q2), .val (.long q3), .second, .val (.long q4), .second, .val (.long q5), .second, .val (.long q6), .second, .val (.long q7), .second, .val (.int r2), .val (.int (q2 - r2)), .val (.long z9), .second] [(.int q2), (.int (2 : Int32))]))
          by_cases hc70_27 : (2 : Int32) < q2
          · refine own_st (fun _ k => XS.icmpNo X10.here hx rfl (hb hby d4_70) rfl (tlt hc70_27).2.1 k) ?_
            show own_G p.tables e below _ (T10.setTop (mkF m 73 #[.val (.int q1), .val (.int q2), .val (.long q3), .second, .val (.long q4), .second, .val (.long q5), .second, .val (.long q6), .second, .val (.long q7), .second, .val (.int r2), .val (.int (q2 - r2)), .val (.long z9), .second] []))
            refine own_st (fun _ k => XS.lload X10.here hx rfl (hb hby d4_73) rfl k) ?_
            show own_G p.tables e below _ (T10.setTop (mkF m 75 #[.val (.int q1), .val (.int q2), .val (.long q3), .second, .val (.long q4), .second, .val (.long q5), .second, .val (.long q6), .second, .val (.long q7), .second, .val (.int r2), .val (.int (q2 - r2)), .val (.long z9), .second] [(.long z9)]))
            refine own_st (fun _ k => XS.lload X10.here hx rfl (hb hby d4_75) rfl k) ?_
            show own_G p.tables e below _ (T10.setTop (mkF m 77 #[.val (.int q1), .val (.int q2), .val (.long q3), .second, .val (.long q4), .second, .val (.long q5), .second, .val (.long q6), .second, .val (.long q7), .second, .val (.int r2), .val (.int (q2 - r2)), .val (.long z9), .second] [(.long q5), (.long z9)]))
            obtain ⟨_, _, ⟨T28, L28, k28, n28⟩, -, X28, ⟨Lc28, hQ28, l28, y28, z28⟩, st28⟩ := Jvm.LawKit.callS X10 hx (y := (⟨"java/lang/Math", "max", "(JJ)J"⟩ : MethodName)) hown (mvT hZ (hw _ (List.mem_of_getElem? (i := 51) rfl))) (mvT hZ (hw _ (List.mem_of_getElem? (i := 52) rfl))) (mvT hZ (hw _ (List.mem_of_getElem? (i := 48) rfl))) (mvT hZ (hw _ (List.mem_of_getElem? (i := 53) rfl))) (by decide) (backOf (W := 0) (rm10 l Z a0 hw [] z9 q5 h0 n0 Z0 ) hZ (hw _ (List.mem_of_getElem? (i := 53) rfl)) (hw _ (List.mem_of_getElem? (i := 48) rfl)) (by decide) (by decide)) (g := (mkF m 77 #[.val (.int q1), .val (.int q2), .val (.long q3), .second, .val (.long q4), .second, .val (.long q5), .second, .val (.long q6), .second, .val (.long q7), .second, .val (.int r2), .val (.int (q2 - r2)), .val (.long z9), .second] [(.long q5), (.long z9)])) rfl (by rw [hml]; rfl) (argsL := [(.long z9), (.long q5)]) (rest := []) (lenOf pd_3 rfl) rfl (by show 2 * 0 + _ ≤ _; exact Nat.le_of_eq rfl) (hb hby d4_77) (fun _ _ => ⟨rfl, e10, (by decide : 0 + 0 ≤ _), (by decide : 0 + 0 ≤ _)⟩)
            dsimp only [Pt.U, Pt.locs, Pt.cells, Pt.slots] at X28 l28 y28 z28 st28 hQ28
            subst l28 y28 z28
            obtain ⟨⟨r28, rfl, hr28⟩, N28q, e28⟩ := hQ28
            have N28 := Fr.app N10 N28q
            refine own_st st28 ?_
            show own_G p.tables e below _ (T28.setTop (mkF m 80 #[.val (.int q1), .val (.int q2), .val (.long q3), .second, .val (.long q4), .second, .val (.long q5), .second, .val (.long q6), .second, .val (.long q7), .second, .val (.int r2), .val (.int (q2 - r2)), .val (.long z9), .second] [(.long r28)]))
            refine own_st (fun _ k => XS.lstore X28.here hx rfl (hb hby d4_80) rfl (l' := #[.val (.int q1), .val (.int q2), .val (.long q3), .second, .val (.long q4), .second, .val (.long q5), .second, .val (.long q6), .second, .val (.long q7), .second, .val (.int r2), .val (.int (q2 - r2)), .val (.long r28), .second]) rfl k) ?_
            show own_G p.tables e below _ (T28.setTop (mkF m 82 #[.val (.int q1), .val (.int q2), .val (.long q3), .second, .val (.long q4), .second, .val (.long q5), .second, .val (.long q6), .second, .val (.long q7), .second, .val (.int r2), .val (.int (q2 - r2)), .val (.long r28), .second] []))
            exact J82_12 r28 (by subst hr28; exact ((if_neg hc65_11).trans (if_pos hc70_27)).symm) _ _ X28 N28 e28
          · refine own_st (fun _ k => XS.icmpYes X10.here hx rfl (pc0 := 70) (pc' := 82) rfl (hb hby d4_70) rfl (flt hc70_27).2.1 (by decide) (by decide) k) ?_
            show own_G p.tables e below _ (T10.setTop (mkF m 82 #[.val (.int q1), .val (.int q2), .val (.long q3), .second, .val (.long q4), .second, .val (.long q5), .second, .val (.long q6), .second, .val (.long q7), .second, .val (.int r2), .val (.int (q2 - r2)), .val (.long z9), .second] []))
            exact J82_12 z9 (((if_neg hc65_11).trans (if_neg hc70_27)).symm) _ _ X10 N10 e10
      by_cases hc45_7 : (1 : Int32) < (q2 - r2)
      · refine own_st (fun _ k => XS.icmpYes X6.here hx rfl (pc0 := 45) (pc' := 62) rfl (hb hby d4_45) rfl (tlt hc45_7).2.2.1 (by decide) (by decide) k) ?_
        show own_G p.tables e below _ (T6.setTop (mkF m 62 #[.val (.int q1), .val (.int q2), .val (.long q3), .second, .val (.long q4), .second, .val (.long q5), .second, .val (.long q6), .second, .val (.long q7), .second, .val (.int r2), .val (.int (q2 - r2)), .val (.long z5), .second] []))
        exact J62_8 z5 ((if_pos hc45_7).symm) _ _ X6 N6 e6
      · refine own_st (fun _ k => XS.icmpNo X6.here hx rfl (hb hby d4_45) rfl (flt hc45_7).2.2.1 k) ?_
        show own_G p.tables e below _ (T6.setTop (mkF m 48 #[.val (.int q1), .val (.int q2), .val (.long q3), .second, .val (.long q4), .second, .val (.long q5), .second, .val (.long q6), .second, .val (.long q7), .second, .val (.int r2), .val (.int (q2 - r2)), .val (.long z5), .second] []))
        refine own_st (fun _ k => XS.iconst X6.here hx rfl (hb hby d4_48) k) ?_
        show own_G p.tables e below _ (T6.setTop (mkF m 49 #[.val (.int q1), .val (.int q2), .val (.long q3), .second, .val (.long q4), .second, .val (.long q5), .second, .val (.long q6), .second, .val (.long q7), .second, .val (.int r2), .val (.int (q2 - r2)), .val (.long z5), .second] [(.int (1 : Int32))]))
        refine own_st (fun _ k => XS.iloadN X6.here hx rfl (hb hby d4_49) rfl k) ?_
        show own_G p.tables e below _ (T6.setTop (mkF m 50 #[.val (.int q1), .val (.int q2), .val (.long q3), .second, .val (.long q4), .second, .val (.long q5), .second, .val (.long q6), .second, .val (.long q7), .second, .val (.int r2), .val (.int (q2 - r2)), .val (.long z5), .second] [(.int q2), (.int (1 : Int32))]))
        by_cases hc50_29 : (1 : Int32) < q2
        · refine own_st (fun _ k => XS.icmpNo X6.here hx rfl (hb hby d4_50) rfl (tlt hc50_29).2.1 k) ?_
          show own_G p.tables e below _ (T6.setTop (mkF m 53 #[.val (.int q1), .val (.int q2), .val (.long q3), .second, .val (.long q4), .second, .val (.long q5), .second, .val (.long q6), .second, .val (.long q7), .second, .val (.int r2), .val (.int (q2 - r2)), .val (.long z5), .second] []))
          refine own_st (fun _ k => XS.lload X6.here hx rfl (hb hby d4_53) rfl k) ?_
          show own_G p.tables e below _ (T6.setTop (mkF m 55 #[.val (.int q1), .val (.int q2), .val (.long q3), .second, .val (.long q4), .second, .val (.long q5), .second, .val (.long q6), .second, .val (.long q7), .second, .val (.int r2), .val (.int (q2 - r2)), .val (.long z5), .second] [(.long z5)]))
          refine own_st (fun _ k => XS.lload X6.here hx rfl (hb hby d4_55) rfl k) ?_
          show own_G p.tables e below _ (T6.setTop (mkF m 57 #[.val (.int q1), .val (.int q2), .val (.long q3), .second, .val (.long q4), .second, .val (.long q5), .second, .val (.long q6), .second, .val (.long q7), .second, .val (.int r2), .val (.int (q2 - r2)), .val (.long z5), .second] [(.long q4), (.long z5)]))
          obtain ⟨_, _, ⟨T30, L30, k30, n30⟩, -, X30, ⟨Lc30, hQ30, l30, y30, z30⟩, st30⟩ := Jvm.LawKit.callS X6 hx (y := (⟨"java/lang/Math", "max", "(JJ)J"⟩ : MethodName)) hown (mvT hZ (hw _ (List.mem_of_getElem? (i := 51) rfl))) (mvT hZ (hw _ (List.mem_of_getElem? (i := 52) rfl))) (mvT hZ (hw _ (List.mem_of_getElem? (i := 48) rfl))) (mvT hZ (hw _ (List.mem_of_getElem? (i := 53) rfl))) (by decide) (backOf (W := 0) (rm10 l Z a0 hw [] z5 q4 h0 n0 Z0 ) hZ (hw _ (List.mem_of_getElem? (i := 53) rfl)) (hw _ (List.mem_of_getElem? (i := 48) rfl)) (by decide) (by decide)) (g := (mkF m 57 #[.val (.int q1), .val (.int q2), .val (.long q3), .second, .val (.long q4), .second, .val (.long q5), .second, .val (.long q6), .second, .val (.long q7), .second, .val (.int r2), .val (.int (q2 - r2)), .val (.long z5), .second] [(.long q4), (.long z5)])) rfl (by rw [hml]; rfl) (argsL := [(.long z5), (.long q4)]) (rest := []) (lenOf pd_3 rfl) rfl (by show 2 * 0 + _ ≤ _; exact Nat.le_of_eq rfl) (hb hby d4_57) (fun _ _ => ⟨rfl, e6, (by decide : 0 + 0 ≤ _), (by decide : 0 + 0 ≤ _)⟩)
          dsimp only [Pt.U, Pt.locs, Pt.cells, Pt.slots] at X30 l30 y30 z30 st30 hQ30
          subst l30 y30 z30
          obtain ⟨⟨r30, rfl, hr30⟩, N30q, e30⟩ := hQ30
          have N30 := Fr.app N6 N30q
          refine own_st st30 ?_
          show own_G p.tables e below _ (T30.setTop (mkF m 60 #[.val (.int q1), .val (.int q2), .val (.long q3), .second, .val (.long q4), .second, .val (.long q5), .second, .val (.long q6), .second, .val (.long q7), .second, .val (.int r2), .val (.int (q2 - r2)), .val (.long z5), .second] [(.long r30)]))
          refine own_st (fun _ k => XS.lstore X30.here hx rfl (hb hby d4_60) rfl (l' := #[.val (.int q1), .val (.int q2), .val (.long q3), .second, .val (.long q4), .second, .val (.long q5), .second, .val (.long q6), .second, .val (.long q7), .second, .val (.int r2), .val (.int (q2 - r2)), .val (.long r30), .second]) rfl k) ?_
          show own_G p.tables e below _ (T30.setTop (mkF m 62 #[.val (.int q1), .val (.int q2), .val (.long q3), .second, .val (.long q4), .second, .val (.long q5), .second, .val (.long q6), .second, .val (.long q7), .second, .val (.int r2), .val (.int (q2 - r2)), .val (.long r30), .second] []))
          exact J62_8 r30 (by subst hr30; exact ((if_neg hc45_7).trans (if_pos hc50_29)).symm) _ _ X30 N30 e30
        · refine own_st (fun _ k => XS.icmpYes X6.here hx rfl (pc0 := 50) (pc' := 62) rfl (hb hby d4_50) rfl (flt hc50_29).2.1 (by decide) (by decide) k) ?_
          show own_G p.tables e below _ (T6.setTop (mkF m 62 #[.val (.int q1), .val (.int q2), .val (.long q3), .second, .val (.long q4), .second, .val (.long q5), .second, .val (.long q6), .second, .val (.long q7), .second, .val (.int r2), .val (.int (q2 - r2)), .val (.long z5), .second] []))
          exact J62_8 z5 (((if_neg hc45_7).trans (if_neg hc50_29)).symm) _ _ X6 N6 e6
    by_cases hc26_3 : (0 : Int32) < (q2 - r2)
    · refine own_st (fun _ k => XS.ifYes X2.here hx rfl (pc0 := 26) (pc' := 42) rfl (hb hby d4_26) rfl ((if0 _ _).trans (tlt hc26_3).2.2.1) (by decide) (by decide) k) ?_
      show own_G p.tables e below _ (T2.setTop (mkF m 42 #[.val (.int q1), .val (.int q2), .val (.long q3), .second, .val (.long q4), .second, .val (.long q5), .second, .val (.long q6), .second, .val (.long q7), .second, .val (.int r2), .val (.int (q2 - r2)), .val (.long (-9223372036854775808 : Int64)), .second] []))
      exact J42_4 (-9223372036854775808 : Int64) ((if_pos hc26_3).symm) _ _ X2 N2 e2
    · refine own_st (fun _ k => XS.ifNo X2.here hx rfl (hb hby d4_26) rfl ((if0 _ _).trans (flt hc26_3).2.2.1) k) ?_
      show own_G p.tables e below _ (T2.setTop (mkF m 29 #[.val (.int q1), .val (.int q2), .val (.long q3), .second, .val (.long q4), .second, .val (.long q5), .second, .val (.long q6), .second, .val (.long q7), .second, .val (.int r2), .val (.int (q2 - r2)), .val (.long (-9223372036854775808 : Int64)), .second] []))
      refine own_st (fun _ k => XS.iconst X2.here hx rfl (hb hby d4_29) k) ?_
      show own_G p.tables e below _ (T2.setTop (mkF m 30 #[.val (.int q1), .val (.int q2), .val (.long q3), .second, .val (.long q4), .second, .val (.long q5), .second, .val (.long q6), .second, .val (.long q7), .second, .val (.int r2), .val (.int (q2 - r2)), .val (.long (-9223372036854775808 : Int64)), .second] [(.int (0 : Int32))]))
      refine own_st (fun _ k => XS.iloadN X2.here hx rfl (hb hby d4_30) rfl k) ?_
      show own_G p.tables e below _ (T2.setTop (mkF m 31 #[.val (.int q1), .val (.int q2), .val (.long q3), .second, .val (.long q4), .second, .val (.long q5), .second, .val (.long q6), .second, .val (.long q7), .second, .val (.int r2), .val (.int (q2 - r2)), .val (.long (-9223372036854775808 : Int64)), .second] [(.int q2), (.int (0 : Int32))]))
      by_cases hc31_31 : (0 : Int32) < q2
      · refine own_st (fun _ k => XS.icmpNo X2.here hx rfl (hb hby d4_31) rfl (tlt hc31_31).2.1 k) ?_
        show own_G p.tables e below _ (T2.setTop (mkF m 34 #[.val (.int q1), .val (.int q2), .val (.long q3), .second, .val (.long q4), .second, .val (.long q5), .second, .val (.long q6), .second, .val (.long q7), .second, .val (.int r2), .val (.int (q2 - r2)), .val (.long (-9223372036854775808 : Int64)), .second] []))
        refine own_st (fun _ k => XS.lload X2.here hx rfl (hb hby d4_34) rfl k) ?_
        show own_G p.tables e below _ (T2.setTop (mkF m 36 #[.val (.int q1), .val (.int q2), .val (.long q3), .second, .val (.long q4), .second, .val (.long q5), .second, .val (.long q6), .second, .val (.long q7), .second, .val (.int r2), .val (.int (q2 - r2)), .val (.long (-9223372036854775808 : Int64)), .second] [(.long (-9223372036854775808 : Int64))]))
        refine own_st (fun _ k => XS.lloadN X2.here hx rfl (hb hby d4_36) rfl k) ?_
        show own_G p.tables e below _ (T2.setTop (mkF m 37 #[.val (.int q1), .val (.int q2), .val (.long q3), .second, .val (.long q4), .second, .val (.long q5), .second, .val (.long q6), .second, .val (.long q7), .second, .val (.int r2), .val (.int (q2 - r2)), .val (.long (-9223372036854775808 : Int64)), .second] [(.long q3), (.long (-9223372036854775808 : Int64))]))
        obtain ⟨_, _, ⟨T32, L32, k32, n32⟩, -, X32, ⟨Lc32, hQ32, l32, y32, z32⟩, st32⟩ := Jvm.LawKit.callS X2 hx (y := (⟨"java/lang/Math", "max", "(JJ)J"⟩ : MethodName)) hown (mvT hZ (hw _ (List.mem_of_getElem? (i := 51) rfl))) (mvT hZ (hw _ (List.mem_of_getElem? (i := 52) rfl))) (mvT hZ (hw _ (List.mem_of_getElem? (i := 48) rfl))) (mvT hZ (hw _ (List.mem_of_getElem? (i := 53) rfl))) (by decide) (backOf (W := 0) (rm10 l Z a0 hw [] (-9223372036854775808 : Int64) q3 h0 n0 Z0 ) hZ (hw _ (List.mem_of_getElem? (i := 53) rfl)) (hw _ (List.mem_of_getElem? (i := 48) rfl)) (by decide) (by decide)) (g := (mkF m 37 #[.val (.int q1), .val (.int q2), .val (.long q3), .second, .val (.long q4), .second, .val (.long q5), .second, .val (.long q6), .second, .val (.long q7), .second, .val (.int r2), .val (.int (q2 - r2)), .val (.long (-9223372036854775808 : Int64)), .second] [(.long q3), (.long (-9223372036854775808 : Int64))])) rfl (by rw [hml]; rfl) (argsL := [(.long (-9223372036854775808 : Int64)), (.long q3)]) (rest := []) (lenOf pd_3 rfl) rfl (by show 2 * 0 + _ ≤ _; exact Nat.le_of_eq rfl) (hb hby d4_37) (fun _ _ => ⟨rfl, e2, (by decide : 0 + 0 ≤ _), (by decide : 0 + 0 ≤ _)⟩)
        dsimp only [Pt.U, Pt.locs, Pt.cells, Pt.slots] at X32 l32 y32 z32 st32 hQ32
        subst l32 y32 z32
        obtain ⟨⟨r32, rfl, hr32⟩, N32q, e32⟩ := hQ32
        have N32 := Fr.app N2 N32q
        refine own_st st32 ?_
        show own_G p.tables e below _ (T32.setTop (mkF m 40 #[.val (.int q1), .val (.int q2), .val (.long q3), .second, .val (.long q4), .second, .val (.long q5), .second, .val (.long q6), .second, .val (.long q7), .second, .val (.int r2), .val (.int (q2 - r2)), .val (.long (-9223372036854775808 : Int64)), .second] [(.long r32)]))
        refine own_st (fun _ k => XS.lstore X32.here hx rfl (hb hby d4_40) rfl (l' := #[.val (.int q1), .val (.int q2), .val (.long q3), .second, .val (.long q4), .second, .val (.long q5), .second, .val (.long q6), .second, .val (.long q7), .second, .val (.int r2), .val (.int (q2 - r2)), .val (.long r32), .second]) rfl k) ?_
        show own_G p.tables e below _ (T32.setTop (mkF m 42 #[.val (.int q1), .val (.int q2), .val (.long q3), .second, .val (.long q4), .second, .val (.long q5), .second, .val (.long q6), .second, .val (.long q7), .second, .val (.int r2), .val (.int (q2 - r2)), .val (.long r32), .second] []))
        exact J42_4 r32 (by subst hr32; exact ((if_neg hc26_3).trans (if_pos hc31_31)).symm) _ _ X32 N32 e32
      · refine own_st (fun _ k => XS.icmpYes X2.here hx rfl (pc0 := 31) (pc' := 42) rfl (hb hby d4_31) rfl (flt hc31_31).2.1 (by decide) (by decide) k) ?_
        show own_G p.tables e below _ (T2.setTop (mkF m 42 #[.val (.int q1), .val (.int q2), .val (.long q3), .second, .val (.long q4), .second, .val (.long q5), .second, .val (.long q6), .second, .val (.long q7), .second, .val (.int r2), .val (.int (q2 - r2)), .val (.long (-9223372036854775808 : Int64)), .second] []))
        exact J42_4 (-9223372036854775808 : Int64) (((if_neg hc26_3).trans (if_neg hc31_31)).symm) _ _ X2 N2 e2
def Qadd (Z : State) (a1 : Addr) (q1 : Int64) (b_times_a1 : Addr) (k_times_a1 : ClassId) (b_ordered_a1 : Addr) (k_ordered_a1 : ClassId) (u_size_a1 : Int32) (u_next_a1 : Int32) (kI : Int32) (K : Nat) (us : List Int64) (tim : List Int64) (ord : List Int64) (h0 : Heap) (n0 : Nat) (v : Option Value) (h : Heap) (L : List Loc) : Prop := v = none ∧ Fr n0 L ∧ Keep h0 h [a1, b_times_a1, b_ordered_a1] ∧ Exa Z h a1 "com/example/funnel/funnel/admission/RecentTimes" ∧ Fld Z h a1 "com/example/funnel/funnel/admission/RecentTimes" "times" "[J" (.ref b_times_a1) ∧ Fld Z h a1 "com/example/funnel/funnel/admission/RecentTimes" "ordered" "[J" (.ref b_ordered_a1) ∧ (∃ (tim' ord' : List Int64) (sz nx : Int32), Fld Z h a1 "com/example/funnel/funnel/admission/RecentTimes" "size" "I" (.int sz) ∧ Fld Z h a1 "com/example/funnel/funnel/admission/RecentTimes" "next" "I" (.int nx) ∧ Arv Z h b_times_a1 k_times_a1 .long kI (tim'.map Value.long) (.long (0 : Int64)) ∧ Arv Z h b_ordered_a1 k_ordered_a1 .long kI (ord'.map Value.long) (.long (0 : Int64)) ∧ own_RR K (us ++ [q1]) tim' ord' sz nx)
set_option maxRecDepth 65536 in
set_option maxHeartbeats 40000000 in
theorem rmadd (l : Launch) (Z : State) (a0 : Array Value) (hw : ∀ d ∈ tables_1, d.before a0 Z = true) (ws : List Jvm.Cond) (a1 : Addr) (q1 : Int64) (b_times_a1 : Addr) (k_times_a1 : ClassId) (b_ordered_a1 : Addr) (k_ordered_a1 : ClassId) (u_size_a1 : Int32) (u_next_a1 : Int32) (kI : Int32) (K : Nat) (us : List Int64) (tim : List Int64) (ord : List Int64) (h0 : Heap) (n0 : Nat) (Z0 : n0 ≤ h0.size) (F_times_a1 : Fld Z h0 a1 "com/example/funnel/funnel/admission/RecentTimes" "times" "[J" (.ref b_times_a1)) (V_b_times_a1 : Arv Z h0 b_times_a1 k_times_a1 .long kI (tim.map Value.long) (.long (0 : Int64))) (ne_a1_b_times_a1 : a1 ≠ b_times_a1) (F_ordered_a1 : Fld Z h0 a1 "com/example/funnel/funnel/admission/RecentTimes" "ordered" "[J" (.ref b_ordered_a1)) (V_b_ordered_a1 : Arv Z h0 b_ordered_a1 k_ordered_a1 .long kI (ord.map Value.long) (.long (0 : Int64))) (ne_a1_b_ordered_a1 : a1 ≠ b_ordered_a1) (F_size_a1 : Fld Z h0 a1 "com/example/funnel/funnel/admission/RecentTimes" "size" "I" (.int u_size_a1)) (F_next_a1 : Fld Z h0 a1 "com/example/funnel/funnel/admission/RecentTimes" "next" "I" (.int u_next_a1)) (E_a1 : Exa Z h0 a1 "com/example/funnel/funnel/admission/RecentTimes") (hk : kI.toInt = (K : Int)) (hK1 : 1 ≤ K) (hK4 : K ≤ 4) (hR : own_R K us tim ord u_size_a1.toInt.toNat u_next_a1.toInt.toNat) (hsz : 0 ≤ u_size_a1.toInt) (hnx : 0 ≤ u_next_a1.toInt) (ne_bb : b_times_a1 ≠ b_ordered_a1) (ge_a1 : n0 ≤ a1) (ge_b_times_a1 : n0 ≤ b_times_a1) (ge_b_ordered_a1 : n0 ≤ b_ordered_a1) :
    MetFree l (⟨"com/example/funnel/funnel/admission/RecentTimes", "add", "(J)V"⟩ : MethodName) (head1 (Jvm.Cond.code (⟨"com/example/funnel/funnel/admission/RecentTimes", "add", "(J)V"⟩ : MethodName) prog_1_method_2_code 5 none :: ws) ({ frames := 3, cells := 0, slots := 0, locals := 60 } : Room)) (fun a U => a = #[(.ref a1), (.long q1)] ∧ Z.Warmed39 U.vm ∧ U.heap = h0) (fun _ _ _ _ _ => True) (fun _ U o U' => ∃ v L, o = .returned v ∧ Qadd Z a1 q1 b_times_a1 k_times_a1 b_ordered_a1 k_ordered_a1 u_size_a1 u_next_a1 kI K us tim ord h0 n0 v U'.heap L ∧ FrameEnd U o U' L ({ frames := 3, cells := 0, slots := 0, locals := 60 } : Room).cells ({ frames := 3, cells := 0, slots := 0, locals := 60 } : Room).slots) := by
  refine MetFree.of_bodySF (plainFor_of_name pn_5) hisR ?_
  intro p e s m args below meth c s₁ Bd hml0 hP hK
  obtain ⟨rfl, hZ, hh⟩ := hP
  have hx := Bd.exec
  have hby := Bd.bytes
  have hlk := BodyLoose.notSynchronized Bd
  have hml : c.maxLocals = 5 := hml0
  have hown : s.vm.findClass "com/example/funnel/funnel/admission/RecentTimes" = some m.cls := findClass_of_methodNamed Bd.named
  have hnm := (name_of_methodNamed Bd.named Bd.method).1
  have X0 : Stand p l e ({ frames := 3, cells := 0, slots := 0, locals := 60 } : Room) s m #[(.ref a1), (.long q1)] below meth c s₁ [] 0 0 := Stand.of_body Bd
  have e0 : s₁.heap = h0 := by rw [← hh, Bd.state]; rfl
  have N0 := Fr.nil n0
  have K0 := Keep.refl h0 [a1, b_times_a1, b_ordered_a1]
  show own_G p.tables e below (own_P s (Qadd Z a1 q1 b_times_a1 k_times_a1 b_ordered_a1 k_ordered_a1 u_size_a1 u_next_a1 kI K us tim ord h0 n0) 0 0) (s₁.setTop (entryFrame m #[(.ref a1), (.long q1)] 5))
  refine own_st (fun t k => castTop (ef_add m a1 q1) k) ?_
  show own_G p.tables e below _ (s₁.setTop (mkF m 0 #[.val (.ref a1), .val (.long q1), .second, .unset, .unset] []))
  refine own_st (fun _ k => XS.aloadN X0.here hx rfl (hb hby d5_0) rfl rfl k) ?_
  show own_G p.tables e below _ (s₁.setTop (mkF m 1 #[.val (.ref a1), .val (.long q1), .second, .unset, .unset] [(.ref a1)]))
  obtain ⟨T1, X1, e1, st1⟩ := getF X0 hx hZ hown (host := "") (Or.inl (hw _ (List.mem_of_getElem? (i := 19) rfl))) Via.refl e0 F_size_a1 (g := (mkF m 1 #[.val (.ref a1), .val (.long q1), .second, .unset, .unset] [(.ref a1)])) rfl rfl (hb hby d5_1)
  refine own_st st1 ?_
  show own_G p.tables e below _ (T1.setTop (mkF m 4 #[.val (.ref a1), .val (.long q1), .second, .unset, .unset] [(.int u_size_a1)]))
  refine own_st (fun _ k => XS.aloadN X1.here hx rfl (hb hby d5_4) rfl rfl k) ?_
  show own_G p.tables e below _ (T1.setTop (mkF m 5 #[.val (.ref a1), .val (.long q1), .second, .unset, .unset] [(.ref a1), (.int u_size_a1)]))
  obtain ⟨T2, X2, e2, st2⟩ := getF X1 hx hZ hown (host := "") (Or.inl (hw _ (List.mem_of_getElem? (i := 10) rfl))) Via.refl e1 F_times_a1 (g := (mkF m 5 #[.val (.ref a1), .val (.long q1), .second, .unset, .unset] [(.ref a1), (.int u_size_a1)])) rfl rfl (hb hby d5_5)
  refine own_st st2 ?_
  show own_G p.tables e below _ (T2.setTop (mkF m 8 #[.val (.ref a1), .val (.long q1), .second, .unset, .unset] [(.ref b_times_a1), (.int u_size_a1)]))
  obtain ⟨cl3, Ar3, qk3, S3, Nn3, H3, G3⟩ := V_b_times_a1
  refine own_st (fun _ k => X2.arraylength hx (by rw [e2]; exact Ar3.1) (State.isArrayOf_alike hZ.alike Ar3.2.1) (g := (mkF m 8 #[.val (.ref a1), .val (.long q1), .second, .unset, .unset] [(.ref b_times_a1), (.int u_size_a1)])) rfl rfl (hb hby d5_8) _ (by rw [len_of S3 Nn3]; exact k)) ?_
  show own_G p.tables e below _ (T2.setTop (mkF m 9 #[.val (.ref a1), .val (.long q1), .second, .unset, .unset] [(.int kI), (.int u_size_a1)]))
  have V4 : Arv Z h0 b_times_a1 k_times_a1 .long kI (tim.map Value.long) (.long (0 : Int64)) := ⟨cl3, Ar3, qk3, S3, Nn3, H3, G3⟩
  by_cases hc9_5 : u_size_a1 = kI
  · refine own_st (fun _ k => XS.icmpNo X2.here hx rfl (hb hby d5_9) rfl (teq hc9_5).2 k) ?_
    show own_G p.tables e below _ (T2.setTop (mkF m 12 #[.val (.ref a1), .val (.long q1), .second, .unset, .unset] []))
    refine own_st (fun _ k => XS.aloadN X2.here hx rfl (hb hby d5_12) rfl rfl k) ?_
    show own_G p.tables e below _ (T2.setTop (mkF m 13 #[.val (.ref a1), .val (.long q1), .second, .unset, .unset] [(.ref a1)]))
    obtain ⟨T6, X6, e6, st6⟩ := getF X2 hx hZ hown (host := "") (Or.inl (hw _ (List.mem_of_getElem? (i := 12) rfl))) Via.refl e2 F_ordered_a1 (g := (mkF m 13 #[.val (.ref a1), .val (.long q1), .second, .unset, .unset] [(.ref a1)])) rfl rfl (hb hby d5_13)
    refine own_st st6 ?_
    show own_G p.tables e below _ (T6.setTop (mkF m 16 #[.val (.ref a1), .val (.long q1), .second, .unset, .unset] [(.ref b_ordered_a1)]))
    refine own_st (fun _ k => XS.iconst X6.here hx rfl (hb hby d5_16) k) ?_
    show own_G p.tables e below _ (T6.setTop (mkF m 17 #[.val (.ref a1), .val (.long q1), .second, .unset, .unset] [(.int (0 : Int32)), (.ref b_ordered_a1)]))
    refine own_st (fun _ k => XS.aloadN X6.here hx rfl (hb hby d5_17) rfl rfl k) ?_
    show own_G p.tables e below _ (T6.setTop (mkF m 18 #[.val (.ref a1), .val (.long q1), .second, .unset, .unset] [(.ref a1), (.int (0 : Int32)), (.ref b_ordered_a1)]))
    obtain ⟨T7, X7, e7, st7⟩ := getF X6 hx hZ hown (host := "") (Or.inl (hw _ (List.mem_of_getElem? (i := 19) rfl))) Via.refl e6 F_size_a1 (g := (mkF m 18 #[.val (.ref a1), .val (.long q1), .second, .unset, .unset] [(.ref a1), (.int (0 : Int32)), (.ref b_ordered_a1)])) rfl rfl (hb hby d5_18)
    refine own_st st7 ?_
    show own_G p.tables e below _ (T7.setTop (mkF m 21 #[.val (.ref a1), .val (.long q1), .second, .unset, .unset] [(.int u_size_a1), (.int (0 : Int32)), (.ref b_ordered_a1)]))
    refine own_st (fun _ k => XS.aloadN X7.here hx rfl (hb hby d5_21) rfl rfl k) ?_
    show own_G p.tables e below _ (T7.setTop (mkF m 22 #[.val (.ref a1), .val (.long q1), .second, .unset, .unset] [(.ref a1), (.int u_size_a1), (.int (0 : Int32)), (.ref b_ordered_a1)]))
    obtain ⟨T8, X8, e8, st8⟩ := getF X7 hx hZ hown (host := "") (Or.inl (hw _ (List.mem_of_getElem? (i := 10) rfl))) Via.refl e7 F_times_a1 (g := (mkF m 22 #[.val (.ref a1), .val (.long q1), .second, .unset, .unset] [(.ref a1), (.int u_size_a1), (.int (0 : Int32)), (.ref b_ordered_a1)])) rfl rfl (hb hby d5_22)
    refine own_st st8 ?_
    show own_G p.tables e below _ (T8.setTop (mkF m 25 #[.val (.ref a1), .val (.long q1), .second, .unset, .unset] [(.ref b_times_a1), (.int u_size_a1), (.int (0 : Int32)), (.ref b_ordered_a1)]))
    refine own_st (fun _ k => XS.aloadN X8.here hx rfl (hb hby d5_25) rfl rfl k) ?_
    show own_G p.tables e below _ (T8.setTop (mkF m 26 #[.val (.ref a1), .val (.long q1), .second, .unset, .unset] [(.ref a1), (.ref b_times_a1), (.int u_size_a1), (.int (0 : Int32)), (.ref b_ordered_a1)]))
    obtain ⟨T9, X9, e9, st9⟩ := getF X8 hx hZ hown (host := "") (Or.inl (hw _ (List.mem_of_getElem? (i := 30) rfl))) Via.refl e8 F_next_a1 (g := (mkF m 26 #[.val (.ref a1), .val (.long q1), .second, .unset, .unset] [(.ref a1), (.ref b_times_a1), (.int u_size_a1), (.int (0 : Int32)), (.ref b_ordered_a1)])) rfl rfl (hb hby d5_26)
    refine own_st st9 ?_
    show own_G p.tables e below _ (T9.setTop (mkF m 29 #[.val (.ref a1), .val (.long q1), .second, .unset, .unset] [(.int u_next_a1), (.ref b_times_a1), (.int u_size_a1), (.int (0 : Int32)), (.ref b_ordered_a1)]))
    obtain ⟨y10, hy10, inb10, hg10⟩ := own_oldat hk hK1 hR hnx hc9_5
    obtain ⟨cl10, Ar10, qk10, S10, Nn10, H10, G10⟩ := V4
    have hin10 := inb_of S10 inb10
    refine own_st (fun _ k => X9.laload hx (j := u_next_a1) (v := (.long y10)) (by rw [e9]; exact Ar10.1) (State.isArrayOf_alike hZ.alike Ar10.2.1) Ar10.2.2 hin10 (Has.at H10 hin10 hg10) (g := (mkF m 29 #[.val (.ref a1), .val (.long q1), .second, .unset, .unset] [(.int u_next_a1), (.ref b_times_a1), (.int u_size_a1), (.int (0 : Int32)), (.ref b_ordered_a1)])) rfl rfl (hb hby d5_29) _ k) ?_
    show own_G p.tables e below _ (T9.setTop (mkF m 30 #[.val (.ref a1), .val (.long q1), .second, .unset, .unset] [(.long y10), (.int u_size_a1), (.int (0 : Int32)), (.ref b_ordered_a1)]))
    have V11 : Arv Z h0 b_times_a1 k_times_a1 .long kI (tim.map Value.long) (.long (0 : Int64)) := ⟨cl10, Ar10, qk10, S10, Nn10, H10, G10⟩
    obtain ⟨_, _, ⟨T12, L12, k12, n12⟩, -, X12, ⟨Lc12, hQ12, l12, y12, z12⟩, st12⟩ := Jvm.LawKit.callS X9 hx (y := (⟨"java/util/Arrays", "binarySearch", "([JIIJ)I"⟩ : MethodName)) hown (mvT hZ (hw _ (List.mem_of_getElem? (i := 32) rfl))) (mvT hZ (hw _ (List.mem_of_getElem? (i := 33) rfl))) (mvT hZ (hw _ (List.mem_of_getElem? (i := 34) rfl))) (mvT hZ (hw _ (List.mem_of_getElem? (i := 35) rfl))) (by decide) (backOf (W := 0) (rm6 l Z a0 hw [] b_ordered_a1 u_size_a1 y10 k_ordered_a1 kI K ord h0 n0 Z0 V_b_ordered_a1 hk hK4 hR.2.1 (own_to1 hk hR hsz) hR.2.2.2.2.1) hZ (hw _ (List.mem_of_getElem? (i := 35) rfl)) (hw _ (List.mem_of_getElem? (i := 34) rfl)) (by decide) (by decide)) (g := (mkF m 30 #[.val (.ref a1), .val (.long q1), .second, .unset, .unset] [(.long y10), (.int u_size_a1), (.int (0 : Int32)), (.ref b_ordered_a1)])) rfl (by rw [hml]; rfl) (argsL := [(.ref b_ordered_a1), (.int (0 : Int32)), (.int u_size_a1), (.long y10)]) (rest := []) (lenOf pd_1 rfl) rfl (by show 2 * 0 + _ ≤ _; exact Nat.le_of_eq rfl) (hb hby d5_30) (fun _ _ => ⟨rfl, e9, (by decide : 0 + 0 ≤ _), (by decide : 0 + 0 ≤ _)⟩)
    dsimp only [Pt.U, Pt.locs, Pt.cells, Pt.slots] at X12 l12 y12 z12 st12 hQ12
    subst l12 y12 z12
    obtain ⟨⟨r12, rfl, hb12⟩, N12q, e12⟩ := hQ12
    have N12 := Fr.app N0 N12q
    refine own_st st12 ?_
    show own_G p.tables e below _ (T12.setTop (mkF m 33 #[.val (.ref a1), .val (.long q1), .second, .unset, .unset] [(.int r12)]))
    refine own_st (fun _ k => XS.istoreN X12.here hx rfl (hb hby d5_33) rfl (l' := #[.val (.ref a1), .val (.long q1), .second, .val (.int r12), .unset]) rfl k) ?_
    show own_G p.tables e below _ (T12.setTop (mkF m 34 #[.val (.ref a1), .val (.long q1), .second, .val (.int r12), .unset] []))
    refine own_st (fun _ k => XS.aloadN X12.here hx rfl (hb hby d5_34) rfl rfl k) ?_
    show own_G p.tables e below _ (T12.setTop (mkF m 35 #[.val (.ref a1), .val (.long q1), .second, .val (.int r12), .unset] [(.ref a1)]))
    obtain ⟨T13, X13, e13, st13⟩ := getF X12 hx hZ hown (host := "") (Or.inl (hw _ (List.mem_of_getElem? (i := 12) rfl))) Via.refl e12 F_ordered_a1 (g := (mkF m 35 #[.val (.ref a1), .val (.long q1), .second, .val (.int r12), .unset] [(.ref a1)])) rfl rfl (hb hby d5_35)
    refine own_st st13 ?_
    show own_G p.tables e below _ (T13.setTop (mkF m 38 #[.val (.ref a1), .val (.long q1), .second, .val (.int r12), .unset] [(.ref b_ordered_a1)]))
    refine own_st (fun _ k => XS.iloadN X13.here hx rfl (hb hby d5_38) rfl k) ?_
    show own_G p.tables e below _ (T13.setTop (mkF m 39 #[.val (.ref a1), .val (.long q1), .second, .val (.int r12), .unset] [(.int r12), (.ref b_ordered_a1)]))
    refine own_st (fun _ k => XS.iconst X13.here hx rfl (hb hby d5_39) k) ?_
    show own_G p.tables e below _ (T13.setTop (mkF m 40 #[.val (.ref a1), .val (.long q1), .second, .val (.int r12), .unset] [(.int (1 : Int32)), (.int r12), (.ref b_ordered_a1)]))
    refine own_st (fun _ k => XS.iadd X13.here hx rfl (hb hby d5_40) rfl k) ?_
    show own_G p.tables e below _ (T13.setTop (mkF m 41 #[.val (.ref a1), .val (.long q1), .second, .val (.int r12), .unset] [(.int (r12 + (1 : Int32))), (.ref b_ordered_a1)]))
    refine own_st (fun _ k => XS.aloadN X13.here hx rfl (hb hby d5_41) rfl rfl k) ?_
    show own_G p.tables e below _ (T13.setTop (mkF m 42 #[.val (.ref a1), .val (.long q1), .second, .val (.int r12), .unset] [(.ref a1), (.int (r12 + (1 : Int32))), (.ref b_ordered_a1)]))
    obtain ⟨T14, X14, e14, st14⟩ := getF X13 hx hZ hown (host := "") (Or.inl (hw _ (List.mem_of_getElem? (i := 12) rfl))) Via.refl e13 F_ordered_a1 (g := (mkF m 42 #[.val (.ref a1), .val (.long q1), .second, .val (.int r12), .unset] [(.ref a1), (.int (r12 + (1 : Int32))), (.ref b_ordered_a1)])) rfl rfl (hb hby d5_42)
    refine own_st st14 ?_
    show own_G p.tables e below _ (T14.setTop (mkF m 45 #[.val (.ref a1), .val (.long q1), .second, .val (.int r12), .unset] [(.ref b_ordered_a1), (.int (r12 + (1 : Int32))), (.ref b_ordered_a1)]))
    refine own_st (fun _ k => XS.iloadN X14.here hx rfl (hb hby d5_45) rfl k) ?_
    show own_G p.tables e below _ (T14.setTop (mkF m 46 #[.val (.ref a1), .val (.long q1), .second, .val (.int r12), .unset] [(.int r12), (.ref b_ordered_a1), (.int (r12 + (1 : Int32))), (.ref b_ordered_a1)]))
    refine own_st (fun _ k => XS.aloadN X14.here hx rfl (hb hby d5_46) rfl rfl k) ?_
    show own_G p.tables e below _ (T14.setTop (mkF m 47 #[.val (.ref a1), .val (.long q1), .second, .val (.int r12), .unset] [(.ref a1), (.int r12), (.ref b_ordered_a1), (.int (r12 + (1 : Int32))), (.ref b_ordered_a1)]))
    obtain ⟨T15, X15, e15, st15⟩ := getF X14 hx hZ hown (host := "") (Or.inl (hw _ (List.mem_of_getElem? (i := 19) rfl))) Via.refl e14 F_size_a1 (g := (mkF m 47 #[.val (.ref a1), .val (.long q1), .second, .val (.int r12), .unset] [(.ref a1), (.int r12), (.ref b_ordered_a1), (.int (r12 + (1 : Int32))), (.ref b_ordered_a1)])) rfl rfl (hb hby d5_47)
    refine own_st st15 ?_
    show own_G p.tables e below _ (T15.setTop (mkF m 50 #[.val (.ref a1), .val (.long q1), .second, .val (.int r12), .unset] [(.int u_size_a1), (.int r12), (.ref b_ordered_a1), (.int (r12 + (1 : Int32))), (.ref b_ordered_a1)]))
    refine own_st (fun _ k => XS.iloadN X15.here hx rfl (hb hby d5_50) rfl k) ?_
    show own_G p.tables e below _ (T15.setTop (mkF m 51 #[.val (.ref a1), .val (.long q1), .second, .val (.int r12), .unset] [(.int r12), (.int u_size_a1), (.int r12), (.ref b_ordered_a1), (.int (r12 + (1 : Int32))), (.ref b_ordered_a1)]))
    refine own_st (fun _ k => XS.isub X15.here hx rfl (hb hby d5_51) rfl k) ?_
    show own_G p.tables e below _ (T15.setTop (mkF m 52 #[.val (.ref a1), .val (.long q1), .second, .val (.int r12), .unset] [(.int (u_size_a1 - r12)), (.int r12), (.ref b_ordered_a1), (.int (r12 + (1 : Int32))), (.ref b_ordered_a1)]))
    refine own_st (fun _ k => XS.iconst X15.here hx rfl (hb hby d5_52) k) ?_
    show own_G p.tables e below _ (T15.setTop (mkF m 53 #[.val (.ref a1), .val (.long q1), .second, .val (.int r12), .unset] [(.int (1 : Int32)), (.int (u_size_a1 - r12)), (.int r12), (.ref b_ordered_a1), (.int (r12 + (1 : Int32))), (.ref b_ordered_a1)]))
    refine own_st (fun _ k => XS.isub X15.here hx rfl (hb hby d5_53) rfl k) ?_
    show own_G p.tables e below _ (T15.setTop (mkF m 54 #[.val (.ref a1), .val (.long q1), .second, .val (.int r12), .unset] [(.int ((u_size_a1 - r12) - (1 : Int32))), (.int r12), (.ref b_ordered_a1), (.int (r12 + (1 : Int32))), (.ref b_ordered_a1)]))
    have fnd := own_found (own_oldin hk hK1 hR hnx hc9_5 hy10) hb12
    have cp16 := own_cp1 hk hK4 hR hsz hc9_5 fnd
    obtain ⟨T16, h16, L16, X16, e16, N16, K16, Vq16, st16⟩ := cpA X15 hx hZ hown (hw _ (List.mem_of_getElem? (i := 42) rfl)) (hw _ (List.mem_of_getElem? (i := 45) rfl)) (hw _ (List.mem_of_getElem? (i := 43) rfl)) (hw _ (List.mem_of_getElem? (i := 44) rfl)) e15 V_b_ordered_a1 V_b_ordered_a1 (Or.inl ⟨rfl, rfl⟩) cp16.1 cp16.2.1 cp16.2.2.1 cp16.2.2.2.1 cp16.2.2.2.2.1 rfl cp16.2.2.2.2.2.1 N12 ge_b_ordered_a1 (g := (mkF m 54 #[.val (.ref a1), .val (.long q1), .second, .val (.int r12), .unset] [(.int ((u_size_a1 - r12) - (1 : Int32))), (.int r12), (.ref b_ordered_a1), (.int (r12 + (1 : Int32))), (.ref b_ordered_a1)])) rfl (by rw [hml]; rfl) rfl (hb hby d5_54) (by decide) (W := 0) (by show 2 * 0 + _ ≤ _; exact Nat.le_of_eq rfl) (by decide)
    have V16 : Arv Z h16 b_ordered_a1 k_ordered_a1 .long kI ((own_cpy ord (r12.toInt.toNat + 1) r12.toInt.toNat (u_size_a1.toInt.toNat - r12.toInt.toNat - 1)).map Value.long) (.long (0 : Int64)) := by rw [cp16.2.2.2.2.2.2]; exact Vq16
    have E17 := E_a1.keep K16
    have F18 := F_times_a1.keep K16 (ninS ne_a1_b_ordered_a1 nin0)
    have F19 := F_ordered_a1.keep K16 (ninS ne_a1_b_ordered_a1 nin0)
    have F20 := F_size_a1.keep K16 (ninS ne_a1_b_ordered_a1 nin0)
    have F21 := F_next_a1.keep K16 (ninS ne_a1_b_ordered_a1 nin0)
    have V22 := V11.keep K16 (ninS ne_bb nin0)
    have Z24 := Nat.le_trans Z0 K16.1
    have K25 := K0.trans K16 (((allS (P := fun x => x ∈ ([a1, b_times_a1, b_ordered_a1] : List Addr) ∨ h0.size ≤ x) (Or.inl (List.mem_of_getElem? (i := 2) rfl)) all0) : ∀ x ∈ ([b_ordered_a1] : List Addr), x ∈ ([a1, b_times_a1, b_ordered_a1] : List Addr) ∨ h0.size ≤ x))
    refine own_st st16 ?_
    show own_G p.tables e below _ (T16.setTop (mkF m 57 #[.val (.ref a1), .val (.long q1), .second, .val (.int r12), .unset] []))
    refine own_st (fun _ k => XS.aloadN X16.here hx rfl (hb hby d5_57) rfl rfl k) ?_
    show own_G p.tables e below _ (T16.setTop (mkF m 58 #[.val (.ref a1), .val (.long q1), .second, .val (.int r12), .unset] [(.ref a1)]))
    refine own_st (fun _ k => XS.dup X16.here hx rfl (hb hby d5_58) rfl rfl k) ?_
    show own_G p.tables e below _ (T16.setTop (mkF m 59 #[.val (.ref a1), .val (.long q1), .second, .val (.int r12), .unset] [(.ref a1), (.ref a1)]))
    obtain ⟨T26, X26, e26, st26⟩ := getF X16 hx hZ hown (host := "") (Or.inl (hw _ (List.mem_of_getElem? (i := 19) rfl))) Via.refl e16 F20 (g := (mkF m 59 #[.val (.ref a1), .val (.long q1), .second, .val (.int r12), .unset] [(.ref a1), (.ref a1)])) rfl rfl (hb hby d5_59)
    refine own_st st26 ?_
    show own_G p.tables e below _ (T26.setTop (mkF m 62 #[.val (.ref a1), .val (.long q1), .second, .val (.int r12), .unset] [(.int u_size_a1), (.ref a1)]))
    refine own_st (fun _ k => XS.iconst X26.here hx rfl (hb hby d5_62) k) ?_
    show own_G p.tables e below _ (T26.setTop (mkF m 63 #[.val (.ref a1), .val (.long q1), .second, .val (.int r12), .unset] [(.int (1 : Int32)), (.int u_size_a1), (.ref a1)]))
    refine own_st (fun _ k => XS.isub X26.here hx rfl (hb hby d5_63) rfl k) ?_
    show own_G p.tables e below _ (T26.setTop (mkF m 64 #[.val (.ref a1), .val (.long q1), .second, .val (.int r12), .unset] [(.int (u_size_a1 - (1 : Int32))), (.ref a1)]))
    obtain ⟨T27, h27, X27, e27, W27, st27⟩ := putF X26 hx hZ hown (host := "") (Or.inl (hw _ (List.mem_of_getElem? (i := 19) rfl))) Via.refl e26 F20 E17 (Or.inl (hw _ (List.mem_of_getElem? (i := 20) rfl))) (hw _ (List.mem_of_getElem? (i := 1) rfl)) (ty := .int) (by decide) rfl rfl (g := (mkF m 64 #[.val (.ref a1), .val (.long q1), .second, .val (.int r12), .unset] [(.int (u_size_a1 - (1 : Int32))), (.ref a1)])) rfl rfl (hb hby d5_64)
    have N27 := Fr.snoc X27 N16 ge_a1
    have E28 := E17.wr W27
    have F29 := F18.other W27 (Or.inr (slot_ne (Or.inr (hw _ (List.mem_of_getElem? (i := 11) rfl))) (Or.inl (hw _ (List.mem_of_getElem? (i := 20) rfl))) (by decide) (t := (.array .long)) (t' := .int) (by decide) (by decide)))
    have F30 := F19.other W27 (Or.inr (slot_ne (Or.inr (hw _ (List.mem_of_getElem? (i := 13) rfl))) (Or.inl (hw _ (List.mem_of_getElem? (i := 20) rfl))) (by decide) (t := (.array .long)) (t' := .int) (by decide) (by decide)))
    have F31 := F20.same W27
    have F32 := F21.other W27 (Or.inr (slot_ne (Or.inl (hw _ (List.mem_of_getElem? (i := 31) rfl))) (Or.inl (hw _ (List.mem_of_getElem? (i := 20) rfl))) (by decide) (t := .int) (t' := .int) (by decide) (by decide)))
    have V33 := V22.other W27 (Ne.symm ne_a1_b_times_a1)
    have V34 := V16.other W27 (Ne.symm ne_a1_b_ordered_a1)
    have Z35 := Nat.le_trans Z24 (Keep.of_wr W27).1
    have K36 := K25.wr W27 (Or.inl (List.mem_of_getElem? (i := 0) rfl))
    refine own_st st27 ?_
    show own_G p.tables e below _ (T27.setTop (mkF m 67 #[.val (.ref a1), .val (.long q1), .second, .val (.int r12), .unset] []))
    have HJ : ∀ f, own_bsa (own_cpy ord (r12.toInt.toNat + 1) r12.toInt.toNat (u_size_a1.toInt.toNat - r12.toInt.toNat - 1)) (u_size_a1.toInt.toNat - 1) q1 f → own_HJ K us tim (own_cpy ord (r12.toInt.toNat + 1) r12.toInt.toNat (u_size_a1.toInt.toNat - r12.toInt.toNat - 1)) (u_size_a1.toInt.toNat - 1) u_next_a1.toInt.toNat q1 f := fun f hb => own_add2' hk hK1 hR hsz hc9_5 hy10 fnd hb
    have hsv : own_S1 K (own_cpy ord (r12.toInt.toNat + 1) r12.toInt.toNat (u_size_a1.toInt.toNat - r12.toInt.toNat - 1)) (u_size_a1.toInt.toNat - 1) (u_size_a1 - (1 : Int32)) := own_s1f hk hK1 hR hsz hc9_5 fnd
    refine own_st (fun _ k => XS.aloadN X27.here hx rfl (hb hby d5_67) rfl rfl k) ?_
    show own_G p.tables e below _ (T27.setTop (mkF m 68 #[.val (.ref a1), .val (.long q1), .second, .val (.int r12), .unset] [(.ref a1)]))
    obtain ⟨T37, X37, e37, st37⟩ := getF X27 hx hZ hown (host := "") (Or.inl (hw _ (List.mem_of_getElem? (i := 10) rfl))) Via.refl e27 F29 (g := (mkF m 68 #[.val (.ref a1), .val (.long q1), .second, .val (.int r12), .unset] [(.ref a1)])) rfl rfl (hb hby d5_68)
    refine own_st st37 ?_
    show own_G p.tables e below _ (T37.setTop (mkF m 71 #[.val (.ref a1), .val (.long q1), .second, .val (.int r12), .unset] [(.ref b_times_a1)]))
    refine own_st (fun _ k => XS.aloadN X37.here hx rfl (hb hby d5_71) rfl rfl k) ?_
    show own_G p.tables e below _ (T37.setTop (mkF m 72 #[.val (.ref a1), .val (.long q1), .second, .val (.int r12), .unset] [(.ref a1), (.ref b_times_a1)]))
    obtain ⟨T38, X38, e38, st38⟩ := getF X37 hx hZ hown (host := "") (Or.inl (hw _ (List.mem_of_getElem? (i := 30) rfl))) Via.refl e37 F32 (g := (mkF m 72 #[.val (.ref a1), .val (.long q1), .second, .val (.int r12), .unset] [(.ref a1), (.ref b_times_a1)])) rfl rfl (hb hby d5_72)
    refine own_st st38 ?_
    show own_G p.tables e below _ (T38.setTop (mkF m 75 #[.val (.ref a1), .val (.long q1), .second, .val (.int r12), .unset] [(.int u_next_a1), (.ref b_times_a1)]))
    refine own_st (fun _ k => XS.lloadN X38.here hx rfl (hb hby d5_75) rfl k) ?_
    show own_G p.tables e below _ (T38.setTop (mkF m 76 #[.val (.ref a1), .val (.long q1), .second, .val (.int r12), .unset] [(.long q1), (.int u_next_a1), (.ref b_times_a1)]))
    have ix39 := own_stn hk hK1 hR hnx
    obtain ⟨cl39, Ar39, qk39, S39, Nn39, H39, G39⟩ := V33
    have hin39 := inb_of S39 ix39.1
    obtain ⟨T39, h39, X39, e39, W39, st39⟩ := stJ X38 hx hZ e38 Ar39 (j := u_next_a1) hin39 (g := (mkF m 76 #[.val (.ref a1), .val (.long q1), .second, .val (.int r12), .unset] [(.long q1), (.int u_next_a1), (.ref b_times_a1)])) rfl rfl (hb hby d5_76)
    have N39 := Fr.snoc X39 N27 ge_b_times_a1
    have V39 : Arv Z h39 b_times_a1 k_times_a1 .long kI ((tim.set u_next_a1.toInt.toNat q1).map Value.long) (.long (0 : Int64)) := by rw [List.map_set]; exact Arv.set Ar39 qk39 S39 Nn39 H39 G39 rfl W39 u_next_a1.toInt.toNat ix39.2.1 (by rw [List.length_map]; exact ix39.2.2)
    have E40 := E28.wr W39
    have F41 := F29.other W39 (Or.inl ne_a1_b_times_a1)
    have F42 := F30.other W39 (Or.inl ne_a1_b_times_a1)
    have F43 := F31.other W39 (Or.inl ne_a1_b_times_a1)
    have F44 := F32.other W39 (Or.inl ne_a1_b_times_a1)
    have V46 := V34.other W39 (Ne.symm ne_bb)
    have Z47 := Nat.le_trans Z35 (Keep.of_wr W39).1
    have K48 := K36.wr W39 (Or.inl (List.mem_of_getElem? (i := 1) rfl))
    refine own_st st39 ?_
    show own_G p.tables e below _ (T39.setTop (mkF m 77 #[.val (.ref a1), .val (.long q1), .second, .val (.int r12), .unset] []))
    refine own_st (fun _ k => XS.aloadN X39.here hx rfl (hb hby d5_77) rfl rfl k) ?_
    show own_G p.tables e below _ (T39.setTop (mkF m 78 #[.val (.ref a1), .val (.long q1), .second, .val (.int r12), .unset] [(.ref a1)]))
    refine own_st (fun _ k => XS.aloadN X39.here hx rfl (hb hby d5_78) rfl rfl k) ?_
    show own_G p.tables e below _ (T39.setTop (mkF m 79 #[.val (.ref a1), .val (.long q1), .second, .val (.int r12), .unset] [(.ref a1), (.ref a1)]))
    obtain ⟨T49, X49, e49, st49⟩ := getF X39 hx hZ hown (host := "") (Or.inl (hw _ (List.mem_of_getElem? (i := 30) rfl))) Via.refl e39 F44 (g := (mkF m 79 #[.val (.ref a1), .val (.long q1), .second, .val (.int r12), .unset] [(.ref a1), (.ref a1)])) rfl rfl (hb hby d5_79)
    refine own_st st49 ?_
    show own_G p.tables e below _ (T49.setTop (mkF m 82 #[.val (.ref a1), .val (.long q1), .second, .val (.int r12), .unset] [(.int u_next_a1), (.ref a1)]))
    refine own_st (fun _ k => XS.iconst X49.here hx rfl (hb hby d5_82) k) ?_
    show own_G p.tables e below _ (T49.setTop (mkF m 83 #[.val (.ref a1), .val (.long q1), .second, .val (.int r12), .unset] [(.int (1 : Int32)), (.int u_next_a1), (.ref a1)]))
    refine own_st (fun _ k => XS.iadd X49.here hx rfl (hb hby d5_83) rfl k) ?_
    show own_G p.tables e below _ (T49.setTop (mkF m 84 #[.val (.ref a1), .val (.long q1), .second, .val (.int r12), .unset] [(.int (u_next_a1 + (1 : Int32))), (.ref a1)]))
    refine own_st (fun _ k => XS.aloadN X49.here hx rfl (hb hby d5_84) rfl rfl k) ?_
    show own_G p.tables e below _ (T49.setTop (mkF m 85 #[.val (.ref a1), .val (.long q1), .second, .val (.int r12), .unset] [(.ref a1), (.int (u_next_a1 + (1 : Int32))), (.ref a1)]))
    obtain ⟨T50, X50, e50, st50⟩ := getF X49 hx hZ hown (host := "") (Or.inl (hw _ (List.mem_of_getElem? (i := 10) rfl))) Via.refl e49 F41 (g := (mkF m 85 #[.val (.ref a1), .val (.long q1), .second, .val (.int r12), .unset] [(.ref a1), (.int (u_next_a1 + (1 : Int32))), (.ref a1)])) rfl rfl (hb hby d5_85)
    refine own_st st50 ?_
    show own_G p.tables e below _ (T50.setTop (mkF m 88 #[.val (.ref a1), .val (.long q1), .second, .val (.int r12), .unset] [(.ref b_times_a1), (.int (u_next_a1 + (1 : Int32))), (.ref a1)]))
    obtain ⟨cl51, Ar51, qk51, S51, Nn51, H51, G51⟩ := V39
    refine own_st (fun _ k => X50.arraylength hx (by rw [e50]; exact Ar51.1) (State.isArrayOf_alike hZ.alike Ar51.2.1) (g := (mkF m 88 #[.val (.ref a1), .val (.long q1), .second, .val (.int r12), .unset] [(.ref b_times_a1), (.int (u_next_a1 + (1 : Int32))), (.ref a1)])) rfl rfl (hb hby d5_88) _ (by rw [len_of S51 Nn51]; exact k)) ?_
    show own_G p.tables e below _ (T50.setTop (mkF m 89 #[.val (.ref a1), .val (.long q1), .second, .val (.int r12), .unset] [(.int kI), (.int (u_next_a1 + (1 : Int32))), (.ref a1)]))
    have V52 : Arv Z h39 b_times_a1 k_times_a1 .long kI ((tim.set u_next_a1.toInt.toNat q1).map Value.long) (.long (0 : Int64)) := ⟨cl51, Ar51, qk51, S51, Nn51, H51, G51⟩
    refine own_st (fun _ k => iremM (g := (mkF m 89 #[.val (.ref a1), .val (.long q1), .second, .val (.int r12), .unset] [(.int kI), (.int (u_next_a1 + (1 : Int32))), (.ref a1)])) X50 hx rfl (hb hby d5_89) rfl (own_kne hk hK1) k) ?_
    show own_G p.tables e below _ (T50.setTop (mkF m 90 #[.val (.ref a1), .val (.long q1), .second, .val (.int r12), .unset] [(.int ((u_next_a1 + (1 : Int32)) % kI)), (.ref a1)]))
    obtain ⟨T53, h53, X53, e53, W53, st53⟩ := putF X50 hx hZ hown (host := "") (Or.inl (hw _ (List.mem_of_getElem? (i := 30) rfl))) Via.refl e50 F44 E40 (Or.inl (hw _ (List.mem_of_getElem? (i := 31) rfl))) (hw _ (List.mem_of_getElem? (i := 1) rfl)) (ty := .int) (by decide) rfl rfl (g := (mkF m 90 #[.val (.ref a1), .val (.long q1), .second, .val (.int r12), .unset] [(.int ((u_next_a1 + (1 : Int32)) % kI)), (.ref a1)])) rfl rfl (hb hby d5_90)
    have N53 := Fr.snoc X53 N39 ge_a1
    have E54 := E40.wr W53
    have F55 := F41.other W53 (Or.inr (slot_ne (Or.inr (hw _ (List.mem_of_getElem? (i := 11) rfl))) (Or.inl (hw _ (List.mem_of_getElem? (i := 31) rfl))) (by decide) (t := (.array .long)) (t' := .int) (by decide) (by decide)))
    have F56 := F42.other W53 (Or.inr (slot_ne (Or.inr (hw _ (List.mem_of_getElem? (i := 13) rfl))) (Or.inl (hw _ (List.mem_of_getElem? (i := 31) rfl))) (by decide) (t := (.array .long)) (t' := .int) (by decide) (by decide)))
    have F57 := F43.other W53 (Or.inr (slot_ne (Or.inl (hw _ (List.mem_of_getElem? (i := 20) rfl))) (Or.inl (hw _ (List.mem_of_getElem? (i := 31) rfl))) (by decide) (t := .int) (t' := .int) (by decide) (by decide)))
    have F58 := F44.same W53
    have V59 := V52.other W53 (Ne.symm ne_a1_b_times_a1)
    have V60 := V46.other W53 (Ne.symm ne_a1_b_ordered_a1)
    have Z61 := Nat.le_trans Z47 (Keep.of_wr W53).1
    have K62 := K48.wr W53 (Or.inl (List.mem_of_getElem? (i := 0) rfl))
    refine own_st st53 ?_
    show own_G p.tables e below _ (T53.setTop (mkF m 93 #[.val (.ref a1), .val (.long q1), .second, .val (.int r12), .unset] []))
    refine own_st (fun _ k => XS.aloadN X53.here hx rfl (hb hby d5_93) rfl rfl k) ?_
    show own_G p.tables e below _ (T53.setTop (mkF m 94 #[.val (.ref a1), .val (.long q1), .second, .val (.int r12), .unset] [(.ref a1)]))
    obtain ⟨T63, X63, e63, st63⟩ := getF X53 hx hZ hown (host := "") (Or.inl (hw _ (List.mem_of_getElem? (i := 12) rfl))) Via.refl e53 F56 (g := (mkF m 94 #[.val (.ref a1), .val (.long q1), .second, .val (.int r12), .unset] [(.ref a1)])) rfl rfl (hb hby d5_94)
    refine own_st st63 ?_
    show own_G p.tables e below _ (T63.setTop (mkF m 97 #[.val (.ref a1), .val (.long q1), .second, .val (.int r12), .unset] [(.ref b_ordered_a1)]))
    refine own_st (fun _ k => XS.iconst X63.here hx rfl (hb hby d5_97) k) ?_
    show own_G p.tables e below _ (T63.setTop (mkF m 98 #[.val (.ref a1), .val (.long q1), .second, .val (.int r12), .unset] [(.int (0 : Int32)), (.ref b_ordered_a1)]))
    refine own_st (fun _ k => XS.aloadN X63.here hx rfl (hb hby d5_98) rfl rfl k) ?_
    show own_G p.tables e below _ (T63.setTop (mkF m 99 #[.val (.ref a1), .val (.long q1), .second, .val (.int r12), .unset] [(.ref a1), (.int (0 : Int32)), (.ref b_ordered_a1)]))
    obtain ⟨T64, X64, e64, st64⟩ := getF X63 hx hZ hown (host := "") (Or.inl (hw _ (List.mem_of_getElem? (i := 19) rfl))) Via.refl e63 F57 (g := (mkF m 99 #[.val (.ref a1), .val (.long q1), .second, .val (.int r12), .unset] [(.ref a1), (.int (0 : Int32)), (.ref b_ordered_a1)])) rfl rfl (hb hby d5_99)
    refine own_st st64 ?_
    show own_G p.tables e below _ (T64.setTop (mkF m 102 #[.val (.ref a1), .val (.long q1), .second, .val (.int r12), .unset] [(.int (u_size_a1 - (1 : Int32))), (.int (0 : Int32)), (.ref b_ordered_a1)]))
    refine own_st (fun _ k => XS.lloadN X64.here hx rfl (hb hby d5_102) rfl k) ?_
    show own_G p.tables e below _ (T64.setTop (mkF m 103 #[.val (.ref a1), .val (.long q1), .second, .val (.int r12), .unset] [(.long q1), (.int (u_size_a1 - (1 : Int32))), (.int (0 : Int32)), (.ref b_ordered_a1)]))
    obtain ⟨_, _, ⟨T65, L65, k65, n65⟩, -, X65, ⟨Lc65, hQ65, l65, y65, z65⟩, st65⟩ := Jvm.LawKit.callS X64 hx (y := (⟨"java/util/Arrays", "binarySearch", "([JIIJ)I"⟩ : MethodName)) hown (mvT hZ (hw _ (List.mem_of_getElem? (i := 32) rfl))) (mvT hZ (hw _ (List.mem_of_getElem? (i := 33) rfl))) (mvT hZ (hw _ (List.mem_of_getElem? (i := 34) rfl))) (mvT hZ (hw _ (List.mem_of_getElem? (i := 35) rfl))) (by decide) (backOf (W := 0) (rm6 l Z a0 hw [] b_ordered_a1 (u_size_a1 - (1 : Int32)) q1 k_ordered_a1 kI K (own_cpy ord (r12.toInt.toNat + 1) r12.toInt.toNat (u_size_a1.toInt.toNat - r12.toInt.toNat - 1)) h53 n0 Z61 V60 hk hK4 hsv.1 (own_to2 hsv) (own_s1s hsv)) hZ (hw _ (List.mem_of_getElem? (i := 35) rfl)) (hw _ (List.mem_of_getElem? (i := 34) rfl)) (by decide) (by decide)) (g := (mkF m 103 #[.val (.ref a1), .val (.long q1), .second, .val (.int r12), .unset] [(.long q1), (.int (u_size_a1 - (1 : Int32))), (.int (0 : Int32)), (.ref b_ordered_a1)])) rfl (by rw [hml]; rfl) (argsL := [(.ref b_ordered_a1), (.int (0 : Int32)), (.int (u_size_a1 - (1 : Int32))), (.long q1)]) (rest := []) (lenOf pd_1 rfl) rfl (by show 2 * 0 + _ ≤ _; exact Nat.le_of_eq rfl) (hb hby d5_103) (fun _ _ => ⟨rfl, e64, (by decide : 0 + 0 ≤ _), (by decide : 0 + 0 ≤ _)⟩)
    dsimp only [Pt.U, Pt.locs, Pt.cells, Pt.slots] at X65 l65 y65 z65 st65 hQ65
    subst l65 y65 z65
    obtain ⟨⟨r65, rfl, hb65⟩, N65q, e65⟩ := hQ65
    have N65 := Fr.app N53 N65q
    refine own_st st65 ?_
    show own_G p.tables e below _ (T65.setTop (mkF m 106 #[.val (.ref a1), .val (.long q1), .second, .val (.int r12), .unset] [(.int r65)]))
    refine own_st (fun _ k => XS.istoreN X65.here hx rfl (hb hby d5_106) rfl (l' := #[.val (.ref a1), .val (.long q1), .second, .val (.int r65), .unset]) rfl k) ?_
    show own_G p.tables e below _ (T65.setTop (mkF m 107 #[.val (.ref a1), .val (.long q1), .second, .val (.int r65), .unset] []))
    refine own_st (fun _ k => XS.iloadN X65.here hx rfl (hb hby d5_107) rfl k) ?_
    show own_G p.tables e below _ (T65.setTop (mkF m 108 #[.val (.ref a1), .val (.long q1), .second, .val (.int r65), .unset] [(.int r65)]))
    have J119_67 : ∀ (z68 : Int32) (hz68 : z68 = (if r65 < (0 : Int32) then ((-r65) - (1 : Int32)) else r65)), own_G p.tables e below (own_P s (Qadd Z a1 q1 b_times_a1 k_times_a1 b_ordered_a1 k_ordered_a1 u_size_a1 u_next_a1 kI K us tim ord h0 n0) 0 0) (T65.setTop (mkF m 119 #[.val (.ref a1), .val (.long q1), .second, .val (.int r65), .unset] [(.int z68)])) := by
      intro z68 hz68
      obtain ⟨pp, hp1, hp2, hp3⟩ := own_plc HJ hsv hb65 hz68
      refine own_st (fun _ k => XS.istore X65.here hx rfl (hb hby d5_119) rfl (l' := #[.val (.ref a1), .val (.long q1), .second, .val (.int r65), .val (.int z68)]) rfl k) ?_
      show own_G p.tables e below _ (T65.setTop (mkF m 121 #[.val (.ref a1), .val (.long q1), .second, .val (.int r65), .val (.int z68)] []))
      refine own_st (fun _ k => XS.aloadN X65.here hx rfl (hb hby d5_121) rfl rfl k) ?_
      show own_G p.tables e below _ (T65.setTop (mkF m 122 #[.val (.ref a1), .val (.long q1), .second, .val (.int r65), .val (.int z68)] [(.ref a1)]))
      obtain ⟨T69, X69, e69, st69⟩ := getF X65 hx hZ hown (host := "") (Or.inl (hw _ (List.mem_of_getElem? (i := 12) rfl))) Via.refl e65 F56 (g := (mkF m 122 #[.val (.ref a1), .val (.long q1), .second, .val (.int r65), .val (.int z68)] [(.ref a1)])) rfl rfl (hb hby d5_122)
      refine own_st st69 ?_
      show own_G p.tables e below _ (T69.setTop (mkF m 125 #[.val (.ref a1), .val (.long q1), .second, .val (.int r65), .val (.int z68)] [(.ref b_ordered_a1)]))
      refine own_st (fun _ k => XS.iload X69.here hx rfl (hb hby d5_125) rfl k) ?_
      show own_G p.tables e below _ (T69.setTop (mkF m 127 #[.val (.ref a1), .val (.long q1), .second, .val (.int r65), .val (.int z68)] [(.int z68), (.ref b_ordered_a1)]))
      refine own_st (fun _ k => XS.aloadN X69.here hx rfl (hb hby d5_127) rfl rfl k) ?_
      show own_G p.tables e below _ (T69.setTop (mkF m 128 #[.val (.ref a1), .val (.long q1), .second, .val (.int r65), .val (.int z68)] [(.ref a1), (.int z68), (.ref b_ordered_a1)]))
      obtain ⟨T70, X70, e70, st70⟩ := getF X69 hx hZ hown (host := "") (Or.inl (hw _ (List.mem_of_getElem? (i := 12) rfl))) Via.refl e69 F56 (g := (mkF m 128 #[.val (.ref a1), .val (.long q1), .second, .val (.int r65), .val (.int z68)] [(.ref a1), (.int z68), (.ref b_ordered_a1)])) rfl rfl (hb hby d5_128)
      refine own_st st70 ?_
      show own_G p.tables e below _ (T70.setTop (mkF m 131 #[.val (.ref a1), .val (.long q1), .second, .val (.int r65), .val (.int z68)] [(.ref b_ordered_a1), (.int z68), (.ref b_ordered_a1)]))
      refine own_st (fun _ k => XS.iload X70.here hx rfl (hb hby d5_131) rfl k) ?_
      show own_G p.tables e below _ (T70.setTop (mkF m 133 #[.val (.ref a1), .val (.long q1), .second, .val (.int r65), .val (.int z68)] [(.int z68), (.ref b_ordered_a1), (.int z68), (.ref b_ordered_a1)]))
      refine own_st (fun _ k => XS.iconst X70.here hx rfl (hb hby d5_133) k) ?_
      show own_G p.tables e below _ (T70.setTop (mkF m 134 #[.val (.ref a1), .val (.long q1), .second, .val (.int r65), .val (.int z68)] [(.int (1 : Int32)), (.int z68), (.ref b_ordered_a1), (.int z68), (.ref b_ordered_a1)]))
      refine own_st (fun _ k => XS.iadd X70.here hx rfl (hb hby d5_134) rfl k) ?_
      show own_G p.tables e below _ (T70.setTop (mkF m 135 #[.val (.ref a1), .val (.long q1), .second, .val (.int r65), .val (.int z68)] [(.int (z68 + (1 : Int32))), (.ref b_ordered_a1), (.int z68), (.ref b_ordered_a1)]))
      refine own_st (fun _ k => XS.aloadN X70.here hx rfl (hb hby d5_135) rfl rfl k) ?_
      show own_G p.tables e below _ (T70.setTop (mkF m 136 #[.val (.ref a1), .val (.long q1), .second, .val (.int r65), .val (.int z68)] [(.ref a1), (.int (z68 + (1 : Int32))), (.ref b_ordered_a1), (.int z68), (.ref b_ordered_a1)]))
      obtain ⟨T71, X71, e71, st71⟩ := getF X70 hx hZ hown (host := "") (Or.inl (hw _ (List.mem_of_getElem? (i := 19) rfl))) Via.refl e70 F57 (g := (mkF m 136 #[.val (.ref a1), .val (.long q1), .second, .val (.int r65), .val (.int z68)] [(.ref a1), (.int (z68 + (1 : Int32))), (.ref b_ordered_a1), (.int z68), (.ref b_ordered_a1)])) rfl rfl (hb hby d5_136)
      refine own_st st71 ?_
      show own_G p.tables e below _ (T71.setTop (mkF m 139 #[.val (.ref a1), .val (.long q1), .second, .val (.int r65), .val (.int z68)] [(.int (u_size_a1 - (1 : Int32))), (.int (z68 + (1 : Int32))), (.ref b_ordered_a1), (.int z68), (.ref b_ordered_a1)]))
      refine own_st (fun _ k => XS.iload X71.here hx rfl (hb hby d5_139) rfl k) ?_
      show own_G p.tables e below _ (T71.setTop (mkF m 141 #[.val (.ref a1), .val (.long q1), .second, .val (.int r65), .val (.int z68)] [(.int z68), (.int (u_size_a1 - (1 : Int32))), (.int (z68 + (1 : Int32))), (.ref b_ordered_a1), (.int z68), (.ref b_ordered_a1)]))
      refine own_st (fun _ k => XS.isub X71.here hx rfl (hb hby d5_141) rfl k) ?_
      show own_G p.tables e below _ (T71.setTop (mkF m 142 #[.val (.ref a1), .val (.long q1), .second, .val (.int r65), .val (.int z68)] [(.int ((u_size_a1 - (1 : Int32)) - z68)), (.int (z68 + (1 : Int32))), (.ref b_ordered_a1), (.int z68), (.ref b_ordered_a1)]))
      have cp72 := own_cp2 hk hK4 hsv hp1 hp2
      obtain ⟨T72, h72, L72, X72, e72, N72, K72, Vq72, st72⟩ := cpA X71 hx hZ hown (hw _ (List.mem_of_getElem? (i := 42) rfl)) (hw _ (List.mem_of_getElem? (i := 45) rfl)) (hw _ (List.mem_of_getElem? (i := 43) rfl)) (hw _ (List.mem_of_getElem? (i := 44) rfl)) e71 V60 V60 (Or.inl ⟨rfl, rfl⟩) cp72.1 cp72.2.1 cp72.2.2.1 cp72.2.2.2.1 cp72.2.2.2.2.1 rfl cp72.2.2.2.2.2.1 N65 ge_b_ordered_a1 (g := (mkF m 142 #[.val (.ref a1), .val (.long q1), .second, .val (.int r65), .val (.int z68)] [(.int ((u_size_a1 - (1 : Int32)) - z68)), (.int (z68 + (1 : Int32))), (.ref b_ordered_a1), (.int z68), (.ref b_ordered_a1)])) rfl (by rw [hml]; rfl) rfl (hb hby d5_142) (by decide) (W := 0) (by show 2 * 0 + _ ≤ _; exact Nat.le_of_eq rfl) (by decide)
      have V72 : Arv Z h72 b_ordered_a1 k_ordered_a1 .long kI ((own_cpy (own_cpy ord (r12.toInt.toNat + 1) r12.toInt.toNat (u_size_a1.toInt.toNat - r12.toInt.toNat - 1)) pp (pp + 1) ((u_size_a1.toInt.toNat - 1) - pp)).map Value.long) (.long (0 : Int64)) := by rw [cp72.2.2.2.2.2.2]; exact Vq72
      have E73 := E54.keep K72
      have F74 := F55.keep K72 (ninS ne_a1_b_ordered_a1 nin0)
      have F75 := F56.keep K72 (ninS ne_a1_b_ordered_a1 nin0)
      have F76 := F57.keep K72 (ninS ne_a1_b_ordered_a1 nin0)
      have F77 := F58.keep K72 (ninS ne_a1_b_ordered_a1 nin0)
      have V78 := V59.keep K72 (ninS ne_bb nin0)
      have Z80 := Nat.le_trans Z61 K72.1
      have K81 := K62.trans K72 (((allS (P := fun x => x ∈ ([a1, b_times_a1, b_ordered_a1] : List Addr) ∨ h0.size ≤ x) (Or.inl (List.mem_of_getElem? (i := 2) rfl)) all0) : ∀ x ∈ ([b_ordered_a1] : List Addr), x ∈ ([a1, b_times_a1, b_ordered_a1] : List Addr) ∨ h0.size ≤ x))
      refine own_st st72 ?_
      show own_G p.tables e below _ (T72.setTop (mkF m 145 #[.val (.ref a1), .val (.long q1), .second, .val (.int r65), .val (.int z68)] []))
      refine own_st (fun _ k => XS.aloadN X72.here hx rfl (hb hby d5_145) rfl rfl k) ?_
      show own_G p.tables e below _ (T72.setTop (mkF m 146 #[.val (.ref a1), .val (.long q1), .second, .val (.int r65), .val (.int z68)] [(.ref a1)]))
      obtain ⟨T82, X82, e82, st82⟩ := getF X72 hx hZ hown (host := "") (Or.inl (hw _ (List.mem_of_getElem? (i := 12) rfl))) Via.refl e72 F75 (g := (mkF m 146 #[.val (.ref a1), .val (.long q1), .second, .val (.int r65), .val (.int z68)] [(.ref a1)])) rfl rfl (hb hby d5_146)
      refine own_st st82 ?_
      show own_G p.tables e below _ (T82.setTop (mkF m 149 #[.val (.ref a1), .val (.long q1), .second, .val (.int r65), .val (.int z68)] [(.ref b_ordered_a1)]))
      refine own_st (fun _ k => XS.iload X82.here hx rfl (hb hby d5_149) rfl k) ?_
      show own_G p.tables e below _ (T82.setTop (mkF m 151 #[.val (.ref a1), .val (.long q1), .second, .val (.int r65), .val (.int z68)] [(.int z68), (.ref b_ordered_a1)]))
      refine own_st (fun _ k => XS.lloadN X82.here hx rfl (hb hby d5_151) rfl k) ?_
      show own_G p.tables e below _ (T82.setTop (mkF m 152 #[.val (.ref a1), .val (.long q1), .second, .val (.int r65), .val (.int z68)] [(.long q1), (.int z68), (.ref b_ordered_a1)]))
      have ix83 := own_stp2 hk hK4 hsv hp1 hp2
      obtain ⟨cl83, Ar83, qk83, S83, Nn83, H83, G83⟩ := V72
      have hin83 := inb_of S83 ix83.1
      obtain ⟨T83, h83, X83, e83, W83, st83⟩ := stJ X82 hx hZ e82 Ar83 (j := z68) hin83 (g := (mkF m 152 #[.val (.ref a1), .val (.long q1), .second, .val (.int r65), .val (.int z68)] [(.long q1), (.int z68), (.ref b_ordered_a1)])) rfl rfl (hb hby d5_152)
      have N83 := Fr.snoc X83 N72 ge_b_ordered_a1
      have V83 : Arv Z h83 b_ordered_a1 k_ordered_a1 .long kI (((own_cpy (own_cpy ord (r12.toInt.toNat + 1) r12.toInt.toNat (u_size_a1.toInt.toNat - r12.toInt.toNat - 1)) pp (pp + 1) ((u_size_a1.toInt.toNat - 1) - pp)).set pp q1).map Value.long) (.long (0 : Int64)) := by rw [List.map_set]; exact Arv.set Ar83 qk83 S83 Nn83 H83 G83 rfl W83 pp ix83.2.1 (by rw [List.length_map]; exact ix83.2.2)
      have E84 := E73.wr W83
      have F85 := F74.other W83 (Or.inl ne_a1_b_ordered_a1)
      have F86 := F75.other W83 (Or.inl ne_a1_b_ordered_a1)
      have F87 := F76.other W83 (Or.inl ne_a1_b_ordered_a1)
      have F88 := F77.other W83 (Or.inl ne_a1_b_ordered_a1)
      have V89 := V78.other W83 ne_bb
      have Z91 := Nat.le_trans Z80 (Keep.of_wr W83).1
      have K92 := K81.wr W83 (Or.inl (List.mem_of_getElem? (i := 2) rfl))
      refine own_st st83 ?_
      show own_G p.tables e below _ (T83.setTop (mkF m 153 #[.val (.ref a1), .val (.long q1), .second, .val (.int r65), .val (.int z68)] []))
      refine own_st (fun _ k => XS.aloadN X83.here hx rfl (hb hby d5_153) rfl rfl k) ?_
      show own_G p.tables e below _ (T83.setTop (mkF m 154 #[.val (.ref a1), .val (.long q1), .second, .val (.int r65), .val (.int z68)] [(.ref a1)]))
      refine own_st (fun _ k => XS.dup X83.here hx rfl (hb hby d5_154) rfl rfl k) ?_
      show own_G p.tables e below _ (T83.setTop (mkF m 155 #[.val (.ref a1), .val (.long q1), .second, .val (.int r65), .val (.int z68)] [(.ref a1), (.ref a1)]))
      obtain ⟨T93, X93, e93, st93⟩ := getF X83 hx hZ hown (host := "") (Or.inl (hw _ (List.mem_of_getElem? (i := 19) rfl))) Via.refl e83 F87 (g := (mkF m 155 #[.val (.ref a1), .val (.long q1), .second, .val (.int r65), .val (.int z68)] [(.ref a1), (.ref a1)])) rfl rfl (hb hby d5_155)
      refine own_st st93 ?_
      show own_G p.tables e below _ (T93.setTop (mkF m 158 #[.val (.ref a1), .val (.long q1), .second, .val (.int r65), .val (.int z68)] [(.int (u_size_a1 - (1 : Int32))), (.ref a1)]))
      refine own_st (fun _ k => XS.iconst X93.here hx rfl (hb hby d5_158) k) ?_
      show own_G p.tables e below _ (T93.setTop (mkF m 159 #[.val (.ref a1), .val (.long q1), .second, .val (.int r65), .val (.int z68)] [(.int (1 : Int32)), (.int (u_size_a1 - (1 : Int32))), (.ref a1)]))
      refine own_st (fun _ k => XS.iadd X93.here hx rfl (hb hby d5_159) rfl k) ?_
      show own_G p.tables e below _ (T93.setTop (mkF m 160 #[.val (.ref a1), .val (.long q1), .second, .val (.int r65), .val (.int z68)] [(.int ((u_size_a1 - (1 : Int32)) + (1 : Int32))), (.ref a1)]))
      obtain ⟨T94, h94, X94, e94, W94, st94⟩ := putF X93 hx hZ hown (host := "") (Or.inl (hw _ (List.mem_of_getElem? (i := 19) rfl))) Via.refl e93 F87 E84 (Or.inl (hw _ (List.mem_of_getElem? (i := 20) rfl))) (hw _ (List.mem_of_getElem? (i := 1) rfl)) (ty := .int) (by decide) rfl rfl (g := (mkF m 160 #[.val (.ref a1), .val (.long q1), .second, .val (.int r65), .val (.int z68)] [(.int ((u_size_a1 - (1 : Int32)) + (1 : Int32))), (.ref a1)])) rfl rfl (hb hby d5_160)
      have N94 := Fr.snoc X94 N83 ge_a1
      have E95 := E84.wr W94
      have F96 := F85.other W94 (Or.inr (slot_ne (Or.inr (hw _ (List.mem_of_getElem? (i := 11) rfl))) (Or.inl (hw _ (List.mem_of_getElem? (i := 20) rfl))) (by decide) (t := (.array .long)) (t' := .int) (by decide) (by decide)))
      have F97 := F86.other W94 (Or.inr (slot_ne (Or.inr (hw _ (List.mem_of_getElem? (i := 13) rfl))) (Or.inl (hw _ (List.mem_of_getElem? (i := 20) rfl))) (by decide) (t := (.array .long)) (t' := .int) (by decide) (by decide)))
      have F98 := F87.same W94
      have F99 := F88.other W94 (Or.inr (slot_ne (Or.inl (hw _ (List.mem_of_getElem? (i := 31) rfl))) (Or.inl (hw _ (List.mem_of_getElem? (i := 20) rfl))) (by decide) (t := .int) (t' := .int) (by decide) (by decide)))
      have V100 := V89.other W94 (Ne.symm ne_a1_b_times_a1)
      have V101 := V83.other W94 (Ne.symm ne_a1_b_ordered_a1)
      have Z102 := Nat.le_trans Z91 (Keep.of_wr W94).1
      have K103 := K92.wr W94 (Or.inl (List.mem_of_getElem? (i := 0) rfl))
      refine own_st st94 ?_
      show own_G p.tables e below _ (T94.setTop (mkF m 163 #[.val (.ref a1), .val (.long q1), .second, .val (.int r65), .val (.int z68)] []))
      exact own_retV X94 hx hlk Bd.returns (hb hby d5_163) (by rw [e94]; exact ⟨rfl, N94, K103, E95, F96, F97, ⟨_, _, _, _, F98, F99, V100, V101, own_fin hk hK1 hK4 hR hnx hsv hp1 hp3⟩⟩) (by decide) (by decide)
    by_cases hc108_66 : r65 < (0 : Int32)
    · refine own_st (fun _ k => XS.ifYes X65.here hx rfl (pc0 := 108) (pc' := 115) rfl (hb hby d5_108) rfl ((if0 _ _).trans (tlt hc108_66).1) (by decide) (by decide) k) ?_
      show own_G p.tables e below _ (T65.setTop (mkF m 115 #[.val (.ref a1), .val (.long q1), .second, .val (.int r65), .unset] []))
      refine own_st (fun _ k => XS.iloadN X65.here hx rfl (hb hby d5_115) rfl k) ?_
      show own_G p.tables e below _ (T65.setTop (mkF m 116 #[.val (.ref a1), .val (.long q1), .second, .val (.int r65), .unset] [(.int r65)]))
      refine own_st (fun _ k => XS.ineg X65.here hx rfl (hb hby d5_116) rfl k) ?_
      show own_G p.tables e below _ (T65.setTop (mkF m 117 #[.val (.ref a1), .val (.long q1), .second, .val (.int r65), .unset] [(.int (-r65))]))
      refine own_st (fun _ k => XS.iconst X65.here hx rfl (hb hby d5_117) k) ?_
      show own_G p.tables e below _ (T65.setTop (mkF m 118 #[.val (.ref a1), .val (.long q1), .second, .val (.int r65), .unset] [(.int (1 : Int32)), (.int (-r65))]))
      refine own_st (fun _ k => XS.isub X65.here hx rfl (hb hby d5_118) rfl k) ?_
      show own_G p.tables e below _ (T65.setTop (mkF m 119 #[.val (.ref a1), .val (.long q1), .second, .val (.int r65), .unset] [(.int ((-r65) - (1 : Int32)))]))
      exact J119_67 ((-r65) - (1 : Int32)) ((if_pos hc108_66).symm)
    · refine own_st (fun _ k => XS.ifNo X65.here hx rfl (hb hby d5_108) rfl ((if0 _ _).trans (flt hc108_66).1) k) ?_
      show own_G p.tables e below _ (T65.setTop (mkF m 111 #[.val (.ref a1), .val (.long q1), .second, .val (.int r65), .unset] []))
      refine own_st (fun _ k => XS.iloadN X65.here hx rfl (hb hby d5_111) rfl k) ?_
      show own_G p.tables e below _ (T65.setTop (mkF m 112 #[.val (.ref a1), .val (.long q1), .second, .val (.int r65), .unset] [(.int r65)]))
      refine own_st (fun _ k => XS.goto X65.here hx rfl (pc0 := 112) (pc' := 119) rfl (hb hby d5_112) (by decide) (by decide) k) ?_
      show own_G p.tables e below _ (T65.setTop (mkF m 119 #[.val (.ref a1), .val (.long q1), .second, .val (.int r65), .unset] [(.int r65)]))
      exact J119_67 r65 ((if_neg hc108_66).symm)
  · refine own_st (fun _ k => XS.icmpYes X2.here hx rfl (pc0 := 9) (pc' := 67) rfl (hb hby d5_9) rfl (feq hc9_5).2 (by decide) (by decide) k) ?_
    show own_G p.tables e below _ (T2.setTop (mkF m 67 #[.val (.ref a1), .val (.long q1), .second, .unset, .unset] []))
    have HJ : ∀ f, own_bsa ord u_size_a1.toInt.toNat q1 f → own_HJ K us tim ord u_size_a1.toInt.toNat u_next_a1.toInt.toNat q1 f := fun f hb => own_add1' hk hK1 hR hsz hc9_5 hb
    have hsv : own_S1 K ord u_size_a1.toInt.toNat u_size_a1 := own_s1n hk hK1 hR hsz hc9_5
    refine own_st (fun _ k => XS.aloadN X2.here hx rfl (hb hby d5_67) rfl rfl k) ?_
    show own_G p.tables e below _ (T2.setTop (mkF m 68 #[.val (.ref a1), .val (.long q1), .second, .unset, .unset] [(.ref a1)]))
    obtain ⟨T104, X104, e104, st104⟩ := getF X2 hx hZ hown (host := "") (Or.inl (hw _ (List.mem_of_getElem? (i := 10) rfl))) Via.refl e2 F_times_a1 (g := (mkF m 68 #[.val (.ref a1), .val (.long q1), .second, .unset, .unset] [(.ref a1)])) rfl rfl (hb hby d5_68)
    refine own_st st104 ?_
    show own_G p.tables e below _ (T104.setTop (mkF m 71 #[.val (.ref a1), .val (.long q1), .second, .unset, .unset] [(.ref b_times_a1)]))
    refine own_st (fun _ k => XS.aloadN X104.here hx rfl (hb hby d5_71) rfl rfl k) ?_
    show own_G p.tables e below _ (T104.setTop (mkF m 72 #[.val (.ref a1), .val (.long q1), .second, .unset, .unset] [(.ref a1), (.ref b_times_a1)]))
    obtain ⟨T105, X105, e105, st105⟩ := getF X104 hx hZ hown (host := "") (Or.inl (hw _ (List.mem_of_getElem? (i := 30) rfl))) Via.refl e104 F_next_a1 (g := (mkF m 72 #[.val (.ref a1), .val (.long q1), .second, .unset, .unset] [(.ref a1), (.ref b_times_a1)])) rfl rfl (hb hby d5_72)
    refine own_st st105 ?_
    show own_G p.tables e below _ (T105.setTop (mkF m 75 #[.val (.ref a1), .val (.long q1), .second, .unset, .unset] [(.int u_next_a1), (.ref b_times_a1)]))
    refine own_st (fun _ k => XS.lloadN X105.here hx rfl (hb hby d5_75) rfl k) ?_
    show own_G p.tables e below _ (T105.setTop (mkF m 76 #[.val (.ref a1), .val (.long q1), .second, .unset, .unset] [(.long q1), (.int u_next_a1), (.ref b_times_a1)]))
    have ix106 := own_stn hk hK1 hR hnx
    obtain ⟨cl106, Ar106, qk106, S106, Nn106, H106, G106⟩ := V4
    have hin106 := inb_of S106 ix106.1
    obtain ⟨T106, h106, X106, e106, W106, st106⟩ := stJ X105 hx hZ e105 Ar106 (j := u_next_a1) hin106 (g := (mkF m 76 #[.val (.ref a1), .val (.long q1), .second, .unset, .unset] [(.long q1), (.int u_next_a1), (.ref b_times_a1)])) rfl rfl (hb hby d5_76)
    have N106 := Fr.snoc X106 N0 ge_b_times_a1
    have V106 : Arv Z h106 b_times_a1 k_times_a1 .long kI ((tim.set u_next_a1.toInt.toNat q1).map Value.long) (.long (0 : Int64)) := by rw [List.map_set]; exact Arv.set Ar106 qk106 S106 Nn106 H106 G106 rfl W106 u_next_a1.toInt.toNat ix106.2.1 (by rw [List.length_map]; exact ix106.2.2)
    have E107 := E_a1.wr W106
    have F108 := F_times_a1.other W106 (Or.inl ne_a1_b_times_a1)
    have F109 := F_ordered_a1.other W106 (Or.inl ne_a1_b_times_a1)
    have F110 := F_size_a1.other W106 (Or.inl ne_a1_b_times_a1)
    have F111 := F_next_a1.other W106 (Or.inl ne_a1_b_times_a1)
    have V113 := V_b_ordered_a1.other W106 (Ne.symm ne_bb)
    have Z114 := Nat.le_trans Z0 (Keep.of_wr W106).1
    have K115 := K0.wr W106 (Or.inl (List.mem_of_getElem? (i := 1) rfl))
    refine own_st st106 ?_
    show own_G p.tables e below _ (T106.setTop (mkF m 77 #[.val (.ref a1), .val (.long q1), .second, .unset, .unset] []))
    refine own_st (fun _ k => XS.aloadN X106.here hx rfl (hb hby d5_77) rfl rfl k) ?_
    show own_G p.tables e below _ (T106.setTop (mkF m 78 #[.val (.ref a1), .val (.long q1), .second, .unset, .unset] [(.ref a1)]))
    refine own_st (fun _ k => XS.aloadN X106.here hx rfl (hb hby d5_78) rfl rfl k) ?_
    show own_G p.tables e below _ (T106.setTop (mkF m 79 #[.val (.ref a1), .val (.long q1), .second, .unset, .unset] [(.ref a1), (.ref a1)]))
    obtain ⟨T116, X116, e116, st116⟩ := getF X106 hx hZ hown (host := "") (Or.inl (hw _ (List.mem_of_getElem? (i := 30) rfl))) Via.refl e106 F111 (g := (mkF m 79 #[.val (.ref a1), .val (.long q1), .second, .unset, .unset] [(.ref a1), (.ref a1)])) rfl rfl (hb hby d5_79)
    refine own_st st116 ?_
    show own_G p.tables e below _ (T116.setTop (mkF m 82 #[.val (.ref a1), .val (.long q1), .second, .unset, .unset] [(.int u_next_a1), (.ref a1)]))
    refine own_st (fun _ k => XS.iconst X116.here hx rfl (hb hby d5_82) k) ?_
    show own_G p.tables e below _ (T116.setTop (mkF m 83 #[.val (.ref a1), .val (.long q1), .second, .unset, .unset] [(.int (1 : Int32)), (.int u_next_a1), (.ref a1)]))
    refine own_st (fun _ k => XS.iadd X116.here hx rfl (hb hby d5_83) rfl k) ?_
    show own_G p.tables e below _ (T116.setTop (mkF m 84 #[.val (.ref a1), .val (.long q1), .second, .unset, .unset] [(.int (u_next_a1 + (1 : Int32))), (.ref a1)]))
    refine own_st (fun _ k => XS.aloadN X116.here hx rfl (hb hby d5_84) rfl rfl k) ?_
    show own_G p.tables e below _ (T116.setTop (mkF m 85 #[.val (.ref a1), .val (.long q1), .second, .unset, .unset] [(.ref a1), (.int (u_next_a1 + (1 : Int32))), (.ref a1)]))
    obtain ⟨T117, X117, e117, st117⟩ := getF X116 hx hZ hown (host := "") (Or.inl (hw _ (List.mem_of_getElem? (i := 10) rfl))) Via.refl e116 F108 (g := (mkF m 85 #[.val (.ref a1), .val (.long q1), .second, .unset, .unset] [(.ref a1), (.int (u_next_a1 + (1 : Int32))), (.ref a1)])) rfl rfl (hb hby d5_85)
    refine own_st st117 ?_
    show own_G p.tables e below _ (T117.setTop (mkF m 88 #[.val (.ref a1), .val (.long q1), .second, .unset, .unset] [(.ref b_times_a1), (.int (u_next_a1 + (1 : Int32))), (.ref a1)]))
    obtain ⟨cl118, Ar118, qk118, S118, Nn118, H118, G118⟩ := V106
    refine own_st (fun _ k => X117.arraylength hx (by rw [e117]; exact Ar118.1) (State.isArrayOf_alike hZ.alike Ar118.2.1) (g := (mkF m 88 #[.val (.ref a1), .val (.long q1), .second, .unset, .unset] [(.ref b_times_a1), (.int (u_next_a1 + (1 : Int32))), (.ref a1)])) rfl rfl (hb hby d5_88) _ (by rw [len_of S118 Nn118]; exact k)) ?_
    show own_G p.tables e below _ (T117.setTop (mkF m 89 #[.val (.ref a1), .val (.long q1), .second, .unset, .unset] [(.int kI), (.int (u_next_a1 + (1 : Int32))), (.ref a1)]))
    have V119 : Arv Z h106 b_times_a1 k_times_a1 .long kI ((tim.set u_next_a1.toInt.toNat q1).map Value.long) (.long (0 : Int64)) := ⟨cl118, Ar118, qk118, S118, Nn118, H118, G118⟩
    refine own_st (fun _ k => iremM (g := (mkF m 89 #[.val (.ref a1), .val (.long q1), .second, .unset, .unset] [(.int kI), (.int (u_next_a1 + (1 : Int32))), (.ref a1)])) X117 hx rfl (hb hby d5_89) rfl (own_kne hk hK1) k) ?_
    show own_G p.tables e below _ (T117.setTop (mkF m 90 #[.val (.ref a1), .val (.long q1), .second, .unset, .unset] [(.int ((u_next_a1 + (1 : Int32)) % kI)), (.ref a1)]))
    obtain ⟨T120, h120, X120, e120, W120, st120⟩ := putF X117 hx hZ hown (host := "") (Or.inl (hw _ (List.mem_of_getElem? (i := 30) rfl))) Via.refl e117 F111 E107 (Or.inl (hw _ (List.mem_of_getElem? (i := 31) rfl))) (hw _ (List.mem_of_getElem? (i := 1) rfl)) (ty := .int) (by decide) rfl rfl (g := (mkF m 90 #[.val (.ref a1), .val (.long q1), .second, .unset, .unset] [(.int ((u_next_a1 + (1 : Int32)) % kI)), (.ref a1)])) rfl rfl (hb hby d5_90)
    have N120 := Fr.snoc X120 N106 ge_a1
    have E121 := E107.wr W120
    have F122 := F108.other W120 (Or.inr (slot_ne (Or.inr (hw _ (List.mem_of_getElem? (i := 11) rfl))) (Or.inl (hw _ (List.mem_of_getElem? (i := 31) rfl))) (by decide) (t := (.array .long)) (t' := .int) (by decide) (by decide)))
    have F123 := F109.other W120 (Or.inr (slot_ne (Or.inr (hw _ (List.mem_of_getElem? (i := 13) rfl))) (Or.inl (hw _ (List.mem_of_getElem? (i := 31) rfl))) (by decide) (t := (.array .long)) (t' := .int) (by decide) (by decide)))
    have F124 := F110.other W120 (Or.inr (slot_ne (Or.inl (hw _ (List.mem_of_getElem? (i := 20) rfl))) (Or.inl (hw _ (List.mem_of_getElem? (i := 31) rfl))) (by decide) (t := .int) (t' := .int) (by decide) (by decide)))
    have F125 := F111.same W120
    have V126 := V119.other W120 (Ne.symm ne_a1_b_times_a1)
    have V127 := V113.other W120 (Ne.symm ne_a1_b_ordered_a1)
    have Z128 := Nat.le_trans Z114 (Keep.of_wr W120).1
    have K129 := K115.wr W120 (Or.inl (List.mem_of_getElem? (i := 0) rfl))
    refine own_st st120 ?_
    show own_G p.tables e below _ (T120.setTop (mkF m 93 #[.val (.ref a1), .val (.long q1), .second, .unset, .unset] []))
    refine own_st (fun _ k => XS.aloadN X120.here hx rfl (hb hby d5_93) rfl rfl k) ?_
    show own_G p.tables e below _ (T120.setTop (mkF m 94 #[.val (.ref a1), .val (.long q1), .second, .unset, .unset] [(.ref a1)]))
    obtain ⟨T130, X130, e130, st130⟩ := getF X120 hx hZ hown (host := "") (Or.inl (hw _ (List.mem_of_getElem? (i := 12) rfl))) Via.refl e120 F123 (g := (mkF m 94 #[.val (.ref a1), .val (.long q1), .second, .unset, .unset] [(.ref a1)])) rfl rfl (hb hby d5_94)
    refine own_st st130 ?_
    show own_G p.tables e below _ (T130.setTop (mkF m 97 #[.val (.ref a1), .val (.long q1), .second, .unset, .unset] [(.ref b_ordered_a1)]))
    refine own_st (fun _ k => XS.iconst X130.here hx rfl (hb hby d5_97) k) ?_
    show own_G p.tables e below _ (T130.setTop (mkF m 98 #[.val (.ref a1), .val (.long q1), .second, .unset, .unset] [(.int (0 : Int32)), (.ref b_ordered_a1)]))
    refine own_st (fun _ k => XS.aloadN X130.here hx rfl (hb hby d5_98) rfl rfl k) ?_
    show own_G p.tables e below _ (T130.setTop (mkF m 99 #[.val (.ref a1), .val (.long q1), .second, .unset, .unset] [(.ref a1), (.int (0 : Int32)), (.ref b_ordered_a1)]))
    obtain ⟨T131, X131, e131, st131⟩ := getF X130 hx hZ hown (host := "") (Or.inl (hw _ (List.mem_of_getElem? (i := 19) rfl))) Via.refl e130 F124 (g := (mkF m 99 #[.val (.ref a1), .val (.long q1), .second, .unset, .unset] [(.ref a1), (.int (0 : Int32)), (.ref b_ordered_a1)])) rfl rfl (hb hby d5_99)
    refine own_st st131 ?_
    show own_G p.tables e below _ (T131.setTop (mkF m 102 #[.val (.ref a1), .val (.long q1), .second, .unset, .unset] [(.int u_size_a1), (.int (0 : Int32)), (.ref b_ordered_a1)]))
    refine own_st (fun _ k => XS.lloadN X131.here hx rfl (hb hby d5_102) rfl k) ?_
    show own_G p.tables e below _ (T131.setTop (mkF m 103 #[.val (.ref a1), .val (.long q1), .second, .unset, .unset] [(.long q1), (.int u_size_a1), (.int (0 : Int32)), (.ref b_ordered_a1)]))
    obtain ⟨_, _, ⟨T132, L132, k132, n132⟩, -, X132, ⟨Lc132, hQ132, l132, y132, z132⟩, st132⟩ := Jvm.LawKit.callS X131 hx (y := (⟨"java/util/Arrays", "binarySearch", "([JIIJ)I"⟩ : MethodName)) hown (mvT hZ (hw _ (List.mem_of_getElem? (i := 32) rfl))) (mvT hZ (hw _ (List.mem_of_getElem? (i := 33) rfl))) (mvT hZ (hw _ (List.mem_of_getElem? (i := 34) rfl))) (mvT hZ (hw _ (List.mem_of_getElem? (i := 35) rfl))) (by decide) (backOf (W := 0) (rm6 l Z a0 hw [] b_ordered_a1 u_size_a1 q1 k_ordered_a1 kI K ord h120 n0 Z128 V127 hk hK4 hsv.1 (own_to2 hsv) (own_s1s hsv)) hZ (hw _ (List.mem_of_getElem? (i := 35) rfl)) (hw _ (List.mem_of_getElem? (i := 34) rfl)) (by decide) (by decide)) (g := (mkF m 103 #[.val (.ref a1), .val (.long q1), .second, .unset, .unset] [(.long q1), (.int u_size_a1), (.int (0 : Int32)), (.ref b_ordered_a1)])) rfl (by rw [hml]; rfl) (argsL := [(.ref b_ordered_a1), (.int (0 : Int32)), (.int u_size_a1), (.long q1)]) (rest := []) (lenOf pd_1 rfl) rfl (by show 2 * 0 + _ ≤ _; exact Nat.le_of_eq rfl) (hb hby d5_103) (fun _ _ => ⟨rfl, e131, (by decide : 0 + 0 ≤ _), (by decide : 0 + 0 ≤ _)⟩)
    dsimp only [Pt.U, Pt.locs, Pt.cells, Pt.slots] at X132 l132 y132 z132 st132 hQ132
    subst l132 y132 z132
    obtain ⟨⟨r132, rfl, hb132⟩, N132q, e132⟩ := hQ132
    have N132 := Fr.app N120 N132q
    refine own_st st132 ?_
    show own_G p.tables e below _ (T132.setTop (mkF m 106 #[.val (.ref a1), .val (.long q1), .second, .unset, .unset] [(.int r132)]))
    refine own_st (fun _ k => XS.istoreN X132.here hx rfl (hb hby d5_106) rfl (l' := #[.val (.ref a1), .val (.long q1), .second, .val (.int r132), .unset]) rfl k) ?_
    show own_G p.tables e below _ (T132.setTop (mkF m 107 #[.val (.ref a1), .val (.long q1), .second, .val (.int r132), .unset] []))
    refine own_st (fun _ k => XS.iloadN X132.here hx rfl (hb hby d5_107) rfl k) ?_
    show own_G p.tables e below _ (T132.setTop (mkF m 108 #[.val (.ref a1), .val (.long q1), .second, .val (.int r132), .unset] [(.int r132)]))
    have J119_134 : ∀ (z135 : Int32) (hz135 : z135 = (if r132 < (0 : Int32) then ((-r132) - (1 : Int32)) else r132)), own_G p.tables e below (own_P s (Qadd Z a1 q1 b_times_a1 k_times_a1 b_ordered_a1 k_ordered_a1 u_size_a1 u_next_a1 kI K us tim ord h0 n0) 0 0) (T132.setTop (mkF m 119 #[.val (.ref a1), .val (.long q1), .second, .val (.int r132), .unset] [(.int z135)])) := by
      intro z135 hz135
      obtain ⟨pp, hp1, hp2, hp3⟩ := own_plc HJ hsv hb132 hz135
      refine own_st (fun _ k => XS.istore X132.here hx rfl (hb hby d5_119) rfl (l' := #[.val (.ref a1), .val (.long q1), .second, .val (.int r132), .val (.int z135)]) rfl k) ?_
      show own_G p.tables e below _ (T132.setTop (mkF m 121 #[.val (.ref a1), .val (.long q1), .second, .val (.int r132), .val (.int z135)] []))
      refine own_st (fun _ k => XS.aloadN X132.here hx rfl (hb hby d5_121) rfl rfl k) ?_
      show own_G p.tables e below _ (T132.setTop (mkF m 122 #[.val (.ref a1), .val (.long q1), .second, .val (.int r132), .val (.int z135)] [(.ref a1)]))
      obtain ⟨T136, X136, e136, st136⟩ := getF X132 hx hZ hown (host := "") (Or.inl (hw _ (List.mem_of_getElem? (i := 12) rfl))) Via.refl e132 F123 (g := (mkF m 122 #[.val (.ref a1), .val (.long q1), .second, .val (.int r132), .val (.int z135)] [(.ref a1)])) rfl rfl (hb hby d5_122)
      refine own_st st136 ?_
      show own_G p.tables e below _ (T136.setTop (mkF m 125 #[.val (.ref a1), .val (.long q1), .second, .val (.int r132), .val (.int z135)] [(.ref b_ordered_a1)]))
      refine own_st (fun _ k => XS.iload X136.here hx rfl (hb hby d5_125) rfl k) ?_
      show own_G p.tables e below _ (T136.setTop (mkF m 127 #[.val (.ref a1), .val (.long q1), .second, .val (.int r132), .val (.int z135)] [(.int z135), (.ref b_ordered_a1)]))
      refine own_st (fun _ k => XS.aloadN X136.here hx rfl (hb hby d5_127) rfl rfl k) ?_
      show own_G p.tables e below _ (T136.setTop (mkF m 128 #[.val (.ref a1), .val (.long q1), .second, .val (.int r132), .val (.int z135)] [(.ref a1), (.int z135), (.ref b_ordered_a1)]))
      obtain ⟨T137, X137, e137, st137⟩ := getF X136 hx hZ hown (host := "") (Or.inl (hw _ (List.mem_of_getElem? (i := 12) rfl))) Via.refl e136 F123 (g := (mkF m 128 #[.val (.ref a1), .val (.long q1), .second, .val (.int r132), .val (.int z135)] [(.ref a1), (.int z135), (.ref b_ordered_a1)])) rfl rfl (hb hby d5_128)
      refine own_st st137 ?_
      show own_G p.tables e below _ (T137.setTop (mkF m 131 #[.val (.ref a1), .val (.long q1), .second, .val (.int r132), .val (.int z135)] [(.ref b_ordered_a1), (.int z135), (.ref b_ordered_a1)]))
      refine own_st (fun _ k => XS.iload X137.here hx rfl (hb hby d5_131) rfl k) ?_
      show own_G p.tables e below _ (T137.setTop (mkF m 133 #[.val (.ref a1), .val (.long q1), .second, .val (.int r132), .val (.int z135)] [(.int z135), (.ref b_ordered_a1), (.int z135), (.ref b_ordered_a1)]))
      refine own_st (fun _ k => XS.iconst X137.here hx rfl (hb hby d5_133) k) ?_
      show own_G p.tables e below _ (T137.setTop (mkF m 134 #[.val (.ref a1), .val (.long q1), .second, .val (.int r132), .val (.int z135)] [(.int (1 : Int32)), (.int z135), (.ref b_ordered_a1), (.int z135), (.ref b_ordered_a1)]))
      refine own_st (fun _ k => XS.iadd X137.here hx rfl (hb hby d5_134) rfl k) ?_
      show own_G p.tables e below _ (T137.setTop (mkF m 135 #[.val (.ref a1), .val (.long q1), .second, .val (.int r132), .val (.int z135)] [(.int (z135 + (1 : Int32))), (.ref b_ordered_a1), (.int z135), (.ref b_ordered_a1)]))
      refine own_st (fun _ k => XS.aloadN X137.here hx rfl (hb hby d5_135) rfl rfl k) ?_
      show own_G p.tables e below _ (T137.setTop (mkF m 136 #[.val (.ref a1), .val (.long q1), .second, .val (.int r132), .val (.int z135)] [(.ref a1), (.int (z135 + (1 : Int32))), (.ref b_ordered_a1), (.int z135), (.ref b_ordered_a1)]))
      obtain ⟨T138, X138, e138, st138⟩ := getF X137 hx hZ hown (host := "") (Or.inl (hw _ (List.mem_of_getElem? (i := 19) rfl))) Via.refl e137 F124 (g := (mkF m 136 #[.val (.ref a1), .val (.long q1), .second, .val (.int r132), .val (.int z135)] [(.ref a1), (.int (z135 + (1 : Int32))), (.ref b_ordered_a1), (.int z135), (.ref b_ordered_a1)])) rfl rfl (hb hby d5_136)
      refine own_st st138 ?_
      show own_G p.tables e below _ (T138.setTop (mkF m 139 #[.val (.ref a1), .val (.long q1), .second, .val (.int r132), .val (.int z135)] [(.int u_size_a1), (.int (z135 + (1 : Int32))), (.ref b_ordered_a1), (.int z135), (.ref b_ordered_a1)]))
      refine own_st (fun _ k => XS.iload X138.here hx rfl (hb hby d5_139) rfl k) ?_
      show own_G p.tables e below _ (T138.setTop (mkF m 141 #[.val (.ref a1), .val (.long q1), .second, .val (.int r132), .val (.int z135)] [(.int z135), (.int u_size_a1), (.int (z135 + (1 : Int32))), (.ref b_ordered_a1), (.int z135), (.ref b_ordered_a1)]))
      refine own_st (fun _ k => XS.isub X138.here hx rfl (hb hby d5_141) rfl k) ?_
      show own_G p.tables e below _ (T138.setTop (mkF m 142 #[.val (.ref a1), .val (.long q1), .second, .val (.int r132), .val (.int z135)] [(.int (u_size_a1 - z135)), (.int (z135 + (1 : Int32))), (.ref b_ordered_a1), (.int z135), (.ref b_ordered_a1)]))
      have cp139 := own_cp2 hk hK4 hsv hp1 hp2
      obtain ⟨T139, h139, L139, X139, e139, N139, K139, Vq139, st139⟩ := cpA X138 hx hZ hown (hw _ (List.mem_of_getElem? (i := 42) rfl)) (hw _ (List.mem_of_getElem? (i := 45) rfl)) (hw _ (List.mem_of_getElem? (i := 43) rfl)) (hw _ (List.mem_of_getElem? (i := 44) rfl)) e138 V127 V127 (Or.inl ⟨rfl, rfl⟩) cp139.1 cp139.2.1 cp139.2.2.1 cp139.2.2.2.1 cp139.2.2.2.2.1 rfl cp139.2.2.2.2.2.1 N132 ge_b_ordered_a1 (g := (mkF m 142 #[.val (.ref a1), .val (.long q1), .second, .val (.int r132), .val (.int z135)] [(.int (u_size_a1 - z135)), (.int (z135 + (1 : Int32))), (.ref b_ordered_a1), (.int z135), (.ref b_ordered_a1)])) rfl (by rw [hml]; rfl) rfl (hb hby d5_142) (by decide) (W := 0) (by show 2 * 0 + _ ≤ _; exact Nat.le_of_eq rfl) (by decide)
      have V139 : Arv Z h139 b_ordered_a1 k_ordered_a1 .long kI ((own_cpy ord pp (pp + 1) (u_size_a1.toInt.toNat - pp)).map Value.long) (.long (0 : Int64)) := by rw [cp139.2.2.2.2.2.2]; exact Vq139
      have E140 := E121.keep K139
      have F141 := F122.keep K139 (ninS ne_a1_b_ordered_a1 nin0)
      have F142 := F123.keep K139 (ninS ne_a1_b_ordered_a1 nin0)
      have F143 := F124.keep K139 (ninS ne_a1_b_ordered_a1 nin0)
      have F144 := F125.keep K139 (ninS ne_a1_b_ordered_a1 nin0)
      have V145 := V126.keep K139 (ninS ne_bb nin0)
      have Z147 := Nat.le_trans Z128 K139.1
      have K148 := K129.trans K139 (((allS (P := fun x => x ∈ ([a1, b_times_a1, b_ordered_a1] : List Addr) ∨ h0.size ≤ x) (Or.inl (List.mem_of_getElem? (i := 2) rfl)) all0) : ∀ x ∈ ([b_ordered_a1] : List Addr), x ∈ ([a1, b_times_a1, b_ordered_a1] : List Addr) ∨ h0.size ≤ x))
      refine own_st st139 ?_
      show own_G p.tables e below _ (T139.setTop (mkF m 145 #[.val (.ref a1), .val (.long q1), .second, .val (.int r132), .val (.int z135)] []))
      refine own_st (fun _ k => XS.aloadN X139.here hx rfl (hb hby d5_145) rfl rfl k) ?_
      show own_G p.tables e below _ (T139.setTop (mkF m 146 #[.val (.ref a1), .val (.long q1), .second, .val (.int r132), .val (.int z135)] [(.ref a1)]))
      obtain ⟨T149, X149, e149, st149⟩ := getF X139 hx hZ hown (host := "") (Or.inl (hw _ (List.mem_of_getElem? (i := 12) rfl))) Via.refl e139 F142 (g := (mkF m 146 #[.val (.ref a1), .val (.long q1), .second, .val (.int r132), .val (.int z135)] [(.ref a1)])) rfl rfl (hb hby d5_146)
      refine own_st st149 ?_
      show own_G p.tables e below _ (T149.setTop (mkF m 149 #[.val (.ref a1), .val (.long q1), .second, .val (.int r132), .val (.int z135)] [(.ref b_ordered_a1)]))
      refine own_st (fun _ k => XS.iload X149.here hx rfl (hb hby d5_149) rfl k) ?_
      show own_G p.tables e below _ (T149.setTop (mkF m 151 #[.val (.ref a1), .val (.long q1), .second, .val (.int r132), .val (.int z135)] [(.int z135), (.ref b_ordered_a1)]))
      refine own_st (fun _ k => XS.lloadN X149.here hx rfl (hb hby d5_151) rfl k) ?_
      show own_G p.tables e below _ (T149.setTop (mkF m 152 #[.val (.ref a1), .val (.long q1), .second, .val (.int r132), .val (.int z135)] [(.long q1), (.int z135), (.ref b_ordered_a1)]))
      have ix150 := own_stp2 hk hK4 hsv hp1 hp2
      obtain ⟨cl150, Ar150, qk150, S150, Nn150, H150, G150⟩ := V139
      have hin150 := inb_of S150 ix150.1
      obtain ⟨T150, h150, X150, e150, W150, st150⟩ := stJ X149 hx hZ e149 Ar150 (j := z135) hin150 (g := (mkF m 152 #[.val (.ref a1), .val (.long q1), .second, .val (.int r132), .val (.int z135)] [(.long q1), (.int z135), (.ref b_ordered_a1)])) rfl rfl (hb hby d5_152)
      have N150 := Fr.snoc X150 N139 ge_b_ordered_a1
      have V150 : Arv Z h150 b_ordered_a1 k_ordered_a1 .long kI (((own_cpy ord pp (pp + 1) (u_size_a1.toInt.toNat - pp)).set pp q1).map Value.long) (.long (0 : Int64)) := by rw [List.map_set]; exact Arv.set Ar150 qk150 S150 Nn150 H150 G150 rfl W150 pp ix150.2.1 (by rw [List.length_map]; exact ix150.2.2)
      have E151 := E140.wr W150
      have F152 := F141.other W150 (Or.inl ne_a1_b_ordered_a1)
      have F153 := F142.other W150 (Or.inl ne_a1_b_ordered_a1)
      have F154 := F143.other W150 (Or.inl ne_a1_b_ordered_a1)
      have F155 := F144.other W150 (Or.inl ne_a1_b_ordered_a1)
      have V156 := V145.other W150 ne_bb
      have Z158 := Nat.le_trans Z147 (Keep.of_wr W150).1
      have K159 := K148.wr W150 (Or.inl (List.mem_of_getElem? (i := 2) rfl))
      refine own_st st150 ?_
      show own_G p.tables e below _ (T150.setTop (mkF m 153 #[.val (.ref a1), .val (.long q1), .second, .val (.int r132), .val (.int z135)] []))
      refine own_st (fun _ k => XS.aloadN X150.here hx rfl (hb hby d5_153) rfl rfl k) ?_
      show own_G p.tables e below _ (T150.setTop (mkF m 154 #[.val (.ref a1), .val (.long q1), .second, .val (.int r132), .val (.int z135)] [(.ref a1)]))
      refine own_st (fun _ k => XS.dup X150.here hx rfl (hb hby d5_154) rfl rfl k) ?_
      show own_G p.tables e below _ (T150.setTop (mkF m 155 #[.val (.ref a1), .val (.long q1), .second, .val (.int r132), .val (.int z135)] [(.ref a1), (.ref a1)]))
      obtain ⟨T160, X160, e160, st160⟩ := getF X150 hx hZ hown (host := "") (Or.inl (hw _ (List.mem_of_getElem? (i := 19) rfl))) Via.refl e150 F154 (g := (mkF m 155 #[.val (.ref a1), .val (.long q1), .second, .val (.int r132), .val (.int z135)] [(.ref a1), (.ref a1)])) rfl rfl (hb hby d5_155)
      refine own_st st160 ?_
      show own_G p.tables e below _ (T160.setTop (mkF m 158 #[.val (.ref a1), .val (.long q1), .second, .val (.int r132), .val (.int z135)] [(.int u_size_a1), (.ref a1)]))
      refine own_st (fun _ k => XS.iconst X160.here hx rfl (hb hby d5_158) k) ?_
      show own_G p.tables e below _ (T160.setTop (mkF m 159 #[.val (.ref a1), .val (.long q1), .second, .val (.int r132), .val (.int z135)] [(.int (1 : Int32)), (.int u_size_a1), (.ref a1)]))
      refine own_st (fun _ k => XS.iadd X160.here hx rfl (hb hby d5_159) rfl k) ?_
      show own_G p.tables e below _ (T160.setTop (mkF m 160 #[.val (.ref a1), .val (.long q1), .second, .val (.int r132), .val (.int z135)] [(.int (u_size_a1 + (1 : Int32))), (.ref a1)]))
      obtain ⟨T161, h161, X161, e161, W161, st161⟩ := putF X160 hx hZ hown (host := "") (Or.inl (hw _ (List.mem_of_getElem? (i := 19) rfl))) Via.refl e160 F154 E151 (Or.inl (hw _ (List.mem_of_getElem? (i := 20) rfl))) (hw _ (List.mem_of_getElem? (i := 1) rfl)) (ty := .int) (by decide) rfl rfl (g := (mkF m 160 #[.val (.ref a1), .val (.long q1), .second, .val (.int r132), .val (.int z135)] [(.int (u_size_a1 + (1 : Int32))), (.ref a1)])) rfl rfl (hb hby d5_160)
      have N161 := Fr.snoc X161 N150 ge_a1
      have E162 := E151.wr W161
      have F163 := F152.other W161 (Or.inr (slot_ne (Or.inr (hw _ (List.mem_of_getElem? (i := 11) rfl))) (Or.inl (hw _ (List.mem_of_getElem? (i := 20) rfl))) (by decide) (t := (.array .long)) (t' := .int) (by decide) (by decide)))
      have F164 := F153.other W161 (Or.inr (slot_ne (Or.inr (hw _ (List.mem_of_getElem? (i := 13) rfl))) (Or.inl (hw _ (List.mem_of_getElem? (i := 20) rfl))) (by decide) (t := (.array .long)) (t' := .int) (by decide) (by decide)))
      have F165 := F154.same W161
      have F166 := F155.other W161 (Or.inr (slot_ne (Or.inl (hw _ (List.mem_of_getElem? (i := 31) rfl))) (Or.inl (hw _ (List.mem_of_getElem? (i := 20) rfl))) (by decide) (t := .int) (t' := .int) (by decide) (by decide)))
      have V167 := V156.other W161 (Ne.symm ne_a1_b_times_a1)
      have V168 := V150.other W161 (Ne.symm ne_a1_b_ordered_a1)
      have Z169 := Nat.le_trans Z158 (Keep.of_wr W161).1
      have K170 := K159.wr W161 (Or.inl (List.mem_of_getElem? (i := 0) rfl))
      refine own_st st161 ?_
      show own_G p.tables e below _ (T161.setTop (mkF m 163 #[.val (.ref a1), .val (.long q1), .second, .val (.int r132), .val (.int z135)] []))
      exact own_retV X161 hx hlk Bd.returns (hb hby d5_163) (by rw [e161]; exact ⟨rfl, N161, K170, E162, F163, F164, ⟨_, _, _, _, F165, F166, V167, V168, own_fin hk hK1 hK4 hR hnx hsv hp1 hp3⟩⟩) (by decide) (by decide)
    by_cases hc108_133 : r132 < (0 : Int32)
    · refine own_st (fun _ k => XS.ifYes X132.here hx rfl (pc0 := 108) (pc' := 115) rfl (hb hby d5_108) rfl ((if0 _ _).trans (tlt hc108_133).1) (by decide) (by decide) k) ?_
      show own_G p.tables e below _ (T132.setTop (mkF m 115 #[.val (.ref a1), .val (.long q1), .second, .val (.int r132), .unset] []))
      refine own_st (fun _ k => XS.iloadN X132.here hx rfl (hb hby d5_115) rfl k) ?_
      show own_G p.tables e below _ (T132.setTop (mkF m 116 #[.val (.ref a1), .val (.long q1), .second, .val (.int r132), .unset] [(.int r132)]))
      refine own_st (fun _ k => XS.ineg X132.here hx rfl (hb hby d5_116) rfl k) ?_
      show own_G p.tables e below _ (T132.setTop (mkF m 117 #[.val (.ref a1), .val (.long q1), .second, .val (.int r132), .unset] [(.int (-r132))]))
      refine own_st (fun _ k => XS.iconst X132.here hx rfl (hb hby d5_117) k) ?_
      show own_G p.tables e below _ (T132.setTop (mkF m 118 #[.val (.ref a1), .val (.long q1), .second, .val (.int r132), .unset] [(.int (1 : Int32)), (.int (-r132))]))
      refine own_st (fun _ k => XS.isub X132.here hx rfl (hb hby d5_118) rfl k) ?_
      show own_G p.tables e below _ (T132.setTop (mkF m 119 #[.val (.ref a1), .val (.long q1), .second, .val (.int r132), .unset] [(.int ((-r132) - (1 : Int32)))]))
      exact J119_134 ((-r132) - (1 : Int32)) ((if_pos hc108_133).symm)
    · refine own_st (fun _ k => XS.ifNo X132.here hx rfl (hb hby d5_108) rfl ((if0 _ _).trans (flt hc108_133).1) k) ?_
      show own_G p.tables e below _ (T132.setTop (mkF m 111 #[.val (.ref a1), .val (.long q1), .second, .val (.int r132), .unset] []))
      refine own_st (fun _ k => XS.iloadN X132.here hx rfl (hb hby d5_111) rfl k) ?_
      show own_G p.tables e below _ (T132.setTop (mkF m 112 #[.val (.ref a1), .val (.long q1), .second, .val (.int r132), .unset] [(.int r132)]))
      refine own_st (fun _ k => XS.goto X132.here hx rfl (pc0 := 112) (pc' := 119) rfl (hb hby d5_112) (by decide) (by decide) k) ?_
      show own_G p.tables e below _ (T132.setTop (mkF m 119 #[.val (.ref a1), .val (.long q1), .second, .val (.int r132), .unset] [(.int r132)]))
      exact J119_134 r132 ((if_neg hc108_133).symm)
def Qper (Z : State) (a1 : Addr) (b_times_a1 : Addr) (k_times_a1 : ClassId) (b_ordered_a1 : Addr) (k_ordered_a1 : ClassId) (u_size_a1 : Int32) (u_next_a1 : Int32) (kI : Int32) (K : Nat) (us : List Int64) (tim : List Int64) (ord : List Int64) (h0 : Heap) (n0 : Nat) (v : Option Value) (h : Heap) (L : List Loc) : Prop := (∃ z : Int64, v = some (.long z) ∧ own_pm K us z) ∧ Fr n0 L ∧ h = h0
set_option maxRecDepth 65536 in
set_option maxHeartbeats 40000000 in
theorem rmper (l : Launch) (Z : State) (a0 : Array Value) (hw : ∀ d ∈ tables_1, d.before a0 Z = true) (ws : List Jvm.Cond) (a1 : Addr) (b_times_a1 : Addr) (k_times_a1 : ClassId) (b_ordered_a1 : Addr) (k_ordered_a1 : ClassId) (u_size_a1 : Int32) (u_next_a1 : Int32) (kI : Int32) (K : Nat) (us : List Int64) (tim : List Int64) (ord : List Int64) (h0 : Heap) (n0 : Nat) (Z0 : n0 ≤ h0.size) (F_times_a1 : Fld Z h0 a1 "com/example/funnel/funnel/admission/RecentTimes" "times" "[J" (.ref b_times_a1)) (V_b_times_a1 : Arv Z h0 b_times_a1 k_times_a1 .long kI (tim.map Value.long) (.long (0 : Int64))) (ne_a1_b_times_a1 : a1 ≠ b_times_a1) (F_ordered_a1 : Fld Z h0 a1 "com/example/funnel/funnel/admission/RecentTimes" "ordered" "[J" (.ref b_ordered_a1)) (V_b_ordered_a1 : Arv Z h0 b_ordered_a1 k_ordered_a1 .long kI (ord.map Value.long) (.long (0 : Int64))) (ne_a1_b_ordered_a1 : a1 ≠ b_ordered_a1) (F_size_a1 : Fld Z h0 a1 "com/example/funnel/funnel/admission/RecentTimes" "size" "I" (.int u_size_a1)) (F_next_a1 : Fld Z h0 a1 "com/example/funnel/funnel/admission/RecentTimes" "next" "I" (.int u_next_a1)) (E_a1 : Exa Z h0 a1 "com/example/funnel/funnel/admission/RecentTimes") (hk : kI.toInt = (K : Int)) (hK1 : 1 ≤ K) (hK4 : K ≤ 4) (hR : own_R K us tim ord u_size_a1.toInt.toNat u_next_a1.toInt.toNat) (hsz : 0 ≤ u_size_a1.toInt) (hnx : 0 ≤ u_next_a1.toInt) :
    MetFree l (⟨"com/example/funnel/funnel/admission/RecentTimes", "percentile95", "()J"⟩ : MethodName) (head1 (Jvm.Cond.code (⟨"com/example/funnel/funnel/admission/RecentTimes", "percentile95", "()J"⟩ : MethodName) prog_1_method_4_code 2 (some .long) :: ws) ({ frames := 0, cells := 0, slots := 0, locals := 0 } : Room)) (fun a U => a = #[(.ref a1)] ∧ Z.Warmed39 U.vm ∧ U.heap = h0) (fun _ _ _ _ _ => True) (fun _ U o U' => ∃ v L, o = .returned v ∧ Qper Z a1 b_times_a1 k_times_a1 b_ordered_a1 k_ordered_a1 u_size_a1 u_next_a1 kI K us tim ord h0 n0 v U'.heap L ∧ FrameEnd U o U' L ({ frames := 0, cells := 0, slots := 0, locals := 0 } : Room).cells ({ frames := 0, cells := 0, slots := 0, locals := 0 } : Room).slots) := by
  refine MetFree.of_bodySF (plainFor_of_name pn_3) hisR ?_
  intro p e s m args below meth c s₁ Bd hml0 hP hK
  obtain ⟨rfl, hZ, hh⟩ := hP
  have hx := Bd.exec
  have hby := Bd.bytes
  have hlk := BodyLoose.notSynchronized Bd
  have hml : c.maxLocals = 2 := hml0
  have hown : s.vm.findClass "com/example/funnel/funnel/admission/RecentTimes" = some m.cls := findClass_of_methodNamed Bd.named
  have hnm := (name_of_methodNamed Bd.named Bd.method).1
  have X0 : Stand p l e ({ frames := 0, cells := 0, slots := 0, locals := 0 } : Room) s m #[(.ref a1)] below meth c s₁ [] 0 0 := Stand.of_body Bd
  have e0 : s₁.heap = h0 := by rw [← hh, Bd.state]; rfl
  have N0 := Fr.nil n0
  have K0 := Keep.refl h0 []
  show own_G p.tables e below (own_P s (Qper Z a1 b_times_a1 k_times_a1 b_ordered_a1 k_ordered_a1 u_size_a1 u_next_a1 kI K us tim ord h0 n0) 0 0) (s₁.setTop (entryFrame m #[(.ref a1)] 2))
  refine own_st (fun t k => castTop (ef_per m a1) k) ?_
  show own_G p.tables e below _ (s₁.setTop (mkF m 0 #[.val (.ref a1), .unset] []))
  refine own_st (fun _ k => XS.bipush X0.here hx rfl (hb hby d3_0) k) ?_
  show own_G p.tables e below _ (s₁.setTop (mkF m 2 #[.val (.ref a1), .unset] [(.int (95 : Int32))]))
  refine own_st (fun _ k => XS.aloadN X0.here hx rfl (hb hby d3_2) rfl rfl k) ?_
  show own_G p.tables e below _ (s₁.setTop (mkF m 3 #[.val (.ref a1), .unset] [(.ref a1), (.int (95 : Int32))]))
  obtain ⟨T1, X1, e1, st1⟩ := getF X0 hx hZ hown (host := "") (Or.inl (hw _ (List.mem_of_getElem? (i := 19) rfl))) Via.refl e0 F_size_a1 (g := (mkF m 3 #[.val (.ref a1), .unset] [(.ref a1), (.int (95 : Int32))])) rfl rfl (hb hby d3_3)
  refine own_st st1 ?_
  show own_G p.tables e below _ (T1.setTop (mkF m 6 #[.val (.ref a1), .unset] [(.int u_size_a1), (.int (95 : Int32))]))
  refine own_st (fun _ k => XS.imul X1.here hx rfl (hb hby d3_6) rfl k) ?_
  show own_G p.tables e below _ (T1.setTop (mkF m 7 #[.val (.ref a1), .unset] [(.int ((95 : Int32) * u_size_a1))]))
  refine own_st (fun _ k => XS.bipush X1.here hx rfl (hb hby d3_7) k) ?_
  show own_G p.tables e below _ (T1.setTop (mkF m 9 #[.val (.ref a1), .unset] [(.int (99 : Int32)), (.int ((95 : Int32) * u_size_a1))]))
  refine own_st (fun _ k => XS.iadd X1.here hx rfl (hb hby d3_9) rfl k) ?_
  show own_G p.tables e below _ (T1.setTop (mkF m 10 #[.val (.ref a1), .unset] [(.int (((95 : Int32) * u_size_a1) + (99 : Int32)))]))
  refine own_st (fun _ k => XS.bipush X1.here hx rfl (hb hby d3_10) k) ?_
  show own_G p.tables e below _ (T1.setTop (mkF m 12 #[.val (.ref a1), .unset] [(.int (100 : Int32)), (.int (((95 : Int32) * u_size_a1) + (99 : Int32)))]))
  refine own_st (fun _ k => XS.idiv X1.here hx rfl (hb hby d3_12) rfl (by decide) k) ?_
  show own_G p.tables e below _ (T1.setTop (mkF m 13 #[.val (.ref a1), .unset] [(.int ((((95 : Int32) * u_size_a1) + (99 : Int32)) / (100 : Int32)))]))
  refine own_st (fun _ k => XS.istoreN X1.here hx rfl (hb hby d3_13) rfl (l' := #[.val (.ref a1), .val (.int ((((95 : Int32) * u_size_a1) + (99 : Int32)) / (100 : Int32)))]) rfl k) ?_
  show own_G p.tables e below _ (T1.setTop (mkF m 14 #[.val (.ref a1), .val (.int ((((95 : Int32) * u_size_a1) + (99 : Int32)) / (100 : Int32)))] []))
  refine own_st (fun _ k => XS.aloadN X1.here hx rfl (hb hby d3_14) rfl rfl k) ?_
  show own_G p.tables e below _ (T1.setTop (mkF m 15 #[.val (.ref a1), .val (.int ((((95 : Int32) * u_size_a1) + (99 : Int32)) / (100 : Int32)))] [(.ref a1)]))
  obtain ⟨T2, X2, e2, st2⟩ := getF X1 hx hZ hown (host := "") (Or.inl (hw _ (List.mem_of_getElem? (i := 19) rfl))) Via.refl e1 F_size_a1 (g := (mkF m 15 #[.val (.ref a1), .val (.int ((((95 : Int32) * u_size_a1) + (99 : Int32)) / (100 : Int32)))] [(.ref a1)])) rfl rfl (hb hby d3_15)
  refine own_st st2 ?_
  show own_G p.tables e below _ (T2.setTop (mkF m 18 #[.val (.ref a1), .val (.int ((((95 : Int32) * u_size_a1) + (99 : Int32)) / (100 : Int32)))] [(.int u_size_a1)]))
  by_cases hc18_3 : (0 : Int32) < u_size_a1
  · refine own_st (fun _ k => XS.ifNo X2.here hx rfl (hb hby d3_18) rfl ((if0 _ _).trans (tlt hc18_3).2.2.2) k) ?_
    show own_G p.tables e below _ (T2.setTop (mkF m 21 #[.val (.ref a1), .val (.int ((((95 : Int32) * u_size_a1) + (99 : Int32)) / (100 : Int32)))] []))
    refine own_st (fun _ k => XS.aloadN X2.here hx rfl (hb hby d3_21) rfl rfl k) ?_
    show own_G p.tables e below _ (T2.setTop (mkF m 22 #[.val (.ref a1), .val (.int ((((95 : Int32) * u_size_a1) + (99 : Int32)) / (100 : Int32)))] [(.ref a1)]))
    obtain ⟨T4, X4, e4, st4⟩ := getF X2 hx hZ hown (host := "") (Or.inl (hw _ (List.mem_of_getElem? (i := 12) rfl))) Via.refl e2 F_ordered_a1 (g := (mkF m 22 #[.val (.ref a1), .val (.int ((((95 : Int32) * u_size_a1) + (99 : Int32)) / (100 : Int32)))] [(.ref a1)])) rfl rfl (hb hby d3_22)
    refine own_st st4 ?_
    show own_G p.tables e below _ (T4.setTop (mkF m 25 #[.val (.ref a1), .val (.int ((((95 : Int32) * u_size_a1) + (99 : Int32)) / (100 : Int32)))] [(.ref b_ordered_a1)]))
    refine own_st (fun _ k => XS.iloadN X4.here hx rfl (hb hby d3_25) rfl k) ?_
    show own_G p.tables e below _ (T4.setTop (mkF m 26 #[.val (.ref a1), .val (.int ((((95 : Int32) * u_size_a1) + (99 : Int32)) / (100 : Int32)))] [(.int ((((95 : Int32) * u_size_a1) + (99 : Int32)) / (100 : Int32))), (.ref b_ordered_a1)]))
    refine own_st (fun _ k => XS.iconst X4.here hx rfl (hb hby d3_26) k) ?_
    show own_G p.tables e below _ (T4.setTop (mkF m 27 #[.val (.ref a1), .val (.int ((((95 : Int32) * u_size_a1) + (99 : Int32)) / (100 : Int32)))] [(.int (1 : Int32)), (.int ((((95 : Int32) * u_size_a1) + (99 : Int32)) / (100 : Int32))), (.ref b_ordered_a1)]))
    refine own_st (fun _ k => XS.isub X4.here hx rfl (hb hby d3_27) rfl k) ?_
    show own_G p.tables e below _ (T4.setTop (mkF m 28 #[.val (.ref a1), .val (.int ((((95 : Int32) * u_size_a1) + (99 : Int32)) / (100 : Int32)))] [(.int (((((95 : Int32) * u_size_a1) + (99 : Int32)) / (100 : Int32)) - (1 : Int32))), (.ref b_ordered_a1)]))
    obtain ⟨y5, hy5, inb5, hg5⟩ := own_pat hk hK4 hR hsz hc18_3
    obtain ⟨cl5, Ar5, qk5, S5, Nn5, H5, G5⟩ := V_b_ordered_a1
    have hin5 := inb_of S5 inb5
    refine own_st (fun _ k => X4.laload hx (j := (((((95 : Int32) * u_size_a1) + (99 : Int32)) / (100 : Int32)) - (1 : Int32))) (v := (.long y5)) (by rw [e4]; exact Ar5.1) (State.isArrayOf_alike hZ.alike Ar5.2.1) Ar5.2.2 hin5 (Has.at H5 hin5 hg5) (g := (mkF m 28 #[.val (.ref a1), .val (.int ((((95 : Int32) * u_size_a1) + (99 : Int32)) / (100 : Int32)))] [(.int (((((95 : Int32) * u_size_a1) + (99 : Int32)) / (100 : Int32)) - (1 : Int32))), (.ref b_ordered_a1)])) rfl rfl (hb hby d3_28) _ k) ?_
    show own_G p.tables e below _ (T4.setTop (mkF m 29 #[.val (.ref a1), .val (.int ((((95 : Int32) * u_size_a1) + (99 : Int32)) / (100 : Int32)))] [(.long y5)]))
    have V6 : Arv Z h0 b_ordered_a1 k_ordered_a1 .long kI (ord.map Value.long) (.long (0 : Int64)) := ⟨cl5, Ar5, qk5, S5, Nn5, H5, G5⟩
    refine own_st (fun _ k => XS.goto X4.here hx rfl (pc0 := 29) (pc' := 33) rfl (hb hby d3_29) (by decide) (by decide) k) ?_
    show own_G p.tables e below _ (T4.setTop (mkF m 33 #[.val (.ref a1), .val (.int ((((95 : Int32) * u_size_a1) + (99 : Int32)) / (100 : Int32)))] [(.long y5)]))
    exact own_retJ X4 hx hlk Bd.returns (hb hby d3_33) (by rw [e4]; exact ⟨⟨_, rfl, (own_pm1 hK1 hR hsz hc18_3 hy5)⟩, N0, rfl⟩) (by decide) (by decide)
  · refine own_st (fun _ k => XS.ifYes X2.here hx rfl (pc0 := 18) (pc' := 32) rfl (hb hby d3_18) rfl ((if0 _ _).trans (flt hc18_3).2.2.2) (by decide) (by decide) k) ?_
    show own_G p.tables e below _ (T2.setTop (mkF m 32 #[.val (.ref a1), .val (.int ((((95 : Int32) * u_size_a1) + (99 : Int32)) / (100 : Int32)))] []))
    refine own_st (fun _ k => XS.lconst X2.here hx rfl (hb hby d3_32) k) ?_
    show own_G p.tables e below _ (T2.setTop (mkF m 33 #[.val (.ref a1), .val (.int ((((95 : Int32) * u_size_a1) + (99 : Int32)) / (100 : Int32)))] [(.long (0 : Int64))]))
    exact own_retJ X2 hx hlk Bd.returns (hb hby d3_33) (by rw [e2]; exact ⟨⟨_, rfl, own_pm0 hK1 hR hsz hc18_3⟩, N0, rfl⟩) (by decide) (by decide)
def Q1 (Z : State) (a1 : Addr) (q1 : Int32) (u_times_a1 : Value) (u_ordered_a1 : Value) (u_size_a1 : Int32) (u_next_a1 : Int32) (h0 : Heap) (n0 : Nat) (v : Option Value) (h : Heap) (L : List Loc) : Prop := v = none ∧ Fr n0 L ∧ Keep h0 h [a1] ∧ Exa Z h a1 "com/example/funnel/funnel/admission/RecentTimes" ∧ (∃ (bt bo : Addr) (kt ko : ClassId), h0.size ≤ bt ∧ h0.size ≤ bo ∧ bt ≠ bo ∧ Fld Z h a1 "com/example/funnel/funnel/admission/RecentTimes" "times" "[J" (.ref bt) ∧ Fld Z h a1 "com/example/funnel/funnel/admission/RecentTimes" "ordered" "[J" (.ref bo) ∧ Fld Z h a1 "com/example/funnel/funnel/admission/RecentTimes" "size" "I" (.int u_size_a1) ∧ Fld Z h a1 "com/example/funnel/funnel/admission/RecentTimes" "next" "I" (.int u_next_a1) ∧ Arv Z h bt kt .long q1 [] (.long (0 : Int64)) ∧ Arv Z h bo ko .long q1 [] (.long (0 : Int64)))
set_option maxRecDepth 65536 in
set_option maxHeartbeats 40000000 in
theorem rm1 (l : Launch) (Z : State) (a0 : Array Value) (hw : ∀ d ∈ tables_1, d.before a0 Z = true) (ws : List Jvm.Cond) (a1 : Addr) (q1 : Int32) (u_times_a1 : Value) (u_ordered_a1 : Value) (u_size_a1 : Int32) (u_next_a1 : Int32) (h0 : Heap) (n0 : Nat) (Z0 : n0 ≤ h0.size) (F_times_a1 : Fld Z h0 a1 "com/example/funnel/funnel/admission/RecentTimes" "times" "[J" u_times_a1) (F_ordered_a1 : Fld Z h0 a1 "com/example/funnel/funnel/admission/RecentTimes" "ordered" "[J" u_ordered_a1) (F_size_a1 : Fld Z h0 a1 "com/example/funnel/funnel/admission/RecentTimes" "size" "I" (.int u_size_a1)) (F_next_a1 : Fld Z h0 a1 "com/example/funnel/funnel/admission/RecentTimes" "next" "I" (.int u_next_a1)) (E_a1 : Exa Z h0 a1 "com/example/funnel/funnel/admission/RecentTimes") (h1 : ¬ (q1 < (1 : Int32))) (h0' : ¬ (q1 < (0 : Int32))) (h4 : q1.toNatClampNeg ≤ 4) (ge_a1 : n0 ≤ a1) :
    MetFree l (⟨"com/example/funnel/funnel/admission/RecentTimes", "<init>", "(I)V"⟩ : MethodName) (head1 (Jvm.Cond.code (⟨"com/example/funnel/funnel/admission/RecentTimes", "<init>", "(I)V"⟩ : MethodName) prog_1_method_1_code 2 none :: ws) ({ frames := 1, cells := 2, slots := 8, locals := 12 } : Room)) (fun a U => a = #[(.ref a1), (.int q1)] ∧ Z.Warmed39 U.vm ∧ U.heap = h0) (fun _ _ _ _ _ => True) (fun _ U o U' => ∃ v L, o = .returned v ∧ Q1 Z a1 q1 u_times_a1 u_ordered_a1 u_size_a1 u_next_a1 h0 n0 v U'.heap L ∧ FrameEnd U o U' L ({ frames := 1, cells := 2, slots := 8, locals := 12 } : Room).cells ({ frames := 1, cells := 2, slots := 8, locals := 12 } : Room).slots) := by
  refine MetFree.of_bodySF (plainFor_of_name pn_1) hisR ?_
  intro p e s m args below meth c s₁ Bd hml0 hP hK
  obtain ⟨rfl, hZ, hh⟩ := hP
  have hx := Bd.exec
  have hby := Bd.bytes
  have hlk := BodyLoose.notSynchronized Bd
  have hml : c.maxLocals = 2 := hml0
  have hown : s.vm.findClass "com/example/funnel/funnel/admission/RecentTimes" = some m.cls := findClass_of_methodNamed Bd.named
  have hnm := (name_of_methodNamed Bd.named Bd.method).1
  have X0 : Stand p l e ({ frames := 1, cells := 2, slots := 8, locals := 12 } : Room) s m #[(.ref a1), (.int q1)] below meth c s₁ [] 0 0 := Stand.of_body Bd
  have e0 : s₁.heap = h0 := by rw [← hh, Bd.state]; rfl
  have N0 := Fr.nil n0
  have K0 := Keep.refl h0 [a1]
  show own_G p.tables e below (own_P s (Q1 Z a1 q1 u_times_a1 u_ordered_a1 u_size_a1 u_next_a1 h0 n0) 2 8) (s₁.setTop (entryFrame m #[(.ref a1), (.int q1)] 2))
  refine own_st (fun t k => castTop (ef_1 m a1 q1) k) ?_
  show own_G p.tables e below _ (s₁.setTop (mkF m 0 #[.val (.ref a1), .val (.int q1)] []))
  refine own_st (fun _ k => XS.aloadN X0.here hx rfl (hb hby d1_0) rfl rfl k) ?_
  show own_G p.tables e below _ (s₁.setTop (mkF m 1 #[.val (.ref a1), .val (.int q1)] [(.ref a1)]))
  obtain ⟨T1, X1, e1, st1⟩ := initO X0 hx hZ hown (hw _ (List.mem_of_getElem? (i := 6) rfl)) (hw _ (List.mem_of_getElem? (i := 7) rfl)) (hw _ (List.mem_of_getElem? (i := 8) rfl)) e0 (g := (mkF m 1 #[.val (.ref a1), .val (.int q1)] [(.ref a1)])) rfl (by rw [hml]; rfl) rfl (hb hby d1_1) (by decide) (W := 0) (by show 2 * 0 + _ ≤ _; exact Nat.le_of_eq rfl) (by decide)
  refine own_st st1 ?_
  show own_G p.tables e below _ (T1.setTop (mkF m 4 #[.val (.ref a1), .val (.int q1)] []))
  refine own_st (fun _ k => XS.iloadN X1.here hx rfl (hb hby d1_4) rfl k) ?_
  show own_G p.tables e below _ (T1.setTop (mkF m 5 #[.val (.ref a1), .val (.int q1)] [(.int q1)]))
  refine own_st (fun _ k => XS.iconst X1.here hx rfl (hb hby d1_5) k) ?_
  show own_G p.tables e below _ (T1.setTop (mkF m 6 #[.val (.ref a1), .val (.int q1)] [(.int (1 : Int32)), (.int q1)]))
  have hf2 : ¬ (q1 < (1 : Int32)) := h1
  refine own_st (fun _ k => XS.icmpYes X1.here hx rfl (pc0 := 6) (pc' := 23) rfl (hb hby d1_6) rfl (flt hf2).2.1 (by decide) (by decide) k) ?_
  show own_G p.tables e below _ (T1.setTop (mkF m 23 #[.val (.ref a1), .val (.int q1)] []))
  refine own_st (fun _ k => XS.aloadN X1.here hx rfl (hb hby d1_23) rfl rfl k) ?_
  show own_G p.tables e below _ (T1.setTop (mkF m 24 #[.val (.ref a1), .val (.int q1)] [(.ref a1)]))
  refine own_st (fun _ k => XS.iloadN X1.here hx rfl (hb hby d1_24) rfl k) ?_
  show own_G p.tables e below _ (T1.setTop (mkF m 25 #[.val (.ref a1), .val (.int q1)] [(.int q1), (.ref a1)]))
  obtain ⟨T3, h3, k3, X3, e3, E3, A3, st3⟩ := newP X1 hx hZ (hw _ (List.mem_of_getElem? (i := 9) rfl)) e1 (g := (mkF m 25 #[.val (.ref a1), .val (.int q1)] [(.int q1), (.ref a1)])) rfl (hb hby d1_25) rfl h0' (cap := 4) h4 (by decide) (by decide) (by decide)
  obtain ⟨b3, g3⟩ : ∃ z, z = h0.size := ⟨_, rfl⟩
  rw [← g3] at A3 st3
  have ge_b3 : n0 ≤ b3 := Nat.le_trans Z0 (Nat.le_of_eq g3.symm)
  have sz_b3 : h0.size ≤ b3 := Nat.le_trans K0.1 (Nat.le_of_eq g3.symm)
  have ne_a1_b3 : a1 ≠ b3 := fun q => Nat.lt_irrefl _ (Nat.lt_of_lt_of_eq E_a1.lt (g3.symm.trans q.symm))
  have E4 := E_a1.ext E3
  have F5 := F_times_a1.ext E3
  have F6 := F_ordered_a1.ext E3
  have F7 := F_size_a1.ext E3
  have F8 := F_next_a1.ext E3
  have Z9 := Nat.le_trans Z0 E3.1
  have K10 := K0.ext E3
  have V11 : Arv Z h3 b3 k3 .long q1 [] (.long (0 : Int64)) := Arv.new A3 h0'
  refine own_st st3 ?_
  show own_G p.tables e below _ (T3.setTop (mkF m 27 #[.val (.ref a1), .val (.int q1)] [(.ref b3), (.ref a1)]))
  obtain ⟨T12, h12, X12, e12, W12, st12⟩ := putF X3 hx hZ hown (host := "") (Or.inl (hw _ (List.mem_of_getElem? (i := 10) rfl))) Via.refl e3 F5 E4 (Or.inr ⟨(hw _ (List.mem_of_getElem? (i := 11) rfl)), rfl, hnm⟩) (hw _ (List.mem_of_getElem? (i := 1) rfl)) (ty := (.array .long)) (by decide) rfl rfl (g := (mkF m 27 #[.val (.ref a1), .val (.int q1)] [(.ref b3), (.ref a1)])) rfl rfl (hb hby d1_27)
  have N12 := Fr.snoc X12 N0 ge_a1
  have E13 := E4.wr W12
  have F14 := F5.same W12
  have F15 := F6.other W12 (Or.inr (slot_ne (Or.inr (hw _ (List.mem_of_getElem? (i := 13) rfl))) (Or.inr (hw _ (List.mem_of_getElem? (i := 11) rfl))) (by decide) (t := (.array .long)) (t' := (.array .long)) (by decide) (by decide)))
  have F16 := F7.other W12 (Or.inr (slot_ne (Or.inl (hw _ (List.mem_of_getElem? (i := 20) rfl))) (Or.inr (hw _ (List.mem_of_getElem? (i := 11) rfl))) (by decide) (t := .int) (t' := (.array .long)) (by decide) (by decide)))
  have F17 := F8.other W12 (Or.inr (slot_ne (Or.inl (hw _ (List.mem_of_getElem? (i := 31) rfl))) (Or.inr (hw _ (List.mem_of_getElem? (i := 11) rfl))) (by decide) (t := .int) (t' := (.array .long)) (by decide) (by decide)))
  have V18 := V11.other W12 (Ne.symm ne_a1_b3)
  have Z19 := Nat.le_trans Z9 (Keep.of_wr W12).1
  have K20 := K10.wr W12 (Or.inl (List.mem_of_getElem? (i := 0) rfl))
  refine own_st st12 ?_
  show own_G p.tables e below _ (T12.setTop (mkF m 30 #[.val (.ref a1), .val (.int q1)] []))
  refine own_st (fun _ k => XS.aloadN X12.here hx rfl (hb hby d1_30) rfl rfl k) ?_
  show own_G p.tables e below _ (T12.setTop (mkF m 31 #[.val (.ref a1), .val (.int q1)] [(.ref a1)]))
  refine own_st (fun _ k => XS.iloadN X12.here hx rfl (hb hby d1_31) rfl k) ?_
  show own_G p.tables e below _ (T12.setTop (mkF m 32 #[.val (.ref a1), .val (.int q1)] [(.int q1), (.ref a1)]))
  obtain ⟨T21, h21, k21, X21, e21, E21, A21, st21⟩ := newP X12 hx hZ (hw _ (List.mem_of_getElem? (i := 9) rfl)) e12 (g := (mkF m 32 #[.val (.ref a1), .val (.int q1)] [(.int q1), (.ref a1)])) rfl (hb hby d1_32) rfl h0' (cap := 4) h4 (by decide) (by decide) (by decide)
  obtain ⟨b21, g21⟩ : ∃ z, z = h12.size := ⟨_, rfl⟩
  rw [← g21] at A21 st21
  have ge_b21 : n0 ≤ b21 := Nat.le_trans Z19 (Nat.le_of_eq g21.symm)
  have sz_b21 : h0.size ≤ b21 := Nat.le_trans K20.1 (Nat.le_of_eq g21.symm)
  have ne_a1_b21 : a1 ≠ b21 := fun q => Nat.lt_irrefl _ (Nat.lt_of_lt_of_eq E13.lt (g21.symm.trans q.symm))
  have ne_b3_b21 : b3 ≠ b21 := fun q => Nat.lt_irrefl _ (Nat.lt_of_lt_of_eq V18.lt (g21.symm.trans q.symm))
  have E22 := E13.ext E21
  have F23 := F14.ext E21
  have F24 := F15.ext E21
  have F25 := F16.ext E21
  have F26 := F17.ext E21
  have V27 := V18.ext E21
  have Z28 := Nat.le_trans Z19 E21.1
  have K29 := K20.ext E21
  have V30 : Arv Z h21 b21 k21 .long q1 [] (.long (0 : Int64)) := Arv.new A21 h0'
  refine own_st st21 ?_
  show own_G p.tables e below _ (T21.setTop (mkF m 34 #[.val (.ref a1), .val (.int q1)] [(.ref b21), (.ref a1)]))
  obtain ⟨T31, h31, X31, e31, W31, st31⟩ := putF X21 hx hZ hown (host := "") (Or.inl (hw _ (List.mem_of_getElem? (i := 12) rfl))) Via.refl e21 F24 E22 (Or.inr ⟨(hw _ (List.mem_of_getElem? (i := 13) rfl)), rfl, hnm⟩) (hw _ (List.mem_of_getElem? (i := 1) rfl)) (ty := (.array .long)) (by decide) rfl rfl (g := (mkF m 34 #[.val (.ref a1), .val (.int q1)] [(.ref b21), (.ref a1)])) rfl rfl (hb hby d1_34)
  have N31 := Fr.snoc X31 N12 ge_a1
  have E32 := E22.wr W31
  have F33 := F23.other W31 (Or.inr (slot_ne (Or.inr (hw _ (List.mem_of_getElem? (i := 11) rfl))) (Or.inr (hw _ (List.mem_of_getElem? (i := 13) rfl))) (by decide) (t := (.array .long)) (t' := (.array .long)) (by decide) (by decide)))
  have F34 := F24.same W31
  have F35 := F25.other W31 (Or.inr (slot_ne (Or.inl (hw _ (List.mem_of_getElem? (i := 20) rfl))) (Or.inr (hw _ (List.mem_of_getElem? (i := 13) rfl))) (by decide) (t := .int) (t' := (.array .long)) (by decide) (by decide)))
  have F36 := F26.other W31 (Or.inr (slot_ne (Or.inl (hw _ (List.mem_of_getElem? (i := 31) rfl))) (Or.inr (hw _ (List.mem_of_getElem? (i := 13) rfl))) (by decide) (t := .int) (t' := (.array .long)) (by decide) (by decide)))
  have V37 := V27.other W31 (Ne.symm ne_a1_b3)
  have V38 := V30.other W31 (Ne.symm ne_a1_b21)
  have Z39 := Nat.le_trans Z28 (Keep.of_wr W31).1
  have K40 := K29.wr W31 (Or.inl (List.mem_of_getElem? (i := 0) rfl))
  refine own_st st31 ?_
  show own_G p.tables e below _ (T31.setTop (mkF m 37 #[.val (.ref a1), .val (.int q1)] []))
  exact own_retV X31 hx hlk Bd.returns (hb hby d1_37) (by rw [e31]; exact ⟨rfl, N31, K40, E32, ⟨_, _, _, _, sz_b3, sz_b21, ne_b3_b21, F33, F34, F35, F36, V37, V38⟩⟩) (by decide) (by decide)
def Q0 (n0 : Nat) (v : Option Value) (h : Heap) (L : List Loc) : Prop := v = some (.int 1) ∧ Fr n0 L
set_option maxRecDepth 65536 in
set_option maxHeartbeats 40000000 in
theorem rm0 (l : Launch) (Z : State) (a0 : Array Value) (hw : ∀ d ∈ tables_1, d.before a0 Z = true) (ws : List Jvm.Cond) (i0 : Int32) (i1 : Int64) (i2 : Int64) (i3 : Int64) (i4 : Int64) (i5 : Int64) (h0 : Heap) (n0 : Nat) (Z0 : n0 ≤ h0.size) :
    MetFree l x (head1 (Jvm.Cond.code x code maxLocals ret :: ws) room_1) (fun a U => a = #[(.int i0), (.long i1), (.long i2), (.long i3), (.long i4), (.long i5)] ∧ Z.Warmed39 U.vm ∧ U.heap = h0) (fun _ _ _ _ _ => True) (fun _ U o U' => ∃ v L, o = .returned v ∧ Q0 n0 v U'.heap L ∧ FrameEnd U o U' L 16 128) := by
  refine MetFree.of_bodySF (plainFor_of_name pn_0) hisR ?_
  intro p e s m args below meth c s₁ Bd hml0 hP hK
  obtain ⟨rfl, hZ, hh⟩ := hP
  have hx := Bd.exec
  have hby := Bd.bytes
  have hlk := BodyLoose.notSynchronized Bd
  have hml : c.maxLocals = 16 := hml0
  have hown : s.vm.findClass "com/example/funnel/funnel/admission/RecentTimesPercentile95PinLaw" = some m.cls := findClass_of_methodNamed Bd.named
  have hnm := (name_of_methodNamed Bd.named Bd.method).1
  have X0 : Stand p l e room_1 s m #[(.int i0), (.long i1), (.long i2), (.long i3), (.long i4), (.long i5)] below meth c s₁ [] 0 0 := Stand.of_body Bd
  have e0 : s₁.heap = h0 := by rw [← hh, Bd.state]; rfl
  have N0 := Fr.nil n0
  have K0 := Keep.refl h0 []
  show own_G p.tables e below (own_P s (Q0 n0) 16 128) (s₁.setTop (entryFrame m #[(.int i0), (.long i1), (.long i2), (.long i3), (.long i4), (.long i5)] maxLocals))
  refine own_st (fun t k => castTop (ef_0 m i0 i1 i2 i3 i4 i5) k) ?_
  show own_G p.tables e below _ (s₁.setTop (mkF m 0 #[.val (.int i0), .val (.long i1), .second, .val (.long i2), .second, .val (.long i3), .second, .val (.long i4), .second, .val (.long i5), .second, .unset, .unset, .unset, .unset, .unset] []))
  refine own_st (fun _ k => XS.iloadN X0.here hx rfl (hb hby at_0) rfl k) ?_
  show own_G p.tables e below _ (s₁.setTop (mkF m 1 #[.val (.int i0), .val (.long i1), .second, .val (.long i2), .second, .val (.long i3), .second, .val (.long i4), .second, .val (.long i5), .second, .unset, .unset, .unset, .unset, .unset] [(.int i0)]))
  refine own_st (fun _ k => XS.iconst X0.here hx rfl (hb hby at_1) k) ?_
  show own_G p.tables e below _ (s₁.setTop (mkF m 2 #[.val (.int i0), .val (.long i1), .second, .val (.long i2), .second, .val (.long i3), .second, .val (.long i4), .second, .val (.long i5), .second, .unset, .unset, .unset, .unset, .unset] [(.int (3 : Int32)), (.int i0)]))
  refine own_st (fun _ k => XS.iand X0.here hx rfl (hb hby at_2) rfl k) ?_
  show own_G p.tables e below _ (s₁.setTop (mkF m 3 #[.val (.int i0), .val (.long i1), .second, .val (.long i2), .second, .val (.long i3), .second, .val (.long i4), .second, .val (.long i5), .second, .unset, .unset, .unset, .unset, .unset] [(.int (i0 &&& (3 : Int32)))]))
  refine own_st (fun _ k => XS.iconst X0.here hx rfl (hb hby at_3) k) ?_
  show own_G p.tables e below _ (s₁.setTop (mkF m 4 #[.val (.int i0), .val (.long i1), .second, .val (.long i2), .second, .val (.long i3), .second, .val (.long i4), .second, .val (.long i5), .second, .unset, .unset, .unset, .unset, .unset] [(.int (1 : Int32)), (.int (i0 &&& (3 : Int32)))]))
  refine own_st (fun _ k => XS.iadd X0.here hx rfl (hb hby at_4) rfl k) ?_
  show own_G p.tables e below _ (s₁.setTop (mkF m 5 #[.val (.int i0), .val (.long i1), .second, .val (.long i2), .second, .val (.long i3), .second, .val (.long i4), .second, .val (.long i5), .second, .unset, .unset, .unset, .unset, .unset] [(.int ((i0 &&& (3 : Int32)) + (1 : Int32)))]))
  refine own_st (fun _ k => XS.istore X0.here hx rfl (hb hby at_5) rfl (l' := #[.val (.int i0), .val (.long i1), .second, .val (.long i2), .second, .val (.long i3), .second, .val (.long i4), .second, .val (.long i5), .second, .val (.int ((i0 &&& (3 : Int32)) + (1 : Int32))), .unset, .unset, .unset, .unset]) rfl k) ?_
  show own_G p.tables e below _ (s₁.setTop (mkF m 7 #[.val (.int i0), .val (.long i1), .second, .val (.long i2), .second, .val (.long i3), .second, .val (.long i4), .second, .val (.long i5), .second, .val (.int ((i0 &&& (3 : Int32)) + (1 : Int32))), .unset, .unset, .unset, .unset] []))
  refine own_st (fun _ k => XS.iloadN X0.here hx rfl (hb hby at_7) rfl k) ?_
  show own_G p.tables e below _ (s₁.setTop (mkF m 8 #[.val (.int i0), .val (.long i1), .second, .val (.long i2), .second, .val (.long i3), .second, .val (.long i4), .second, .val (.long i5), .second, .val (.int ((i0 &&& (3 : Int32)) + (1 : Int32))), .unset, .unset, .unset, .unset] [(.int i0)]))
  refine own_st (fun _ k => XS.iconst X0.here hx rfl (hb hby at_8) k) ?_
  show own_G p.tables e below _ (s₁.setTop (mkF m 9 #[.val (.int i0), .val (.long i1), .second, .val (.long i2), .second, .val (.long i3), .second, .val (.long i4), .second, .val (.long i5), .second, .val (.int ((i0 &&& (3 : Int32)) + (1 : Int32))), .unset, .unset, .unset, .unset] [(.int (2 : Int32)), (.int i0)]))
  refine own_st (fun _ k => XS.iushr X0.here hx rfl (hb hby at_9) rfl k) ?_
  show own_G p.tables e below _ (s₁.setTop (mkF m 10 #[.val (.int i0), .val (.long i1), .second, .val (.long i2), .second, .val (.long i3), .second, .val (.long i4), .second, .val (.long i5), .second, .val (.int ((i0 &&& (3 : Int32)) + (1 : Int32))), .unset, .unset, .unset, .unset] [(.int ((i0.toUInt32 >>> ((2 : Int32) &&& 31).toUInt32).toInt32))]))
  refine own_st (fun _ k => XS.bipush X0.here hx rfl (hb hby at_10) k) ?_
  show own_G p.tables e below _ (s₁.setTop (mkF m 12 #[.val (.int i0), .val (.long i1), .second, .val (.long i2), .second, .val (.long i3), .second, .val (.long i4), .second, .val (.long i5), .second, .val (.int ((i0 &&& (3 : Int32)) + (1 : Int32))), .unset, .unset, .unset, .unset] [(.int (7 : Int32)), (.int ((i0.toUInt32 >>> ((2 : Int32) &&& 31).toUInt32).toInt32))]))
  refine own_st (fun _ k => XS.iand X0.here hx rfl (hb hby at_12) rfl k) ?_
  show own_G p.tables e below _ (s₁.setTop (mkF m 13 #[.val (.int i0), .val (.long i1), .second, .val (.long i2), .second, .val (.long i3), .second, .val (.long i4), .second, .val (.long i5), .second, .val (.int ((i0 &&& (3 : Int32)) + (1 : Int32))), .unset, .unset, .unset, .unset] [(.int (((i0.toUInt32 >>> ((2 : Int32) &&& 31).toUInt32).toInt32) &&& (7 : Int32)))]))
  refine own_st (fun _ k => XS.bipush X0.here hx rfl (hb hby at_13) k) ?_
  show own_G p.tables e below _ (s₁.setTop (mkF m 15 #[.val (.int i0), .val (.long i1), .second, .val (.long i2), .second, .val (.long i3), .second, .val (.long i4), .second, .val (.long i5), .second, .val (.int ((i0 &&& (3 : Int32)) + (1 : Int32))), .unset, .unset, .unset, .unset] [(.int (6 : Int32)), (.int (((i0.toUInt32 >>> ((2 : Int32) &&& 31).toUInt32).toInt32) &&& (7 : Int32)))]))
  refine own_st (fun _ k => iremM (g := (mkF m 15 #[.val (.int i0), .val (.long i1), .second, .val (.long i2), .second, .val (.long i3), .second, .val (.long i4), .second, .val (.long i5), .second, .val (.int ((i0 &&& (3 : Int32)) + (1 : Int32))), .unset, .unset, .unset, .unset] [(.int (6 : Int32)), (.int (((i0.toUInt32 >>> ((2 : Int32) &&& 31).toUInt32).toInt32) &&& (7 : Int32)))])) X0 hx rfl (hb hby at_15) rfl (by decide) k) ?_
  show own_G p.tables e below _ (s₁.setTop (mkF m 16 #[.val (.int i0), .val (.long i1), .second, .val (.long i2), .second, .val (.long i3), .second, .val (.long i4), .second, .val (.long i5), .second, .val (.int ((i0 &&& (3 : Int32)) + (1 : Int32))), .unset, .unset, .unset, .unset] [(.int ((((i0.toUInt32 >>> ((2 : Int32) &&& 31).toUInt32).toInt32) &&& (7 : Int32)) % (6 : Int32)))]))
  refine own_st (fun _ k => XS.istore X0.here hx rfl (hb hby at_16) rfl (l' := #[.val (.int i0), .val (.long i1), .second, .val (.long i2), .second, .val (.long i3), .second, .val (.long i4), .second, .val (.long i5), .second, .val (.int ((i0 &&& (3 : Int32)) + (1 : Int32))), .val (.int ((((i0.toUInt32 >>> ((2 : Int32) &&& 31).toUInt32).toInt32) &&& (7 : Int32)) % (6 : Int32))), .unset, .unset, .unset]) rfl k) ?_
  show own_G p.tables e below _ (s₁.setTop (mkF m 18 #[.val (.int i0), .val (.long i1), .second, .val (.long i2), .second, .val (.long i3), .second, .val (.long i4), .second, .val (.long i5), .second, .val (.int ((i0 &&& (3 : Int32)) + (1 : Int32))), .val (.int ((((i0.toUInt32 >>> ((2 : Int32) &&& 31).toUInt32).toInt32) &&& (7 : Int32)) % (6 : Int32))), .unset, .unset, .unset] []))
  obtain ⟨kI, hkI⟩ : ∃ z : Int32, z = ((i0 &&& (3 : Int32)) + (1 : Int32)) := ⟨_, rfl⟩
  obtain ⟨nI, hnI⟩ : ∃ z : Int32, z = ((((i0.toUInt32 >>> ((2 : Int32) &&& 31).toUInt32).toInt32) &&& (7 : Int32)) % (6 : Int32)) := ⟨_, rfl⟩
  rw [← hkI, ← hnI]
  obtain ⟨K, hk, hK1, hK4, hk1, hk0, hk4⟩ := own_kk hkI
  obtain ⟨NV, hN, hN5⟩ := own_nn hnI
  show own_G p.tables e below _ (s₁.setTop (mkF m 18 #[.val (.int i0), .val (.long i1), .second, .val (.long i2), .second, .val (.long i3), .second, .val (.long i4), .second, .val (.long i5), .second, .val (.int kI), .val (.int nI), .unset, .unset, .unset] []))
  obtain ⟨T1, h1, X1, e1, E1, A1, D1, -, st1⟩ := newO X0 hx hZ hown (hw _ (List.mem_of_getElem? (i := 0) rfl)) (hw _ (List.mem_of_getElem? (i := 1) rfl)) (hw _ (List.mem_of_getElem? (i := 2) rfl)) e0 (g := (mkF m 18 #[.val (.int i0), .val (.long i1), .second, .val (.long i2), .second, .val (.long i3), .second, .val (.long i4), .second, .val (.long i5), .second, .val (.int kI), .val (.int nI), .unset, .unset, .unset] [])) rfl (hb hby at_18) (by decide) (by decide)
  obtain ⟨b1, g1⟩ : ∃ z, z = h0.size := ⟨_, rfl⟩
  rw [← g1] at A1 D1 st1
  have ge_b1 : n0 ≤ b1 := Nat.le_trans Z0 (Nat.le_of_eq g1.symm)
  have Z2 := Nat.le_trans Z0 E1.1
  have F3 : Fld Z h1 b1 "com/example/funnel/funnel/admission/RecentTimes" "times" "[J" .null := D1 (Or.inr (hw _ (List.mem_of_getElem? (i := 11) rfl))) (ty := (.array .long)) (by decide)
  have F4 : Fld Z h1 b1 "com/example/funnel/funnel/admission/RecentTimes" "ordered" "[J" .null := D1 (Or.inr (hw _ (List.mem_of_getElem? (i := 13) rfl))) (ty := (.array .long)) (by decide)
  have F5 : Fld Z h1 b1 "com/example/funnel/funnel/admission/RecentTimes" "size" "I" (.int (0 : Int32)) := D1 (Or.inl (hw _ (List.mem_of_getElem? (i := 20) rfl))) (ty := .int) (by decide)
  have F6 : Fld Z h1 b1 "com/example/funnel/funnel/admission/RecentTimes" "next" "I" (.int (0 : Int32)) := D1 (Or.inl (hw _ (List.mem_of_getElem? (i := 31) rfl))) (ty := .int) (by decide)
  refine own_st st1 ?_
  show own_G p.tables e below _ (T1.setTop (mkF m 21 #[.val (.int i0), .val (.long i1), .second, .val (.long i2), .second, .val (.long i3), .second, .val (.long i4), .second, .val (.long i5), .second, .val (.int kI), .val (.int nI), .unset, .unset, .unset] [(.ref b1)]))
  refine own_st (fun _ k => XS.dup X1.here hx rfl (hb hby at_21) rfl rfl k) ?_
  show own_G p.tables e below _ (T1.setTop (mkF m 22 #[.val (.int i0), .val (.long i1), .second, .val (.long i2), .second, .val (.long i3), .second, .val (.long i4), .second, .val (.long i5), .second, .val (.int kI), .val (.int nI), .unset, .unset, .unset] [(.ref b1), (.ref b1)]))
  refine own_st (fun _ k => XS.iload X1.here hx rfl (hb hby at_22) rfl k) ?_
  show own_G p.tables e below _ (T1.setTop (mkF m 24 #[.val (.int i0), .val (.long i1), .second, .val (.long i2), .second, .val (.long i3), .second, .val (.long i4), .second, .val (.long i5), .second, .val (.int kI), .val (.int nI), .unset, .unset, .unset] [(.int kI), (.ref b1), (.ref b1)]))
  obtain ⟨_, _, ⟨T7, L7, k7, n7⟩, -, X7, ⟨Lc7, hQ7, l7, y7, z7⟩, st7⟩ := X1.specialBack hx (y := (⟨"com/example/funnel/funnel/admission/RecentTimes", "<init>", "(I)V"⟩ : MethodName)) rfl hown (mvT hZ (hw _ (List.mem_of_getElem? (i := 3) rfl))) (mvT hZ (hw _ (List.mem_of_getElem? (i := 4) rfl))) (mvT hZ (hw _ (List.mem_of_getElem? (i := 5) rfl))) (by decide) (backOf (W := 1) (rm1 l Z a0 hw [] b1 kI .null .null (0 : Int32) (0 : Int32) h1 n0 Z2 F3 F4 F5 F6 A1 hk1 hk0 hk4 ge_b1) hZ (hw _ (List.mem_of_getElem? (i := 5) rfl)) (hw _ (List.mem_of_getElem? (i := 2) rfl)) (by decide) (by decide)) (g := (mkF m 24 #[.val (.int i0), .val (.long i1), .second, .val (.long i2), .second, .val (.long i3), .second, .val (.long i4), .second, .val (.long i5), .second, .val (.int kI), .val (.int nI), .unset, .unset, .unset] [(.int kI), (.ref b1), (.ref b1)])) rfl (by rw [hml]; rfl) (Steps.refl _) (a := b1) (argsL := [(.int kI)]) (rest := [(.ref b1)]) (lenOf pd_4 rfl) rfl (by show 2 * 0 + _ ≤ _; exact Nat.le_of_eq rfl) (hb hby at_24) (fun _ _ => ⟨rfl, e1, (by decide : 1 + 2 ≤ _), (by decide : 4 + 8 ≤ _)⟩)
  dsimp only [Pt.U, Pt.locs, Pt.cells, Pt.slots] at X7 l7 y7 z7 st7 hQ7
  subst l7 y7 z7
  obtain ⟨rfl, N7q, K7q, Ex7, ⟨bt7, bo7, kt7, ko7, sqt7, sqo7, nb7, Ft7, Fo7, Fs7, Fn7, Vt7, Vo7⟩⟩ := hQ7
  have N7 := Fr.app N0 N7q
  have ge_bt7 : n0 ≤ bt7 := Nat.le_trans Z2 sqt7
  have ne_b1_bt7 : b1 ≠ bt7 := fun q => Nat.lt_irrefl _ (Nat.lt_of_lt_of_le A1.lt (Nat.le_trans sqt7 (Nat.le_of_eq q.symm)))
  have ge_bo7 : n0 ≤ bo7 := Nat.le_trans Z2 sqo7
  have ne_b1_bo7 : b1 ≠ bo7 := fun q => Nat.lt_irrefl _ (Nat.lt_of_lt_of_le A1.lt (Nat.le_trans sqo7 (Nat.le_of_eq q.symm)))
  have Z9 := Nat.le_trans Z2 K7q.1
  refine own_st (fun _ k => st7.trans k) ?_
  show own_G p.tables e below _ (T7.setTop (mkF m 27 #[.val (.int i0), .val (.long i1), .second, .val (.long i2), .second, .val (.long i3), .second, .val (.long i4), .second, .val (.long i5), .second, .val (.int kI), .val (.int nI), .unset, .unset, .unset] [(.ref b1)]))
  refine own_st (fun _ k => XS.astore X7.here hx rfl (hb hby at_27) rfl rfl (l' := #[.val (.int i0), .val (.long i1), .second, .val (.long i2), .second, .val (.long i3), .second, .val (.long i4), .second, .val (.long i5), .second, .val (.int kI), .val (.int nI), .val (.ref b1), .unset, .unset]) rfl k) ?_
  show own_G p.tables e below _ (T7.setTop (mkF m 29 #[.val (.int i0), .val (.long i1), .second, .val (.long i2), .second, .val (.long i3), .second, .val (.long i4), .second, .val (.long i5), .second, .val (.int kI), .val (.int nI), .val (.ref b1), .unset, .unset] []))
  have V10 : Arv Z T7.heap bt7 kt7 .long kI ((List.replicate K (0 : Int64)).map Value.long) (.long (0 : Int64)) := Vt7.pad (own_pad0 K)
  have V11 : Arv Z T7.heap bo7 ko7 .long kI ((List.replicate K (0 : Int64)).map Value.long) (.long (0 : Int64)) := Vo7.pad (own_pad0 K)
  have RR0 : own_RR K ([i1, i2, i3, i4, i5].take (min NV 0)) (List.replicate K 0) (List.replicate K 0) (0 : Int32) (0 : Int32) := own_RRs K NV _
  refine own_st (fun _ k => XS.iload X7.here hx rfl (hb hby at_29) rfl k) ?_
  show own_G p.tables e below _ (T7.setTop (mkF m 31 #[.val (.int i0), .val (.long i1), .second, .val (.long i2), .second, .val (.long i3), .second, .val (.long i4), .second, .val (.long i5), .second, .val (.int kI), .val (.int nI), .val (.ref b1), .unset, .unset] [(.int nI)]))
  have J12 : ∀ (T12 : State) (L12 : List Loc) (tm12 od12 : List Int64) (sz12 nx12 : Int32) (X12 : Stand p l e room_1 s m #[(.int i0), (.long i1), (.long i2), (.long i3), (.long i4), (.long i5)] below meth c T12 L12 3 12) (N12 : Fr n0 L12) (Z12 : n0 ≤ T12.heap.size) (Ex12 : Exa Z T12.heap b1 "com/example/funnel/funnel/admission/RecentTimes") (Ft12 : Fld Z T12.heap b1 "com/example/funnel/funnel/admission/RecentTimes" "times" "[J" (.ref bt7)) (Fo12 : Fld Z T12.heap b1 "com/example/funnel/funnel/admission/RecentTimes" "ordered" "[J" (.ref bo7)) (Fs12 : Fld Z T12.heap b1 "com/example/funnel/funnel/admission/RecentTimes" "size" "I" (.int sz12)) (Fn12 : Fld Z T12.heap b1 "com/example/funnel/funnel/admission/RecentTimes" "next" "I" (.int nx12)) (Vt12 : Arv Z T12.heap bt7 kt7 .long kI (tm12.map Value.long) (.long (0 : Int64))) (Vo12 : Arv Z T12.heap bo7 ko7 .long kI (od12.map Value.long) (.long (0 : Int64))) (RR12 : own_RR K ([i1, i2, i3, i4, i5].take (min NV 1)) tm12 od12 sz12 nx12), own_G p.tables e below (own_P s (Q0 n0) 16 128) (T12.setTop (mkF m 40 #[.val (.int i0), .val (.long i1), .second, .val (.long i2), .second, .val (.long i3), .second, .val (.long i4), .second, .val (.long i5), .second, .val (.int kI), .val (.int nI), .val (.ref b1), .unset, .unset] [])) := by
    intro T12 L12 tm12 od12 sz12 nx12 X12 N12 Z12 Ex12 Ft12 Fo12 Fs12 Fn12 Vt12 Vo12 RR12
    refine own_st (fun _ k => XS.iload X12.here hx rfl (hb hby at_40) rfl k) ?_
    show own_G p.tables e below _ (T12.setTop (mkF m 42 #[.val (.int i0), .val (.long i1), .second, .val (.long i2), .second, .val (.long i3), .second, .val (.long i4), .second, .val (.long i5), .second, .val (.int kI), .val (.int nI), .val (.ref b1), .unset, .unset] [(.int nI)]))
    refine own_st (fun _ k => XS.iconst X12.here hx rfl (hb hby at_42) k) ?_
    show own_G p.tables e below _ (T12.setTop (mkF m 43 #[.val (.int i0), .val (.long i1), .second, .val (.long i2), .second, .val (.long i3), .second, .val (.long i4), .second, .val (.long i5), .second, .val (.int kI), .val (.int nI), .val (.ref b1), .unset, .unset] [(.int (1 : Int32)), (.int nI)]))
    have J13 : ∀ (T13 : State) (L13 : List Loc) (tm13 od13 : List Int64) (sz13 nx13 : Int32) (X13 : Stand p l e room_1 s m #[(.int i0), (.long i1), (.long i2), (.long i3), (.long i4), (.long i5)] below meth c T13 L13 3 12) (N13 : Fr n0 L13) (Z13 : n0 ≤ T13.heap.size) (Ex13 : Exa Z T13.heap b1 "com/example/funnel/funnel/admission/RecentTimes") (Ft13 : Fld Z T13.heap b1 "com/example/funnel/funnel/admission/RecentTimes" "times" "[J" (.ref bt7)) (Fo13 : Fld Z T13.heap b1 "com/example/funnel/funnel/admission/RecentTimes" "ordered" "[J" (.ref bo7)) (Fs13 : Fld Z T13.heap b1 "com/example/funnel/funnel/admission/RecentTimes" "size" "I" (.int sz13)) (Fn13 : Fld Z T13.heap b1 "com/example/funnel/funnel/admission/RecentTimes" "next" "I" (.int nx13)) (Vt13 : Arv Z T13.heap bt7 kt7 .long kI (tm13.map Value.long) (.long (0 : Int64))) (Vo13 : Arv Z T13.heap bo7 ko7 .long kI (od13.map Value.long) (.long (0 : Int64))) (RR13 : own_RR K ([i1, i2, i3, i4, i5].take (min NV 2)) tm13 od13 sz13 nx13), own_G p.tables e below (own_P s (Q0 n0) 16 128) (T13.setTop (mkF m 52 #[.val (.int i0), .val (.long i1), .second, .val (.long i2), .second, .val (.long i3), .second, .val (.long i4), .second, .val (.long i5), .second, .val (.int kI), .val (.int nI), .val (.ref b1), .unset, .unset] [])) := by
      intro T13 L13 tm13 od13 sz13 nx13 X13 N13 Z13 Ex13 Ft13 Fo13 Fs13 Fn13 Vt13 Vo13 RR13
      refine own_st (fun _ k => XS.iload X13.here hx rfl (hb hby at_52) rfl k) ?_
      show own_G p.tables e below _ (T13.setTop (mkF m 54 #[.val (.int i0), .val (.long i1), .second, .val (.long i2), .second, .val (.long i3), .second, .val (.long i4), .second, .val (.long i5), .second, .val (.int kI), .val (.int nI), .val (.ref b1), .unset, .unset] [(.int nI)]))
      refine own_st (fun _ k => XS.iconst X13.here hx rfl (hb hby at_54) k) ?_
      show own_G p.tables e below _ (T13.setTop (mkF m 55 #[.val (.int i0), .val (.long i1), .second, .val (.long i2), .second, .val (.long i3), .second, .val (.long i4), .second, .val (.long i5), .second, .val (.int kI), .val (.int nI), .val (.ref b1), .unset, .unset] [(.int (2 : Int32)), (.int nI)]))
      have J14 : ∀ (T14 : State) (L14 : List Loc) (tm14 od14 : List Int64) (sz14 nx14 : Int32) (X14 : Stand p l e room_1 s m #[(.int i0), (.long i1), (.long i2), (.long i3), (.long i4), (.long i5)] below meth c T14 L14 3 12) (N14 : Fr n0 L14) (Z14 : n0 ≤ T14.heap.size) (Ex14 : Exa Z T14.heap b1 "com/example/funnel/funnel/admission/RecentTimes") (Ft14 : Fld Z T14.heap b1 "com/example/funnel/funnel/admission/RecentTimes" "times" "[J" (.ref bt7)) (Fo14 : Fld Z T14.heap b1 "com/example/funnel/funnel/admission/RecentTimes" "ordered" "[J" (.ref bo7)) (Fs14 : Fld Z T14.heap b1 "com/example/funnel/funnel/admission/RecentTimes" "size" "I" (.int sz14)) (Fn14 : Fld Z T14.heap b1 "com/example/funnel/funnel/admission/RecentTimes" "next" "I" (.int nx14)) (Vt14 : Arv Z T14.heap bt7 kt7 .long kI (tm14.map Value.long) (.long (0 : Int64))) (Vo14 : Arv Z T14.heap bo7 ko7 .long kI (od14.map Value.long) (.long (0 : Int64))) (RR14 : own_RR K ([i1, i2, i3, i4, i5].take (min NV 3)) tm14 od14 sz14 nx14), own_G p.tables e below (own_P s (Q0 n0) 16 128) (T14.setTop (mkF m 65 #[.val (.int i0), .val (.long i1), .second, .val (.long i2), .second, .val (.long i3), .second, .val (.long i4), .second, .val (.long i5), .second, .val (.int kI), .val (.int nI), .val (.ref b1), .unset, .unset] [])) := by
        intro T14 L14 tm14 od14 sz14 nx14 X14 N14 Z14 Ex14 Ft14 Fo14 Fs14 Fn14 Vt14 Vo14 RR14
        refine own_st (fun _ k => XS.iload X14.here hx rfl (hb hby at_65) rfl k) ?_
        show own_G p.tables e below _ (T14.setTop (mkF m 67 #[.val (.int i0), .val (.long i1), .second, .val (.long i2), .second, .val (.long i3), .second, .val (.long i4), .second, .val (.long i5), .second, .val (.int kI), .val (.int nI), .val (.ref b1), .unset, .unset] [(.int nI)]))
        refine own_st (fun _ k => XS.iconst X14.here hx rfl (hb hby at_67) k) ?_
        show own_G p.tables e below _ (T14.setTop (mkF m 68 #[.val (.int i0), .val (.long i1), .second, .val (.long i2), .second, .val (.long i3), .second, .val (.long i4), .second, .val (.long i5), .second, .val (.int kI), .val (.int nI), .val (.ref b1), .unset, .unset] [(.int (3 : Int32)), (.int nI)]))
        have J15 : ∀ (T15 : State) (L15 : List Loc) (tm15 od15 : List Int64) (sz15 nx15 : Int32) (X15 : Stand p l e room_1 s m #[(.int i0), (.long i1), (.long i2), (.long i3), (.long i4), (.long i5)] below meth c T15 L15 3 12) (N15 : Fr n0 L15) (Z15 : n0 ≤ T15.heap.size) (Ex15 : Exa Z T15.heap b1 "com/example/funnel/funnel/admission/RecentTimes") (Ft15 : Fld Z T15.heap b1 "com/example/funnel/funnel/admission/RecentTimes" "times" "[J" (.ref bt7)) (Fo15 : Fld Z T15.heap b1 "com/example/funnel/funnel/admission/RecentTimes" "ordered" "[J" (.ref bo7)) (Fs15 : Fld Z T15.heap b1 "com/example/funnel/funnel/admission/RecentTimes" "size" "I" (.int sz15)) (Fn15 : Fld Z T15.heap b1 "com/example/funnel/funnel/admission/RecentTimes" "next" "I" (.int nx15)) (Vt15 : Arv Z T15.heap bt7 kt7 .long kI (tm15.map Value.long) (.long (0 : Int64))) (Vo15 : Arv Z T15.heap bo7 ko7 .long kI (od15.map Value.long) (.long (0 : Int64))) (RR15 : own_RR K ([i1, i2, i3, i4, i5].take (min NV 4)) tm15 od15 sz15 nx15), own_G p.tables e below (own_P s (Q0 n0) 16 128) (T15.setTop (mkF m 78 #[.val (.int i0), .val (.long i1), .second, .val (.long i2), .second, .val (.long i3), .second, .val (.long i4), .second, .val (.long i5), .second, .val (.int kI), .val (.int nI), .val (.ref b1), .unset, .unset] [])) := by
          intro T15 L15 tm15 od15 sz15 nx15 X15 N15 Z15 Ex15 Ft15 Fo15 Fs15 Fn15 Vt15 Vo15 RR15
          refine own_st (fun _ k => XS.iload X15.here hx rfl (hb hby at_78) rfl k) ?_
          show own_G p.tables e below _ (T15.setTop (mkF m 80 #[.val (.int i0), .val (.long i1), .second, .val (.long i2), .second, .val (.long i3), .second, .val (.long i4), .second, .val (.long i5), .second, .val (.int kI), .val (.int nI), .val (.ref b1), .unset, .unset] [(.int nI)]))
          refine own_st (fun _ k => XS.iconst X15.here hx rfl (hb hby at_80) k) ?_
          show own_G p.tables e below _ (T15.setTop (mkF m 81 #[.val (.int i0), .val (.long i1), .second, .val (.long i2), .second, .val (.long i3), .second, .val (.long i4), .second, .val (.long i5), .second, .val (.int kI), .val (.int nI), .val (.ref b1), .unset, .unset] [(.int (4 : Int32)), (.int nI)]))
          have J16 : ∀ (T16 : State) (L16 : List Loc) (tm16 od16 : List Int64) (sz16 nx16 : Int32) (X16 : Stand p l e room_1 s m #[(.int i0), (.long i1), (.long i2), (.long i3), (.long i4), (.long i5)] below meth c T16 L16 3 12) (N16 : Fr n0 L16) (Z16 : n0 ≤ T16.heap.size) (Ex16 : Exa Z T16.heap b1 "com/example/funnel/funnel/admission/RecentTimes") (Ft16 : Fld Z T16.heap b1 "com/example/funnel/funnel/admission/RecentTimes" "times" "[J" (.ref bt7)) (Fo16 : Fld Z T16.heap b1 "com/example/funnel/funnel/admission/RecentTimes" "ordered" "[J" (.ref bo7)) (Fs16 : Fld Z T16.heap b1 "com/example/funnel/funnel/admission/RecentTimes" "size" "I" (.int sz16)) (Fn16 : Fld Z T16.heap b1 "com/example/funnel/funnel/admission/RecentTimes" "next" "I" (.int nx16)) (Vt16 : Arv Z T16.heap bt7 kt7 .long kI (tm16.map Value.long) (.long (0 : Int64))) (Vo16 : Arv Z T16.heap bo7 ko7 .long kI (od16.map Value.long) (.long (0 : Int64))) (RR16 : own_RR K ([i1, i2, i3, i4, i5].take (min NV 5)) tm16 od16 sz16 nx16), own_G p.tables e below (own_P s (Q0 n0) 16 128) (T16.setTop (mkF m 91 #[.val (.int i0), .val (.long i1), .second, .val (.long i2), .second, .val (.long i3), .second, .val (.long i4), .second, .val (.long i5), .second, .val (.int kI), .val (.int nI), .val (.ref b1), .unset, .unset] [])) := by
            intro T16 L16 tm16 od16 sz16 nx16 X16 N16 Z16 Ex16 Ft16 Fo16 Fs16 Fn16 Vt16 Vo16 RR16
            refine own_st (fun _ k => XS.aload X16.here hx rfl (hb hby at_91) rfl rfl k) ?_
            show own_G p.tables e below _ (T16.setTop (mkF m 93 #[.val (.int i0), .val (.long i1), .second, .val (.long i2), .second, .val (.long i3), .second, .val (.long i4), .second, .val (.long i5), .second, .val (.int kI), .val (.int nI), .val (.ref b1), .unset, .unset] [(.ref b1)]))
            obtain ⟨cq17, kq17, q17a, q17b, q17c⟩ := isOf hZ rfl Ex16
            obtain ⟨_, _, ⟨T17, L17, k17, n17⟩, -, X17, ⟨Lc17, hQ17, l17, y17, z17⟩, st17⟩ := X16.virtualBack hx (y := (⟨"com/example/funnel/funnel/admission/RecentTimes", "percentile95", "()J"⟩ : MethodName)) (z := (⟨"com/example/funnel/funnel/admission/RecentTimes", "percentile95", "()J"⟩ : MethodName)) hown (mvT hZ (hw _ (List.mem_of_getElem? (i := 14) rfl))) (mvT hZ (hw _ (List.mem_of_getElem? (i := 15) rfl))) (notFace_of_selects (args := #[]) (mvT hZ (hw _ (List.mem_of_getElem? (i := 17) rfl)))) (mvT hZ (hw _ (List.mem_of_getElem? (i := 17) rfl))) (mvT hZ (hw _ (List.mem_of_getElem? (i := 16) rfl))) (by decide) (backOf (W := 0) (rmper l Z a0 hw [] b1 bt7 kt7 bo7 ko7 sz16 nx16 kI K ([i1, i2, i3, i4, i5].take (min NV 5)) tm16 od16 T16.heap n0 Z16 Ft16 Vt16 ne_b1_bt7 Fo16 Vo16 ne_b1_bo7 Fs16 Fn16 Ex16 hk hK1 hK4 RR16.1 RR16.2.1 RR16.2.2) hZ (hw _ (List.mem_of_getElem? (i := 18) rfl)) (hw _ (List.mem_of_getElem? (i := 2) rfl)) (by decide) (by decide)) q17a q17c (g := (mkF m 93 #[.val (.int i0), .val (.long i1), .second, .val (.long i2), .second, .val (.long i3), .second, .val (.long i4), .second, .val (.long i5), .second, .val (.int kI), .val (.int nI), .val (.ref b1), .unset, .unset] [(.ref b1)])) rfl (by rw [hml]; rfl) (Steps.refl _) (argsL := []) (rest := []) (lenOf pd_5 rfl) rfl (by show 2 * 0 + _ ≤ _; exact Nat.le_of_eq rfl) (hb hby at_93) (fun _ _ => ⟨rfl, rfl, (by decide : 3 + 0 ≤ _), (by decide : 12 + 0 ≤ _)⟩)
            dsimp only [Pt.U, Pt.locs, Pt.cells, Pt.slots] at X17 l17 y17 z17 st17 hQ17
            subst l17 y17 z17
            obtain ⟨⟨r17, rfl, hpm17⟩, N17q, e17⟩ := hQ17
            have N17 := Fr.app N16 N17q
            refine own_st (fun _ k => st17.trans k) ?_
            show own_G p.tables e below _ (T17.setTop (mkF m 96 #[.val (.int i0), .val (.long i1), .second, .val (.long i2), .second, .val (.long i3), .second, .val (.long i4), .second, .val (.long i5), .second, .val (.int kI), .val (.int nI), .val (.ref b1), .unset, .unset] [(.long r17)]))
            refine own_st (fun _ k => XS.lstore X17.here hx rfl (hb hby at_96) rfl (l' := #[.val (.int i0), .val (.long i1), .second, .val (.long i2), .second, .val (.long i3), .second, .val (.long i4), .second, .val (.long i5), .second, .val (.int kI), .val (.int nI), .val (.ref b1), .val (.long r17), .second]) rfl k) ?_
            show own_G p.tables e below _ (T17.setTop (mkF m 98 #[.val (.int i0), .val (.long i1), .second, .val (.long i2), .second, .val (.long i3), .second, .val (.long i4), .second, .val (.long i5), .second, .val (.int kI), .val (.int nI), .val (.ref b1), .val (.long r17), .second] []))
            refine own_st (fun _ k => XS.lload X17.here hx rfl (hb hby at_98) rfl k) ?_
            show own_G p.tables e below _ (T17.setTop (mkF m 100 #[.val (.int i0), .val (.long i1), .second, .val (.long i2), .second, .val (.long i3), .second, .val (.long i4), .second, .val (.long i5), .second, .val (.int kI), .val (.int nI), .val (.ref b1), .val (.long r17), .second] [(.long r17)]))
            refine own_st (fun _ k => XS.iload X17.here hx rfl (hb hby at_100) rfl k) ?_
            show own_G p.tables e below _ (T17.setTop (mkF m 102 #[.val (.int i0), .val (.long i1), .second, .val (.long i2), .second, .val (.long i3), .second, .val (.long i4), .second, .val (.long i5), .second, .val (.int kI), .val (.int nI), .val (.ref b1), .val (.long r17), .second] [(.int kI), (.long r17)]))
            refine own_st (fun _ k => XS.iload X17.here hx rfl (hb hby at_102) rfl k) ?_
            show own_G p.tables e below _ (T17.setTop (mkF m 104 #[.val (.int i0), .val (.long i1), .second, .val (.long i2), .second, .val (.long i3), .second, .val (.long i4), .second, .val (.long i5), .second, .val (.int kI), .val (.int nI), .val (.ref b1), .val (.long r17), .second] [(.int nI), (.int kI), (.long r17)]))
            refine own_st (fun _ k => XS.lloadN X17.here hx rfl (hb hby at_104) rfl k) ?_
            show own_G p.tables e below _ (T17.setTop (mkF m 105 #[.val (.int i0), .val (.long i1), .second, .val (.long i2), .second, .val (.long i3), .second, .val (.long i4), .second, .val (.long i5), .second, .val (.int kI), .val (.int nI), .val (.ref b1), .val (.long r17), .second] [(.long i1), (.int nI), (.int kI), (.long r17)]))
            refine own_st (fun _ k => XS.lloadN X17.here hx rfl (hb hby at_105) rfl k) ?_
            show own_G p.tables e below _ (T17.setTop (mkF m 106 #[.val (.int i0), .val (.long i1), .second, .val (.long i2), .second, .val (.long i3), .second, .val (.long i4), .second, .val (.long i5), .second, .val (.int kI), .val (.int nI), .val (.ref b1), .val (.long r17), .second] [(.long i2), (.long i1), (.int nI), (.int kI), (.long r17)]))
            refine own_st (fun _ k => XS.lload X17.here hx rfl (hb hby at_106) rfl k) ?_
            show own_G p.tables e below _ (T17.setTop (mkF m 108 #[.val (.int i0), .val (.long i1), .second, .val (.long i2), .second, .val (.long i3), .second, .val (.long i4), .second, .val (.long i5), .second, .val (.int kI), .val (.int nI), .val (.ref b1), .val (.long r17), .second] [(.long i3), (.long i2), (.long i1), (.int nI), (.int kI), (.long r17)]))
            refine own_st (fun _ k => XS.lload X17.here hx rfl (hb hby at_108) rfl k) ?_
            show own_G p.tables e below _ (T17.setTop (mkF m 110 #[.val (.int i0), .val (.long i1), .second, .val (.long i2), .second, .val (.long i3), .second, .val (.long i4), .second, .val (.long i5), .second, .val (.int kI), .val (.int nI), .val (.ref b1), .val (.long r17), .second] [(.long i4), (.long i3), (.long i2), (.long i1), (.int nI), (.int kI), (.long r17)]))
            refine own_st (fun _ k => XS.lload X17.here hx rfl (hb hby at_110) rfl k) ?_
            show own_G p.tables e below _ (T17.setTop (mkF m 112 #[.val (.int i0), .val (.long i1), .second, .val (.long i2), .second, .val (.long i3), .second, .val (.long i4), .second, .val (.long i5), .second, .val (.int kI), .val (.int nI), .val (.ref b1), .val (.long r17), .second] [(.long i5), (.long i4), (.long i3), (.long i2), (.long i1), (.int nI), (.int kI), (.long r17)]))
            obtain ⟨_, _, ⟨T18, L18, k18, n18⟩, -, X18, ⟨Lc18, hQ18, l18, y18, z18⟩, st18⟩ := Jvm.LawKit.callS X17 hx (y := (⟨"com/example/funnel/funnel/admission/RecentTimesPercentile95PinLaw", "expected", "(IIJJJJJ)J"⟩ : MethodName)) hown (mvT hZ (hw _ (List.mem_of_getElem? (i := 21) rfl))) (mvT hZ (hw _ (List.mem_of_getElem? (i := 22) rfl))) (mvT hZ (hw _ (List.mem_of_getElem? (i := 23) rfl))) (mvT hZ (hw _ (List.mem_of_getElem? (i := 24) rfl))) (by decide) (backOf (W := 2) (rm4 l Z a0 hw [] kI nI i1 i2 i3 i4 i5 T16.heap n0 Z16 ) hZ (hw _ (List.mem_of_getElem? (i := 24) rfl)) (hw _ (List.mem_of_getElem? (i := 23) rfl)) (by decide) (by decide)) (g := (mkF m 112 #[.val (.int i0), .val (.long i1), .second, .val (.long i2), .second, .val (.long i3), .second, .val (.long i4), .second, .val (.long i5), .second, .val (.int kI), .val (.int nI), .val (.ref b1), .val (.long r17), .second] [(.long i5), (.long i4), (.long i3), (.long i2), (.long i1), (.int nI), (.int kI), (.long r17)])) rfl (by rw [hml]; rfl) (argsL := [(.int kI), (.int nI), (.long i1), (.long i2), (.long i3), (.long i4), (.long i5)]) (rest := [(.long r17)]) (lenOf pd_6 rfl) rfl (by show 2 * 0 + _ ≤ _; exact Nat.le_of_eq rfl) (hb hby at_112) (fun _ _ => ⟨rfl, e17, (by decide : 3 + 0 ≤ _), (by decide : 12 + 0 ≤ _)⟩)
            dsimp only [Pt.U, Pt.locs, Pt.cells, Pt.slots] at X18 l18 y18 z18 st18 hQ18
            subst l18 y18 z18
            obtain ⟨⟨r18, rfl, hr18⟩, N18q, e18⟩ := hQ18
            have N18 := Fr.app N17 N18q
            refine own_st st18 ?_
            show own_G p.tables e below _ (T18.setTop (mkF m 115 #[.val (.int i0), .val (.long i1), .second, .val (.long i2), .second, .val (.long i3), .second, .val (.long i4), .second, .val (.long i5), .second, .val (.int kI), .val (.int nI), .val (.ref b1), .val (.long r17), .second] [(.long r18), (.long r17)]))
            refine own_st (fun _ k => XS.lcmp X18.here hx rfl (hb hby at_115) rfl k) ?_
            show own_G p.tables e below _ (T18.setTop (mkF m 116 #[.val (.int i0), .val (.long i1), .second, .val (.long i2), .second, .val (.long i3), .second, .val (.long i4), .second, .val (.long i5), .second, .val (.int kI), .val (.int nI), .val (.ref b1), .val (.long r17), .second] [(.int (lcmpW r17 r18))]))
            have hf19 : r17 = r18 := own_final hk hK1 hK4 hN hN5 hpm17 hr18
            refine own_st (fun _ k => XS.ifNo X18.here hx rfl (hb hby at_116) rfl ((if0 _ _).trans (teq ((lw_eq r17 r18).mpr hf19)).2) k) ?_
            show own_G p.tables e below _ (T18.setTop (mkF m 119 #[.val (.int i0), .val (.long i1), .second, .val (.long i2), .second, .val (.long i3), .second, .val (.long i4), .second, .val (.long i5), .second, .val (.int kI), .val (.int nI), .val (.ref b1), .val (.long r17), .second] []))
            refine own_st (fun _ k => XS.iconst X18.here hx rfl (hb hby at_119) k) ?_
            show own_G p.tables e below _ (T18.setTop (mkF m 120 #[.val (.int i0), .val (.long i1), .second, .val (.long i2), .second, .val (.long i3), .second, .val (.long i4), .second, .val (.long i5), .second, .val (.int kI), .val (.int nI), .val (.ref b1), .val (.long r17), .second] [(.int (1 : Int32))]))
            refine own_st (fun _ k => XS.goto X18.here hx rfl (pc0 := 120) (pc' := 124) rfl (hb hby at_120) (by decide) (by decide) k) ?_
            show own_G p.tables e below _ (T18.setTop (mkF m 124 #[.val (.int i0), .val (.long i1), .second, .val (.long i2), .second, .val (.long i3), .second, .val (.long i4), .second, .val (.long i5), .second, .val (.int kI), .val (.int nI), .val (.ref b1), .val (.long r17), .second] [(.int (1 : Int32))]))
            exact own_retZ X18 hx hlk Bd.returns (hb hby at_124) (by decide) ⟨rfl, N18⟩ (by decide) (by decide)
          by_cases hk81 : (4 : Int32) < nI
          · refine own_st (fun _ k => XS.icmpNo X15.here hx rfl (hb hby at_81) rfl (tlt hk81).2.2.2 k) ?_
            show own_G p.tables e below _ (T15.setTop (mkF m 84 #[.val (.int i0), .val (.long i1), .second, .val (.long i2), .second, .val (.long i3), .second, .val (.long i4), .second, .val (.long i5), .second, .val (.int kI), .val (.int nI), .val (.ref b1), .unset, .unset] []))
            refine own_st (fun _ k => XS.aload X15.here hx rfl (hb hby at_84) rfl rfl k) ?_
            show own_G p.tables e below _ (T15.setTop (mkF m 86 #[.val (.int i0), .val (.long i1), .second, .val (.long i2), .second, .val (.long i3), .second, .val (.long i4), .second, .val (.long i5), .second, .val (.int kI), .val (.int nI), .val (.ref b1), .unset, .unset] [(.ref b1)]))
            refine own_st (fun _ k => XS.lload X15.here hx rfl (hb hby at_86) rfl k) ?_
            show own_G p.tables e below _ (T15.setTop (mkF m 88 #[.val (.int i0), .val (.long i1), .second, .val (.long i2), .second, .val (.long i3), .second, .val (.long i4), .second, .val (.long i5), .second, .val (.int kI), .val (.int nI), .val (.ref b1), .unset, .unset] [(.long i5), (.ref b1)]))
            obtain ⟨cq20, kq20, q20a, q20b, q20c⟩ := isOf hZ rfl Ex15
            obtain ⟨_, _, ⟨T20, L20, k20, n20⟩, -, X20, ⟨Lc20, hQ20, l20, y20, z20⟩, st20⟩ := X15.virtualBack hx (y := (⟨"com/example/funnel/funnel/admission/RecentTimes", "add", "(J)V"⟩ : MethodName)) (z := (⟨"com/example/funnel/funnel/admission/RecentTimes", "add", "(J)V"⟩ : MethodName)) hown (mvT hZ (hw _ (List.mem_of_getElem? (i := 25) rfl))) (mvT hZ (hw _ (List.mem_of_getElem? (i := 26) rfl))) (notFace_of_selects (args := #[]) (mvT hZ (hw _ (List.mem_of_getElem? (i := 28) rfl)))) (mvT hZ (hw _ (List.mem_of_getElem? (i := 28) rfl))) (mvT hZ (hw _ (List.mem_of_getElem? (i := 27) rfl))) (by decide) (backOf (W := 0) (rmadd l Z a0 hw [] b1 i5 bt7 kt7 bo7 ko7 sz15 nx15 kI K ([i1, i2, i3, i4, i5].take (min NV 4)) tm15 od15 T15.heap n0 Z15 Ft15 Vt15 ne_b1_bt7 Fo15 Vo15 ne_b1_bo7 Fs15 Fn15 Ex15 hk hK1 hK4 RR15.1 RR15.2.1 RR15.2.2 nb7 ge_b1 ge_bt7 ge_bo7) hZ (hw _ (List.mem_of_getElem? (i := 29) rfl)) (hw _ (List.mem_of_getElem? (i := 2) rfl)) (by decide) (by decide)) q20a q20c (g := (mkF m 88 #[.val (.int i0), .val (.long i1), .second, .val (.long i2), .second, .val (.long i3), .second, .val (.long i4), .second, .val (.long i5), .second, .val (.int kI), .val (.int nI), .val (.ref b1), .unset, .unset] [(.long i5), (.ref b1)])) rfl (by rw [hml]; rfl) (Steps.refl _) (argsL := [(.long i5)]) (rest := []) (lenOf pd_7 rfl) rfl (by show 2 * 0 + _ ≤ _; exact Nat.le_of_eq rfl) (hb hby at_88) (fun _ _ => ⟨rfl, rfl, (by decide : 3 + 0 ≤ _), (by decide : 12 + 0 ≤ _)⟩)
            dsimp only [Pt.U, Pt.locs, Pt.cells, Pt.slots] at X20 l20 y20 z20 st20 hQ20
            subst l20 y20 z20
            obtain ⟨rfl, N20q, K20q, Ex20, Ft20, Fo20, ⟨tm20, od20, sz20, nx20, Fs20, Fn20, Vt20, Vo20, RR20⟩⟩ := hQ20
            have N20 := Fr.app N15 N20q
            have Z24 := Nat.le_trans Z15 K20q.1
            refine own_st (fun _ k => st20.trans k) ?_
            show own_G p.tables e below _ (T20.setTop (mkF m 91 #[.val (.int i0), .val (.long i1), .second, .val (.long i2), .second, .val (.long i3), .second, .val (.long i4), .second, .val (.long i5), .second, .val (.int kI), .val (.int nI), .val (.ref b1), .unset, .unset] []))
            exact J16 _ _ _ _ _ _ X20 N20 Z24 Ex20 Ft20 Fo20 Fs20 Fn20 Vt20 Vo20 (own_tk1 hN hk81 rfl (by decide) ⟨RR20.1, RR20.2.1, RR20.2.2⟩)
          · refine own_st (fun _ k => XS.icmpYes X15.here hx rfl (pc0 := 81) (pc' := 91) rfl (hb hby at_81) rfl (flt hk81).2.2.2 (by decide) (by decide) k) ?_
            show own_G p.tables e below _ (T15.setTop (mkF m 91 #[.val (.int i0), .val (.long i1), .second, .val (.long i2), .second, .val (.long i3), .second, .val (.long i4), .second, .val (.long i5), .second, .val (.int kI), .val (.int nI), .val (.ref b1), .unset, .unset] []))
            exact J16 _ _ _ _ _ _ X15 N15 Z15 Ex15 Ft15 Fo15 Fs15 Fn15 Vt15 Vo15 (own_tk0 hN hk81 (by decide) ⟨RR15.1, RR15.2.1, RR15.2.2⟩)
        by_cases hk68 : (3 : Int32) < nI
        · refine own_st (fun _ k => XS.icmpNo X14.here hx rfl (hb hby at_68) rfl (tlt hk68).2.2.2 k) ?_
          show own_G p.tables e below _ (T14.setTop (mkF m 71 #[.val (.int i0), .val (.long i1), .second, .val (.long i2), .second, .val (.long i3), .second, .val (.long i4), .second, .val (.long i5), .second, .val (.int kI), .val (.int nI), .val (.ref b1), .unset, .unset] []))
          refine own_st (fun _ k => XS.aload X14.here hx rfl (hb hby at_71) rfl rfl k) ?_
          show own_G p.tables e below _ (T14.setTop (mkF m 73 #[.val (.int i0), .val (.long i1), .second, .val (.long i2), .second, .val (.long i3), .second, .val (.long i4), .second, .val (.long i5), .second, .val (.int kI), .val (.int nI), .val (.ref b1), .unset, .unset] [(.ref b1)]))
          refine own_st (fun _ k => XS.lload X14.here hx rfl (hb hby at_73) rfl k) ?_
          show own_G p.tables e below _ (T14.setTop (mkF m 75 #[.val (.int i0), .val (.long i1), .second, .val (.long i2), .second, .val (.long i3), .second, .val (.long i4), .second, .val (.long i5), .second, .val (.int kI), .val (.int nI), .val (.ref b1), .unset, .unset] [(.long i4), (.ref b1)]))
          obtain ⟨cq25, kq25, q25a, q25b, q25c⟩ := isOf hZ rfl Ex14
          obtain ⟨_, _, ⟨T25, L25, k25, n25⟩, -, X25, ⟨Lc25, hQ25, l25, y25, z25⟩, st25⟩ := X14.virtualBack hx (y := (⟨"com/example/funnel/funnel/admission/RecentTimes", "add", "(J)V"⟩ : MethodName)) (z := (⟨"com/example/funnel/funnel/admission/RecentTimes", "add", "(J)V"⟩ : MethodName)) hown (mvT hZ (hw _ (List.mem_of_getElem? (i := 25) rfl))) (mvT hZ (hw _ (List.mem_of_getElem? (i := 26) rfl))) (notFace_of_selects (args := #[]) (mvT hZ (hw _ (List.mem_of_getElem? (i := 28) rfl)))) (mvT hZ (hw _ (List.mem_of_getElem? (i := 28) rfl))) (mvT hZ (hw _ (List.mem_of_getElem? (i := 27) rfl))) (by decide) (backOf (W := 0) (rmadd l Z a0 hw [] b1 i4 bt7 kt7 bo7 ko7 sz14 nx14 kI K ([i1, i2, i3, i4, i5].take (min NV 3)) tm14 od14 T14.heap n0 Z14 Ft14 Vt14 ne_b1_bt7 Fo14 Vo14 ne_b1_bo7 Fs14 Fn14 Ex14 hk hK1 hK4 RR14.1 RR14.2.1 RR14.2.2 nb7 ge_b1 ge_bt7 ge_bo7) hZ (hw _ (List.mem_of_getElem? (i := 29) rfl)) (hw _ (List.mem_of_getElem? (i := 2) rfl)) (by decide) (by decide)) q25a q25c (g := (mkF m 75 #[.val (.int i0), .val (.long i1), .second, .val (.long i2), .second, .val (.long i3), .second, .val (.long i4), .second, .val (.long i5), .second, .val (.int kI), .val (.int nI), .val (.ref b1), .unset, .unset] [(.long i4), (.ref b1)])) rfl (by rw [hml]; rfl) (Steps.refl _) (argsL := [(.long i4)]) (rest := []) (lenOf pd_7 rfl) rfl (by show 2 * 0 + _ ≤ _; exact Nat.le_of_eq rfl) (hb hby at_75) (fun _ _ => ⟨rfl, rfl, (by decide : 3 + 0 ≤ _), (by decide : 12 + 0 ≤ _)⟩)
          dsimp only [Pt.U, Pt.locs, Pt.cells, Pt.slots] at X25 l25 y25 z25 st25 hQ25
          subst l25 y25 z25
          obtain ⟨rfl, N25q, K25q, Ex25, Ft25, Fo25, ⟨tm25, od25, sz25, nx25, Fs25, Fn25, Vt25, Vo25, RR25⟩⟩ := hQ25
          have N25 := Fr.app N14 N25q
          have Z29 := Nat.le_trans Z14 K25q.1
          refine own_st (fun _ k => st25.trans k) ?_
          show own_G p.tables e below _ (T25.setTop (mkF m 78 #[.val (.int i0), .val (.long i1), .second, .val (.long i2), .second, .val (.long i3), .second, .val (.long i4), .second, .val (.long i5), .second, .val (.int kI), .val (.int nI), .val (.ref b1), .unset, .unset] []))
          exact J15 _ _ _ _ _ _ X25 N25 Z29 Ex25 Ft25 Fo25 Fs25 Fn25 Vt25 Vo25 (own_tk1 hN hk68 rfl (by decide) ⟨RR25.1, RR25.2.1, RR25.2.2⟩)
        · refine own_st (fun _ k => XS.icmpYes X14.here hx rfl (pc0 := 68) (pc' := 78) rfl (hb hby at_68) rfl (flt hk68).2.2.2 (by decide) (by decide) k) ?_
          show own_G p.tables e below _ (T14.setTop (mkF m 78 #[.val (.int i0), .val (.long i1), .second, .val (.long i2), .second, .val (.long i3), .second, .val (.long i4), .second, .val (.long i5), .second, .val (.int kI), .val (.int nI), .val (.ref b1), .unset, .unset] []))
          exact J15 _ _ _ _ _ _ X14 N14 Z14 Ex14 Ft14 Fo14 Fs14 Fn14 Vt14 Vo14 (own_tk0 hN hk68 (by decide) ⟨RR14.1, RR14.2.1, RR14.2.2⟩)
      by_cases hk55 : (2 : Int32) < nI
      · refine own_st (fun _ k => XS.icmpNo X13.here hx rfl (hb hby at_55) rfl (tlt hk55).2.2.2 k) ?_
        show own_G p.tables e below _ (T13.setTop (mkF m 58 #[.val (.int i0), .val (.long i1), .second, .val (.long i2), .second, .val (.long i3), .second, .val (.long i4), .second, .val (.long i5), .second, .val (.int kI), .val (.int nI), .val (.ref b1), .unset, .unset] []))
        refine own_st (fun _ k => XS.aload X13.here hx rfl (hb hby at_58) rfl rfl k) ?_
        show own_G p.tables e below _ (T13.setTop (mkF m 60 #[.val (.int i0), .val (.long i1), .second, .val (.long i2), .second, .val (.long i3), .second, .val (.long i4), .second, .val (.long i5), .second, .val (.int kI), .val (.int nI), .val (.ref b1), .unset, .unset] [(.ref b1)]))
        refine own_st (fun _ k => XS.lload X13.here hx rfl (hb hby at_60) rfl k) ?_
        show own_G p.tables e below _ (T13.setTop (mkF m 62 #[.val (.int i0), .val (.long i1), .second, .val (.long i2), .second, .val (.long i3), .second, .val (.long i4), .second, .val (.long i5), .second, .val (.int kI), .val (.int nI), .val (.ref b1), .unset, .unset] [(.long i3), (.ref b1)]))
        obtain ⟨cq30, kq30, q30a, q30b, q30c⟩ := isOf hZ rfl Ex13
        obtain ⟨_, _, ⟨T30, L30, k30, n30⟩, -, X30, ⟨Lc30, hQ30, l30, y30, z30⟩, st30⟩ := X13.virtualBack hx (y := (⟨"com/example/funnel/funnel/admission/RecentTimes", "add", "(J)V"⟩ : MethodName)) (z := (⟨"com/example/funnel/funnel/admission/RecentTimes", "add", "(J)V"⟩ : MethodName)) hown (mvT hZ (hw _ (List.mem_of_getElem? (i := 25) rfl))) (mvT hZ (hw _ (List.mem_of_getElem? (i := 26) rfl))) (notFace_of_selects (args := #[]) (mvT hZ (hw _ (List.mem_of_getElem? (i := 28) rfl)))) (mvT hZ (hw _ (List.mem_of_getElem? (i := 28) rfl))) (mvT hZ (hw _ (List.mem_of_getElem? (i := 27) rfl))) (by decide) (backOf (W := 0) (rmadd l Z a0 hw [] b1 i3 bt7 kt7 bo7 ko7 sz13 nx13 kI K ([i1, i2, i3, i4, i5].take (min NV 2)) tm13 od13 T13.heap n0 Z13 Ft13 Vt13 ne_b1_bt7 Fo13 Vo13 ne_b1_bo7 Fs13 Fn13 Ex13 hk hK1 hK4 RR13.1 RR13.2.1 RR13.2.2 nb7 ge_b1 ge_bt7 ge_bo7) hZ (hw _ (List.mem_of_getElem? (i := 29) rfl)) (hw _ (List.mem_of_getElem? (i := 2) rfl)) (by decide) (by decide)) q30a q30c (g := (mkF m 62 #[.val (.int i0), .val (.long i1), .second, .val (.long i2), .second, .val (.long i3), .second, .val (.long i4), .second, .val (.long i5), .second, .val (.int kI), .val (.int nI), .val (.ref b1), .unset, .unset] [(.long i3), (.ref b1)])) rfl (by rw [hml]; rfl) (Steps.refl _) (argsL := [(.long i3)]) (rest := []) (lenOf pd_7 rfl) rfl (by show 2 * 0 + _ ≤ _; exact Nat.le_of_eq rfl) (hb hby at_62) (fun _ _ => ⟨rfl, rfl, (by decide : 3 + 0 ≤ _), (by decide : 12 + 0 ≤ _)⟩)
        dsimp only [Pt.U, Pt.locs, Pt.cells, Pt.slots] at X30 l30 y30 z30 st30 hQ30
        subst l30 y30 z30
        obtain ⟨rfl, N30q, K30q, Ex30, Ft30, Fo30, ⟨tm30, od30, sz30, nx30, Fs30, Fn30, Vt30, Vo30, RR30⟩⟩ := hQ30
        have N30 := Fr.app N13 N30q
        have Z34 := Nat.le_trans Z13 K30q.1
        refine own_st (fun _ k => st30.trans k) ?_
        show own_G p.tables e below _ (T30.setTop (mkF m 65 #[.val (.int i0), .val (.long i1), .second, .val (.long i2), .second, .val (.long i3), .second, .val (.long i4), .second, .val (.long i5), .second, .val (.int kI), .val (.int nI), .val (.ref b1), .unset, .unset] []))
        exact J14 _ _ _ _ _ _ X30 N30 Z34 Ex30 Ft30 Fo30 Fs30 Fn30 Vt30 Vo30 (own_tk1 hN hk55 rfl (by decide) ⟨RR30.1, RR30.2.1, RR30.2.2⟩)
      · refine own_st (fun _ k => XS.icmpYes X13.here hx rfl (pc0 := 55) (pc' := 65) rfl (hb hby at_55) rfl (flt hk55).2.2.2 (by decide) (by decide) k) ?_
        show own_G p.tables e below _ (T13.setTop (mkF m 65 #[.val (.int i0), .val (.long i1), .second, .val (.long i2), .second, .val (.long i3), .second, .val (.long i4), .second, .val (.long i5), .second, .val (.int kI), .val (.int nI), .val (.ref b1), .unset, .unset] []))
        exact J14 _ _ _ _ _ _ X13 N13 Z13 Ex13 Ft13 Fo13 Fs13 Fn13 Vt13 Vo13 (own_tk0 hN hk55 (by decide) ⟨RR13.1, RR13.2.1, RR13.2.2⟩)
    by_cases hk43 : (1 : Int32) < nI
    · refine own_st (fun _ k => XS.icmpNo X12.here hx rfl (hb hby at_43) rfl (tlt hk43).2.2.2 k) ?_
      show own_G p.tables e below _ (T12.setTop (mkF m 46 #[.val (.int i0), .val (.long i1), .second, .val (.long i2), .second, .val (.long i3), .second, .val (.long i4), .second, .val (.long i5), .second, .val (.int kI), .val (.int nI), .val (.ref b1), .unset, .unset] []))
      refine own_st (fun _ k => XS.aload X12.here hx rfl (hb hby at_46) rfl rfl k) ?_
      show own_G p.tables e below _ (T12.setTop (mkF m 48 #[.val (.int i0), .val (.long i1), .second, .val (.long i2), .second, .val (.long i3), .second, .val (.long i4), .second, .val (.long i5), .second, .val (.int kI), .val (.int nI), .val (.ref b1), .unset, .unset] [(.ref b1)]))
      refine own_st (fun _ k => XS.lloadN X12.here hx rfl (hb hby at_48) rfl k) ?_
      show own_G p.tables e below _ (T12.setTop (mkF m 49 #[.val (.int i0), .val (.long i1), .second, .val (.long i2), .second, .val (.long i3), .second, .val (.long i4), .second, .val (.long i5), .second, .val (.int kI), .val (.int nI), .val (.ref b1), .unset, .unset] [(.long i2), (.ref b1)]))
      obtain ⟨cq35, kq35, q35a, q35b, q35c⟩ := isOf hZ rfl Ex12
      obtain ⟨_, _, ⟨T35, L35, k35, n35⟩, -, X35, ⟨Lc35, hQ35, l35, y35, z35⟩, st35⟩ := X12.virtualBack hx (y := (⟨"com/example/funnel/funnel/admission/RecentTimes", "add", "(J)V"⟩ : MethodName)) (z := (⟨"com/example/funnel/funnel/admission/RecentTimes", "add", "(J)V"⟩ : MethodName)) hown (mvT hZ (hw _ (List.mem_of_getElem? (i := 25) rfl))) (mvT hZ (hw _ (List.mem_of_getElem? (i := 26) rfl))) (notFace_of_selects (args := #[]) (mvT hZ (hw _ (List.mem_of_getElem? (i := 28) rfl)))) (mvT hZ (hw _ (List.mem_of_getElem? (i := 28) rfl))) (mvT hZ (hw _ (List.mem_of_getElem? (i := 27) rfl))) (by decide) (backOf (W := 0) (rmadd l Z a0 hw [] b1 i2 bt7 kt7 bo7 ko7 sz12 nx12 kI K ([i1, i2, i3, i4, i5].take (min NV 1)) tm12 od12 T12.heap n0 Z12 Ft12 Vt12 ne_b1_bt7 Fo12 Vo12 ne_b1_bo7 Fs12 Fn12 Ex12 hk hK1 hK4 RR12.1 RR12.2.1 RR12.2.2 nb7 ge_b1 ge_bt7 ge_bo7) hZ (hw _ (List.mem_of_getElem? (i := 29) rfl)) (hw _ (List.mem_of_getElem? (i := 2) rfl)) (by decide) (by decide)) q35a q35c (g := (mkF m 49 #[.val (.int i0), .val (.long i1), .second, .val (.long i2), .second, .val (.long i3), .second, .val (.long i4), .second, .val (.long i5), .second, .val (.int kI), .val (.int nI), .val (.ref b1), .unset, .unset] [(.long i2), (.ref b1)])) rfl (by rw [hml]; rfl) (Steps.refl _) (argsL := [(.long i2)]) (rest := []) (lenOf pd_7 rfl) rfl (by show 2 * 0 + _ ≤ _; exact Nat.le_of_eq rfl) (hb hby at_49) (fun _ _ => ⟨rfl, rfl, (by decide : 3 + 0 ≤ _), (by decide : 12 + 0 ≤ _)⟩)
      dsimp only [Pt.U, Pt.locs, Pt.cells, Pt.slots] at X35 l35 y35 z35 st35 hQ35
      subst l35 y35 z35
      obtain ⟨rfl, N35q, K35q, Ex35, Ft35, Fo35, ⟨tm35, od35, sz35, nx35, Fs35, Fn35, Vt35, Vo35, RR35⟩⟩ := hQ35
      have N35 := Fr.app N12 N35q
      have Z39 := Nat.le_trans Z12 K35q.1
      refine own_st (fun _ k => st35.trans k) ?_
      show own_G p.tables e below _ (T35.setTop (mkF m 52 #[.val (.int i0), .val (.long i1), .second, .val (.long i2), .second, .val (.long i3), .second, .val (.long i4), .second, .val (.long i5), .second, .val (.int kI), .val (.int nI), .val (.ref b1), .unset, .unset] []))
      exact J13 _ _ _ _ _ _ X35 N35 Z39 Ex35 Ft35 Fo35 Fs35 Fn35 Vt35 Vo35 (own_tk1 hN hk43 rfl (by decide) ⟨RR35.1, RR35.2.1, RR35.2.2⟩)
    · refine own_st (fun _ k => XS.icmpYes X12.here hx rfl (pc0 := 43) (pc' := 52) rfl (hb hby at_43) rfl (flt hk43).2.2.2 (by decide) (by decide) k) ?_
      show own_G p.tables e below _ (T12.setTop (mkF m 52 #[.val (.int i0), .val (.long i1), .second, .val (.long i2), .second, .val (.long i3), .second, .val (.long i4), .second, .val (.long i5), .second, .val (.int kI), .val (.int nI), .val (.ref b1), .unset, .unset] []))
      exact J13 _ _ _ _ _ _ X12 N12 Z12 Ex12 Ft12 Fo12 Fs12 Fn12 Vt12 Vo12 (own_tk0 hN hk43 (by decide) ⟨RR12.1, RR12.2.1, RR12.2.2⟩)
  by_cases hk31 : (0 : Int32) < nI
  · refine own_st (fun _ k => XS.ifNo X7.here hx rfl (hb hby at_31) rfl ((if0 _ _).trans (tlt hk31).2.2.2) k) ?_
    show own_G p.tables e below _ (T7.setTop (mkF m 34 #[.val (.int i0), .val (.long i1), .second, .val (.long i2), .second, .val (.long i3), .second, .val (.long i4), .second, .val (.long i5), .second, .val (.int kI), .val (.int nI), .val (.ref b1), .unset, .unset] []))
    refine own_st (fun _ k => XS.aload X7.here hx rfl (hb hby at_34) rfl rfl k) ?_
    show own_G p.tables e below _ (T7.setTop (mkF m 36 #[.val (.int i0), .val (.long i1), .second, .val (.long i2), .second, .val (.long i3), .second, .val (.long i4), .second, .val (.long i5), .second, .val (.int kI), .val (.int nI), .val (.ref b1), .unset, .unset] [(.ref b1)]))
    refine own_st (fun _ k => XS.lloadN X7.here hx rfl (hb hby at_36) rfl k) ?_
    show own_G p.tables e below _ (T7.setTop (mkF m 37 #[.val (.int i0), .val (.long i1), .second, .val (.long i2), .second, .val (.long i3), .second, .val (.long i4), .second, .val (.long i5), .second, .val (.int kI), .val (.int nI), .val (.ref b1), .unset, .unset] [(.long i1), (.ref b1)]))
    obtain ⟨cq40, kq40, q40a, q40b, q40c⟩ := isOf hZ rfl Ex7
    obtain ⟨_, _, ⟨T40, L40, k40, n40⟩, -, X40, ⟨Lc40, hQ40, l40, y40, z40⟩, st40⟩ := X7.virtualBack hx (y := (⟨"com/example/funnel/funnel/admission/RecentTimes", "add", "(J)V"⟩ : MethodName)) (z := (⟨"com/example/funnel/funnel/admission/RecentTimes", "add", "(J)V"⟩ : MethodName)) hown (mvT hZ (hw _ (List.mem_of_getElem? (i := 25) rfl))) (mvT hZ (hw _ (List.mem_of_getElem? (i := 26) rfl))) (notFace_of_selects (args := #[]) (mvT hZ (hw _ (List.mem_of_getElem? (i := 28) rfl)))) (mvT hZ (hw _ (List.mem_of_getElem? (i := 28) rfl))) (mvT hZ (hw _ (List.mem_of_getElem? (i := 27) rfl))) (by decide) (backOf (W := 0) (rmadd l Z a0 hw [] b1 i1 bt7 kt7 bo7 ko7 (0 : Int32) (0 : Int32) kI K ([i1, i2, i3, i4, i5].take (min NV 0)) (List.replicate K 0) (List.replicate K 0) T7.heap n0 Z9 Ft7 V10 ne_b1_bt7 Fo7 V11 ne_b1_bo7 Fs7 Fn7 Ex7 hk hK1 hK4 RR0.1 RR0.2.1 RR0.2.2 nb7 ge_b1 ge_bt7 ge_bo7) hZ (hw _ (List.mem_of_getElem? (i := 29) rfl)) (hw _ (List.mem_of_getElem? (i := 2) rfl)) (by decide) (by decide)) q40a q40c (g := (mkF m 37 #[.val (.int i0), .val (.long i1), .second, .val (.long i2), .second, .val (.long i3), .second, .val (.long i4), .second, .val (.long i5), .second, .val (.int kI), .val (.int nI), .val (.ref b1), .unset, .unset] [(.long i1), (.ref b1)])) rfl (by rw [hml]; rfl) (Steps.refl _) (argsL := [(.long i1)]) (rest := []) (lenOf pd_7 rfl) rfl (by show 2 * 0 + _ ≤ _; exact Nat.le_of_eq rfl) (hb hby at_37) (fun _ _ => ⟨rfl, rfl, (by decide : 3 + 0 ≤ _), (by decide : 12 + 0 ≤ _)⟩)
    dsimp only [Pt.U, Pt.locs, Pt.cells, Pt.slots] at X40 l40 y40 z40 st40 hQ40
    subst l40 y40 z40
    obtain ⟨rfl, N40q, K40q, Ex40, Ft40, Fo40, ⟨tm40, od40, sz40, nx40, Fs40, Fn40, Vt40, Vo40, RR40⟩⟩ := hQ40
    have N40 := Fr.app N7 N40q
    have Z44 := Nat.le_trans Z9 K40q.1
    refine own_st (fun _ k => st40.trans k) ?_
    show own_G p.tables e below _ (T40.setTop (mkF m 40 #[.val (.int i0), .val (.long i1), .second, .val (.long i2), .second, .val (.long i3), .second, .val (.long i4), .second, .val (.long i5), .second, .val (.int kI), .val (.int nI), .val (.ref b1), .unset, .unset] []))
    exact J12 _ _ _ _ _ _ X40 N40 Z44 Ex40 Ft40 Fo40 Fs40 Fn40 Vt40 Vo40 (own_tk1 hN hk31 rfl (by decide) ⟨RR40.1, RR40.2.1, RR40.2.2⟩)
  · refine own_st (fun _ k => XS.ifYes X7.here hx rfl (pc0 := 31) (pc' := 40) rfl (hb hby at_31) rfl ((if0 _ _).trans (flt hk31).2.2.2) (by decide) (by decide) k) ?_
    show own_G p.tables e below _ (T7.setTop (mkF m 40 #[.val (.int i0), .val (.long i1), .second, .val (.long i2), .second, .val (.long i3), .second, .val (.long i4), .second, .val (.long i5), .second, .val (.int kI), .val (.int nI), .val (.ref b1), .unset, .unset] []))
    exact J12 _ _ _ _ _ _ X7 N7 Z9 Ex7 Ft7 Fo7 Fs7 Fn7 V10 V11 (own_tk0 hN hk31 (by decide) ⟨RR0.1, RR0.2.1, RR0.2.2⟩)
set_option maxRecDepth 65536 in
set_option maxHeartbeats 40000000 in
theorem comes_1 {Post : Tables → Env → Array Value → State → Outcome → State → Prop} (hpost : ∀ tb e args s v u, (limb_1_1.after args s (.returned v) u = true ∧ limb_1_2.after args s (.returned v) u = true ∧ True) → FrameEnd s (.returned v) u (Jvm.fieldLocs frame_1_writes args s ++ Jvm.arrayLocs frame_1_arrays args s ++ Jvm.staticLocs frame_1_statics s) 16 128 → Post tb e args s (.returned v) u) :
    ArmFor flags0 classFile x code maxLocals ret World_1 tables_1 room_1 Calls_1 rest_1 Pre_1 Post := by
  intro l hfl _ _ p e ha hc hk s m args below hf hA hF happ hP
  obtain ⟨hcalls, hrest, hpre⟩ := hP
  obtain ⟨-, -, -, hnamed, -, -, -, hat⟩ := (Spec.applies_iff hf).mp happ
  obtain ⟨hg, hn⟩ := and_e (Cond.before_iff.mp (show (Jvm.Cond.and given_1 narrow_1).before args s = true from hpre))
  obtain ⟨gc, g0⟩ := and_e hg
  obtain ⟨ga0, g1⟩ := and_e g0
  obtain ⟨ga1, g2⟩ := and_e g1
  obtain ⟨ga2, g3⟩ := and_e g2
  obtain ⟨ga3, g4⟩ := and_e g3
  obtain ⟨ga4, g5⟩ := and_e g4
  obtain ⟨w0, w1, w2, w3, w4, w5, rfl⟩ : ∃ w0 w1 w2 w3 w4 w5 : Value, args = #[w0, w1, w2, w3, w4, w5] := by
    have hs : args.size = 6 := by simpa [Cond.value, given_1] using gc
    obtain ⟨L⟩ := args
    match L, hs with
    | [w0, w1, w2, w3, w4, w5], _ => exact ⟨w0, w1, w2, w3, w4, w5, rfl⟩
  have hw := fun d (hd : d ∈ tables_1) => atoms_spec (ws := Jvm.Cond.code x code maxLocals ret :: tables_1) hat d (List.mem_cons_of_mem _ hd)
  have hfit : Fit s := fun {y c} hc i hi => by
    obtain ⟨ha, rfl⟩ := Array.getElem?_eq_some_iff.mp hc
    have q := List.all_eq_true.mp ((Array.all_eq_true_iff_forall_mem.mp hF) _ (Array.getElem_mem ha)) i (List.mem_range.mpr hi)
    simpa [Array.getElem?_eq_getElem hi] using q
  obtain ⟨i0, ei0⟩ := is_v ga0
  obtain rfl : w0 = (.int i0) := Option.some.inj ei0
  obtain ⟨i1, ei1⟩ := isL_v ga1
  obtain rfl : w1 = (.long i1) := Option.some.inj ei1
  obtain ⟨i2, ei2⟩ := isL_v ga2
  obtain rfl : w2 = (.long i2) := Option.some.inj ei2
  obtain ⟨i3, ei3⟩ := isL_v ga3
  obtain rfl : w3 = (.long i3) := Option.some.inj ei3
  obtain ⟨i4, ei4⟩ := isL_v ga4
  obtain rfl : w4 = (.long i4) := Option.some.inj ei4
  obtain ⟨i5, ei5⟩ := isL_v g5
  obtain rfl : w5 = (.long i5) := Option.some.inj ei5
  obtain ⟨n, o, h1, h2, h3, _, L, rfl, ⟨rfl, N⟩, hq⟩ := rm0 l s _ hw tables_1 i0 i1 i2 i3 i4 i5  s.heap s.heap.size (Nat.le_refl _)   p e ha hc hk s m _ below hf ((Spec.applies_iff_loose hf).mp happ).1 ⟨rfl, State.Warmed39.refl s, rfl⟩ trivial
  refine ⟨n, _, h1, h2, h3, hpost _ _ _ _ _ _ ⟨Cond.after_iff.mpr rfl, Cond.after_iff.mpr (eq_i res_at (Term.int_eval (1)) rfl), trivial⟩ ⟨hq.1, hq.2.1, (hq.2.2.sift fun y hy => Or.inr (N y hy)).mono (by decide) (by decide)⟩⟩
theorem main_1_1 : Claimed_1_1 := comes_1 fun _ _ _ _ _ _ h hF => ⟨h.1, hF⟩
theorem main_1_2 : Claimed_1_2 := comes_1 fun _ _ _ _ _ _ h hF => ⟨h.2.1, hF⟩
end Jvm.Pilot.@@N@@
namespace Jvm.Pilot.@@N@@
open Jvm Jvm.ClassFile Sem Op Lib Jvm.Free Jvm.Stand Jvm.Pilot.@@N@@.Jvm.D
/-! MADE BY PROGRAM (witnessworld.py) out of the Statement's table words and the real class files: 14 classes; the members and pool entries that the words name. The judged class is class 1, her method 1. -/
namespace start1
open Jvm.ClassFile
def u (s : String) : CpInfo := .utf8 (stringToUtf16 s)
/-- a pool by its gaps: so many unusable entries, then the entry; so many at the end -/
def gap : Nat → List CpInfo → List CpInfo
  | 0, r => r
  | n + 1, r => .unusable :: gap n r
def poolList (es : List (Nat × CpInfo)) (last : Nat) : List CpInfo := es.foldr (fun e r => gap e.1 (e.2 :: r)) (gap last [])
def pool (es : List (Nat × CpInfo)) (last : Nat) : Array CpInfo := ⟨poolList es last⟩
def fileOf (pool : Array CpInfo) (this : Nat) (attrs : Array Attribute := #[]) (ms : Array MethodInfo := #[]) (fl : Nat := 33) (sup : Nat := 0) (ifs : Array Nat := #[]) (fds : Array FieldInfo := #[]) : ClassFile where
  minorVersion := 0
  majorVersion := 65
  constantPool := pool
  accessFlags := fl
  thisClass := this
  superClass := sup
  interfaces := ifs
  fields := fds
  methods := ms
  attributes := attrs
def plain (name : String) (sup : Option ClassId) : Class where
  name := name
  kind := .ordinary
  loader := none
  accessFlags := 33
  super := sup
  interfaces := #[]
  cf := none
  fields := #[]
  methods := #[]
  instanceTypes := #[]
  staticTypes := #[]
  resolved := #[]
  callSites := []
  init := .initialized
  statics := none
  mirror := none

def pool0 : Array CpInfo := pool [(5, u "<init>"), (0, u "()V"), (1, .class_ 10), (1, u "java/lang/Object")] 113

def k0c0 : Code := { maxStack := 0, maxLocals := 1, code := object_method_1_code, exceptionTable := #[], attributes := #[] }
def k0m0 : Method := { name := "<init>", desc := "()V", sig := { parameters := [], returnType := none }, accessFlags := 1, code := some k0c0 }
/-- java/lang/Object -/
def k0 : Class := { plain "java/lang/Object" none with
  accessFlags := 33
  interfaces := #[]
  cf := some (fileOf pool0 8 #[] #[{ accessFlags := 1, nameIndex := 5, descriptorIndex := 6, attributes := #[] }] 33 0 #[] #[])
  fields := #[]
  methods := #[k0m0]
  instanceTypes := #[]
  staticTypes := #[]
  resolved := Array.replicate 124 none
  statics := none }

def pool1 : Array CpInfo := pool [(2, .class_ 4), (1, u "java/lang/Object"), (0, u "<init>"), (0, u "()V"), (0, .class_ 8), (0, u "com/example/funnel/funnel/admission/RecentTimes"), (0, .methodref 7 10), (0, .nameAndType 5 11), (0, u "(I)V"), (0, .methodref 7 13), (0, .nameAndType 14 15), (0, u "add"), (0, u "(J)V"), (0, .methodref 7 17), (0, .nameAndType 18 19), (0, u "percentile95"), (0, u "()J"), (0, .methodref 21 22), (0, .class_ 23), (0, .nameAndType 24 25), (0, u "com/example/funnel/funnel/admission/RecentTimesPercentile95PinLaw"), (0, u "expected"), (0, u "(IIJJJJJ)J"), (0, .methodref 27 28), (0, .class_ 29), (0, .nameAndType 30 31), (0, u "java/lang/Math"), (0, u "min"), (0, u "(II)I"), (2, .long 9223372036854775808), (1, .methodref 27 37), (0, .nameAndType 38 39), (0, u "max"), (0, u "(JJ)J"), (2, u "law"), (0, u "(IJJJJJ)Z")] 3

def k1m0 : Method := { name := "<init>", desc := "()V", sig := { parameters := [], returnType := none }, accessFlags := 1, code := none }
def k1c1 : Code := { maxStack := 14, maxLocals := 16, code := code, exceptionTable := #[], attributes := #[] }
def k1m1 : Method := { name := "law", desc := "(IJJJJJ)Z", sig := { parameters := [.int, .long, .long, .long, .long, .long], returnType := some .boolean }, accessFlags := 9, code := some k1c1 }
def k1c2 : Code := { maxStack := 4, maxLocals := 16, code := method_3_code, exceptionTable := #[], attributes := #[] }
def k1m2 : Method := { name := "expected", desc := "(IIJJJJJ)J", sig := { parameters := [.int, .int, .long, .long, .long, .long, .long], returnType := some .long }, accessFlags := 10, code := some k1c2 }
/-- com/example/funnel/funnel/admission/RecentTimesPercentile95PinLaw -/
def k1 : Class := { plain "com/example/funnel/funnel/admission/RecentTimesPercentile95PinLaw" (some 0) with
  accessFlags := 49
  interfaces := #[]
  cf := some (fileOf pool1 21 #[] #[{ accessFlags := 1, nameIndex := 5, descriptorIndex := 6, attributes := #[] }, { accessFlags := 9, nameIndex := 42, descriptorIndex := 43, attributes := #[] }, { accessFlags := 10, nameIndex := 24, descriptorIndex := 25, attributes := #[] }] 49 2 #[] #[])
  fields := #[]
  methods := #[k1m0, k1m1, k1m2]
  instanceTypes := #[]
  staticTypes := #[]
  resolved := Array.replicate 47 none
  statics := none }

def pool2 : Array CpInfo := pool [(1, .methodref 2 3), (0, .class_ 4), (0, .nameAndType 5 6), (0, u "java/lang/Object"), (0, u "<init>"), (0, u "()V"), (9, .fieldref 17 18), (0, .class_ 19), (0, .nameAndType 20 21), (0, u "com/example/funnel/funnel/admission/RecentTimes"), (0, u "times"), (0, u "[J"), (0, .fieldref 17 23), (0, .nameAndType 24 21), (0, u "ordered"), (0, .fieldref 17 26), (0, .nameAndType 27 28), (0, u "size"), (0, u "I"), (0, .fieldref 17 30), (0, .nameAndType 31 28), (0, u "next"), (0, .methodref 33 34), (0, .class_ 35), (0, .nameAndType 36 37), (0, u "java/util/Arrays"), (0, u "binarySearch"), (0, u "([JIIJ)I"), (0, .methodref 39 40), (0, .class_ 41), (0, .nameAndType 42 43), (0, u "java/lang/System"), (0, u "arraycopy"), (0, u "(Ljava/lang/Object;ILjava/lang/Object;II)V"), (0, u "(I)V"), (3, u "add"), (0, u "(J)V"), (1, u "percentile95"), (0, u "()J")] 17

def k2c0 : Code := { maxStack := 3, maxLocals := 2, code := prog_1_method_1_code, exceptionTable := #[], attributes := #[] }
def k2m0 : Method := { name := "<init>", desc := "(I)V", sig := { parameters := [.int], returnType := none }, accessFlags := 0, code := some k2c0 }
def k2c1 : Code := { maxStack := 6, maxLocals := 5, code := prog_1_method_2_code, exceptionTable := #[], attributes := #[] }
def k2m1 : Method := { name := "add", desc := "(J)V", sig := { parameters := [.long], returnType := none }, accessFlags := 0, code := some k2c1 }
def k2c2 : Code := { maxStack := 3, maxLocals := 2, code := prog_1_method_4_code, exceptionTable := #[], attributes := #[] }
def k2m2 : Method := { name := "percentile95", desc := "()J", sig := { parameters := [], returnType := some .long }, accessFlags := 0, code := some k2c2 }
/-- com/example/funnel/funnel/admission/RecentTimes -/
def k2 : Class := { plain "com/example/funnel/funnel/admission/RecentTimes" (some 0) with
  accessFlags := 48
  interfaces := #[]
  cf := some (fileOf pool2 17 #[] #[{ accessFlags := 0, nameIndex := 5, descriptorIndex := 44, attributes := #[] }, { accessFlags := 0, nameIndex := 48, descriptorIndex := 49, attributes := #[] }, { accessFlags := 0, nameIndex := 51, descriptorIndex := 52, attributes := #[] }] 48 2 #[] #[{ accessFlags := 18, nameIndex := 20, descriptorIndex := 21, attributes := #[] }, { accessFlags := 18, nameIndex := 24, descriptorIndex := 21, attributes := #[] }, { accessFlags := 2, nameIndex := 31, descriptorIndex := 28, attributes := #[] }, { accessFlags := 2, nameIndex := 27, descriptorIndex := 28, attributes := #[] }])
  fields := #[{ name := "times", type := (.array .long), accessFlags := 18, slot := 0, constantValue := 0 }, { name := "ordered", type := (.array .long), accessFlags := 18, slot := 1, constantValue := 0 }, { name := "next", type := .int, accessFlags := 2, slot := 2, constantValue := 0 }, { name := "size", type := .int, accessFlags := 2, slot := 3, constantValue := 0 }]
  methods := #[k2m0, k2m1, k2m2]
  instanceTypes := #[(.array .long), (.array .long), .int, .int]
  staticTypes := #[]
  resolved := Array.replicate 70 none
  statics := none }

def pool3 : Array CpInfo := pool [(2, .class_ 4), (1, u "java/lang/Object"), (0, u "<init>"), (0, u "()V"), (6, .methodref 14 15), (0, .class_ 16), (0, .nameAndType 17 18), (0, u "java/util/Arrays"), (0, u "rangeCheck"), (0, u "(III)V"), (55, .class_ 76), (1, u "java/util/Arrays$NaturalOrder"), (36, .class_ 115), (1, u "java/util/Arrays$LegacyMergeSort"), (1, u "Z"), (87, .methodref 14 206), (0, .nameAndType 207 208), (0, u "binarySearch0"), (0, u "([JIIJ)I"), (166, .class_ 376), (0, u "java/util/Arrays$ArrayList"), (68, u "$assertionsDisabled"), (269, u "MIN_ARRAY_SORT_GRAN"), (0, u "I"), (2, u "INSERTIONSORT_THRESHOLD"), (74, u "binarySearch"), (180, .class_ 976), (0, u "java/util/Arrays$ArrayItr")] 52

def k3m0 : Method := { name := "<init>", desc := "()V", sig := { parameters := [], returnType := none }, accessFlags := 2, code := none }
def k3c1 : Code := { maxStack := 4, maxLocals := 3, code := jdk_65_method_30_code, exceptionTable := #[], attributes := #[] }
def k3m1 : Method := { name := "rangeCheck", desc := "(III)V", sig := { parameters := [.int, .int, .int], returnType := none }, accessFlags := 8, code := some k3c1 }
def k3c2 : Code := { maxStack := 5, maxLocals := 5, code := jdk_65_method_55_code, exceptionTable := #[], attributes := #[] }
def k3m2 : Method := { name := "binarySearch", desc := "([JIIJ)I", sig := { parameters := [(.array .long), .int, .int, .long], returnType := some .int }, accessFlags := 9, code := some k3c2 }
def k3c3 : Code := { maxStack := 4, maxLocals := 10, code := jdk_65_method_56_code, exceptionTable := #[], attributes := #[] }
def k3m3 : Method := { name := "binarySearch0", desc := "([JIIJ)I", sig := { parameters := [(.array .long), .int, .int, .long], returnType := some .int }, accessFlags := 10, code := some k3c3 }
/-- java/util/Arrays -/
def k3 : Class := { plain "java/util/Arrays" (some 0) with
  accessFlags := 49
  interfaces := #[]
  cf := some (fileOf pool3 14 #[.nestMembers #[975, 375, 113, 74]] #[{ accessFlags := 2, nameIndex := 5, descriptorIndex := 6, attributes := #[] }, { accessFlags := 8, nameIndex := 17, descriptorIndex := 18, attributes := #[] }, { accessFlags := 9, nameIndex := 794, descriptorIndex := 208, attributes := #[] }, { accessFlags := 10, nameIndex := 207, descriptorIndex := 208, attributes := #[] }] 49 2 #[] #[{ accessFlags := 26, nameIndex := 715, descriptorIndex := 716, attributes := #[] }, { accessFlags := 26, nameIndex := 719, descriptorIndex := 716, attributes := #[] }, { accessFlags := 4120, nameIndex := 445, descriptorIndex := 117, attributes := #[] }])
  fields := #[{ name := "MIN_ARRAY_SORT_GRAN", type := .int, accessFlags := 26, slot := 0, constantValue := 0 }, { name := "INSERTIONSORT_THRESHOLD", type := .int, accessFlags := 26, slot := 1, constantValue := 0 }, { name := "$assertionsDisabled", type := .boolean, accessFlags := 4120, slot := 2, constantValue := 0 }]
  methods := #[k3m0, k3m1, k3m2, k3m3]
  instanceTypes := #[]
  staticTypes := #[.int, .int, .boolean]
  resolved := Array.replicate 1029 none
  statics := none }

def pool4 : Array CpInfo := pool [(2, .class_ 4), (1, u "java/lang/Object"), (0, u "<init>"), (0, u "()V"), (1, .class_ 10), (1, u "java/lang/System"), (0, u "allowSecurityManager"), (0, u "I"), (16, u "cons"), (0, u "Ljava/io/Console;"), (77, .class_ 110), (1, u "java/lang/System$CallersHolder"), (43, u "initialErrStream"), (0, u "Ljava/io/PrintStream;"), (19, u "security"), (0, u "Ljava/lang/SecurityManager;"), (31, .class_ 209), (0, u "java/lang/System$1"), (7, u "props"), (0, u "Ljava/util/Properties;"), (2, u "lineSeparator"), (0, u "Ljava/lang/String;"), (96, .class_ 321), (1, u "java/lang/System$LoggerFinder"), (5, .class_ 328), (0, u "java/lang/System$Logger"), (67, u "err"), (2, u "out"), (91, u "notSupportedJnuEncoding"), (15, u "in"), (17, u "initialIn"), (0, u "Ljava/io/InputStream;"), (35, u "bootLayer"), (0, u "Ljava/lang/ModuleLayer;"), (99, .class_ 664), (0, u "java/lang/System$2"), (9, u "NEVER"), (2, u "MAYBE"), (49, u "arraycopy"), (0, u "(Ljava/lang/Object;ILjava/lang/Object;II)V"), (72, .class_ 802), (0, u "java/lang/System$Logger$Level")] 31

def k4m0 : Method := { name := "<init>", desc := "()V", sig := { parameters := [], returnType := none }, accessFlags := 2, code := none }
def k4m1 : Method := { name := "arraycopy", desc := "(Ljava/lang/Object;ILjava/lang/Object;II)V", sig := { parameters := [(.object "java/lang/Object"), .int, (.object "java/lang/Object"), .int, .int], returnType := none }, accessFlags := 265, code := none }
/-- java/lang/System -/
def k4 : Class := { plain "java/lang/System" (some 0) with
  accessFlags := 49
  interfaces := #[]
  cf := some (fileOf pool4 8 #[.nestMembers #[319, 327, 801, 108, 663, 208]] #[{ accessFlags := 2, nameIndex := 5, descriptorIndex := 6, attributes := #[] }, { accessFlags := 265, nameIndex := 727, descriptorIndex := 728, attributes := #[] }] 49 2 #[] #[{ accessFlags := 25, nameIndex := 507, descriptorIndex := 526, attributes := #[] }, { accessFlags := 25, nameIndex := 399, descriptorIndex := 155, attributes := #[] }, { accessFlags := 25, nameIndex := 396, descriptorIndex := 155, attributes := #[] }, { accessFlags := 10, nameIndex := 525, descriptorIndex := 526, attributes := #[] }, { accessFlags := 26, nameIndex := 674, descriptorIndex := 12, attributes := #[] }, { accessFlags := 26, nameIndex := 677, descriptorIndex := 12, attributes := #[] }, { accessFlags := 10, nameIndex := 11, descriptorIndex := 12, attributes := #[] }, { accessFlags := 74, nameIndex := 175, descriptorIndex := 176, attributes := #[] }, { accessFlags := 10, nameIndex := 491, descriptorIndex := 222, attributes := #[] }, { accessFlags := 74, nameIndex := 29, descriptorIndex := 30, attributes := #[] }, { accessFlags := 74, nameIndex := 154, descriptorIndex := 155, attributes := #[] }, { accessFlags := 10, nameIndex := 217, descriptorIndex := 218, attributes := #[] }, { accessFlags := 10, nameIndex := 221, descriptorIndex := 222, attributes := #[] }, { accessFlags := 8, nameIndex := 562, descriptorIndex := 563, attributes := #[] }])
  fields := #[{ name := "in", type := (.object "java/io/InputStream"), accessFlags := 25, slot := 0, constantValue := 0 }, { name := "out", type := (.object "java/io/PrintStream"), accessFlags := 25, slot := 1, constantValue := 0 }, { name := "err", type := (.object "java/io/PrintStream"), accessFlags := 25, slot := 2, constantValue := 0 }, { name := "initialIn", type := (.object "java/io/InputStream"), accessFlags := 10, slot := 3, constantValue := 0 }, { name := "NEVER", type := .int, accessFlags := 26, slot := 4, constantValue := 0 }, { name := "MAYBE", type := .int, accessFlags := 26, slot := 5, constantValue := 0 }, { name := "allowSecurityManager", type := .int, accessFlags := 10, slot := 6, constantValue := 0 }, { name := "security", type := (.object "java/lang/SecurityManager"), accessFlags := 74, slot := 7, constantValue := 0 }, { name := "notSupportedJnuEncoding", type := (.object "java/lang/String"), accessFlags := 10, slot := 8, constantValue := 0 }, { name := "cons", type := (.object "java/io/Console"), accessFlags := 74, slot := 9, constantValue := 0 }, { name := "initialErrStream", type := (.object "java/io/PrintStream"), accessFlags := 74, slot := 10, constantValue := 0 }, { name := "props", type := (.object "java/util/Properties"), accessFlags := 10, slot := 11, constantValue := 0 }, { name := "lineSeparator", type := (.object "java/lang/String"), accessFlags := 10, slot := 12, constantValue := 0 }, { name := "bootLayer", type := (.object "java/lang/ModuleLayer"), accessFlags := 8, slot := 13, constantValue := 0 }]
  methods := #[k4m0, k4m1]
  instanceTypes := #[]
  staticTypes := #[(.object "java/io/InputStream"), (.object "java/io/PrintStream"), (.object "java/io/PrintStream"), (.object "java/io/InputStream"), .int, .int, .int, (.object "java/lang/SecurityManager"), (.object "java/lang/String"), (.object "java/io/Console"), (.object "java/io/PrintStream"), (.object "java/util/Properties"), (.object "java/lang/String"), (.object "java/lang/ModuleLayer")]
  resolved := Array.replicate 834 none
  statics := none }

def pool5 : Array CpInfo := pool [(1, .class_ 2), (0, u "java/lang/Math"), (1, .class_ 6), (1, u "java/lang/Object"), (0, u "<init>"), (0, u "()V"), (89, .class_ 100), (1, u "java/lang/Math$RandomNumberGeneratorHolder"), (20, u "(JJ)J"), (50, u "negativeZeroFloatBits"), (0, u "J"), (2, u "negativeZeroDoubleBits"), (21, u "max"), (2, u "min"), (43, u "$assertionsDisabled"), (0, u "Z"), (88, u "(II)I"), (2, u "twoToTheDoubleScaleDown"), (0, u "D"), (4, u "twoToTheDoubleScaleUp"), (9, u "E"), (3, u "PI"), (2, u "TAU"), (2, u "DEGREES_TO_RADIANS"), (0, u "RADIANS_TO_DEGREES")] 94

def k5m0 : Method := { name := "<init>", desc := "()V", sig := { parameters := [], returnType := none }, accessFlags := 2, code := none }
def k5c1 : Code := { maxStack := 4, maxLocals := 4, code := jdk_29_method_66_code, exceptionTable := #[], attributes := #[] }
def k5m1 : Method := { name := "max", desc := "(JJ)J", sig := { parameters := [.long, .long], returnType := some .long }, accessFlags := 9, code := some k5c1 }
def k5c2 : Code := { maxStack := 2, maxLocals := 2, code := jdk_29_method_69_code, exceptionTable := #[], attributes := #[] }
def k5m2 : Method := { name := "min", desc := "(II)I", sig := { parameters := [.int, .int], returnType := some .int }, accessFlags := 9, code := some k5c2 }
/-- java/lang/Math -/
def k5 : Class := { plain "java/lang/Math" (some 0) with
  accessFlags := 49
  interfaces := #[]
  cf := some (fileOf pool5 1 #[.nestMembers #[98]] #[{ accessFlags := 2, nameIndex := 7, descriptorIndex := 8, attributes := #[] }, { accessFlags := 9, nameIndex := 198, descriptorIndex := 121, attributes := #[] }, { accessFlags := 9, nameIndex := 201, descriptorIndex := 335, attributes := #[] }] 49 4 #[] #[{ accessFlags := 25, nameIndex := 354, descriptorIndex := 339, attributes := #[] }, { accessFlags := 25, nameIndex := 358, descriptorIndex := 339, attributes := #[] }, { accessFlags := 25, nameIndex := 361, descriptorIndex := 339, attributes := #[] }, { accessFlags := 26, nameIndex := 364, descriptorIndex := 339, attributes := #[] }, { accessFlags := 26, nameIndex := 365, descriptorIndex := 339, attributes := #[] }, { accessFlags := 26, nameIndex := 172, descriptorIndex := 173, attributes := #[] }, { accessFlags := 26, nameIndex := 176, descriptorIndex := 173, attributes := #[] }, { accessFlags := 8, nameIndex := 344, descriptorIndex := 339, attributes := #[] }, { accessFlags := 8, nameIndex := 338, descriptorIndex := 339, attributes := #[] }, { accessFlags := 4120, nameIndex := 245, descriptorIndex := 246, attributes := #[] }])
  fields := #[{ name := "E", type := .double, accessFlags := 25, slot := 0, constantValue := 0 }, { name := "PI", type := .double, accessFlags := 25, slot := 1, constantValue := 0 }, { name := "TAU", type := .double, accessFlags := 25, slot := 2, constantValue := 0 }, { name := "DEGREES_TO_RADIANS", type := .double, accessFlags := 26, slot := 3, constantValue := 0 }, { name := "RADIANS_TO_DEGREES", type := .double, accessFlags := 26, slot := 4, constantValue := 0 }, { name := "negativeZeroFloatBits", type := .long, accessFlags := 26, slot := 5, constantValue := 0 }, { name := "negativeZeroDoubleBits", type := .long, accessFlags := 26, slot := 6, constantValue := 0 }, { name := "twoToTheDoubleScaleUp", type := .double, accessFlags := 8, slot := 7, constantValue := 0 }, { name := "twoToTheDoubleScaleDown", type := .double, accessFlags := 8, slot := 8, constantValue := 0 }, { name := "$assertionsDisabled", type := .boolean, accessFlags := 4120, slot := 9, constantValue := 0 }]
  methods := #[k5m0, k5m1, k5m2]
  instanceTypes := #[]
  staticTypes := #[.double, .double, .double, .double, .double, .long, .long, .double, .double, .boolean]
  resolved := Array.replicate 460 none
  statics := none }

def pool6 : Array CpInfo := pool [(1, u "java/lang/Cloneable"), (0, .class_ 1), (0, u "java/lang/Object"), (0, .class_ 3)] 3

/-- java/lang/Cloneable -/
def k6 : Class := { plain "java/lang/Cloneable" (some 0) with
  accessFlags := 1537
  interfaces := #[]
  cf := some (fileOf pool6 2 #[] #[] 1537 4 #[] #[])
  fields := #[]
  methods := #[]
  instanceTypes := #[]
  staticTypes := #[]
  resolved := Array.replicate 8 none
  statics := none }

def pool7 : Array CpInfo := pool [(1, u "java/io/Serializable"), (0, .class_ 1), (0, u "java/lang/Object"), (0, .class_ 3)] 3

/-- java/io/Serializable -/
def k7 : Class := { plain "java/io/Serializable" (some 0) with
  accessFlags := 1537
  interfaces := #[]
  cf := some (fileOf pool7 2 #[] #[] 1537 4 #[] #[])
  fields := #[]
  methods := #[]
  instanceTypes := #[]
  staticTypes := #[]
  resolved := Array.replicate 8 none
  statics := none }

/-- the primitive byte -/
def k8 : Class := { plain "byte" none with kind := .primitive 'B', accessFlags := 0x411 }
/-- [B -/
def k9 : Class := { plain "[B" (some 0) with kind := .array 8 .byte, interfaces := #[6, 7], accessFlags := 1041 }

/-- the primitive int -/
def k10 : Class := { plain "int" none with kind := .primitive 'I', accessFlags := 0x411 }
/-- [I -/
def k11 : Class := { plain "[I" (some 0) with kind := .array 10 .int, interfaces := #[6, 7], accessFlags := 1041 }

/-- the primitive long -/
def k12 : Class := { plain "long" none with kind := .primitive 'J', accessFlags := 0x411 }
/-- [J -/
def k13 : Class := { plain "[J" (some 0) with kind := .array 12 .long, interfaces := #[6, 7], accessFlags := 1041 }

def heap : Heap := #[]
def classes : Array Class := #[k0, k1, k2, k3, k4, k5, k6, k7, k8, k9, k10, k11, k12, k13]
def interned : List (Array UInt16 × Addr) := []
def slotsUsed : Nat := 0
def theMethod : MethodId := ⟨1, 1⟩
def args0 : Array Value := #[.int 5, .long 5, .long 5, .long 5, .long 5, .long 5]
def aboutOver (below : List Frame) : State where
  vm := { classes := classes, interned := interned.toArray }
  heap := heap
  slotsUsed := slotsUsed
  threads := #[{ frames := .invoking theMethod args0 :: below }]
def below0 : List Frame := [.native { method := ⟨0, 0⟩, args := #[] }]
def about1 : State := aboutOver below0
def p0 : Program := .bare "" "" ""
def e0 : Env := launch0.env 0 0 0
theorem w_frames : about1.frames = Frame.invoking theMethod args0 :: below0 := rfl
set_option maxRecDepth 65536 in
theorem w_args : argsFit about1.vm theMethod args0 = true := by decide +kernel
set_option maxRecDepth 65536 in
theorem w_heap : heapFits about1 = true := by decide +kernel
set_option maxRecDepth 65536 in
theorem w_runnable : about1.curStatus? = some .runnable := by decide +kernel
set_option maxRecDepth 65536 in
theorem w_alone : about1.alone = true := by decide +kernel
set_option maxRecDepth 65536 in
theorem w_named : about1.methodNamed? x = some theMethod := by decide +kernel
set_option maxRecDepth 65536 in
theorem w_hears : about1.hears theMethod below0 = true := by decide +kernel
set_option maxRecDepth 65536 in
theorem w_ripe : about1.ripe theMethod args0 below0 = true := by decide +kernel
theorem w_running : about1.status = .running := rfl
set_option maxRecDepth 65536 in
theorem w_room : about1.hasRoom e0.platform room_1 = true :=
  launch0.hasRoom_least _ room_1 (by decide +kernel) (by decide +kernel) (by decide +kernel) (by decide +kernel) (by decide +kernel) (by decide +kernel)
theorem allAtoms_all (ts : List Jvm.Cond) (a : Array Jvm.Value) (st : Jvm.State) : (allAtoms ts).before a st = ts.all (fun c => c.before a st) := by
  induction ts with
  | nil => rfl
  | cons c t ih =>
    show (Jvm.Cond.and c (allAtoms t)).before a st = _
    rw [Jvm.Cond.before_and, ih, List.all_cons]
def words1 : List Jvm.Cond := Jvm.Cond.code x code maxLocals ret :: tables_1
/-- a 'code' word, met by the world's own term for the bytes: nothing is compared byte by byte -/
theorem code_word {y : MethodName} {bytes : ByteArray} {mx : Nat} {rt : Option FieldType} {a : Array Value} {s : State} {m : MethodId} {meth : Method} {c : Code} (h1 : s.methodNamed? y = some m) (h2 : s.vm.method? m = some meth) (h3 : meth.code = some c) (h4 : c.code = bytes)
    (h5 : (c.maxLocals == mx && c.exceptionTable.isEmpty && decide (c.maxStack ≤ mostOperands) && decide (meth.sig.returnType = rt) && !meth.locks && decide (parseMethodDescriptor y.desc = some meth.sig)) = true) : (Jvm.Cond.code y bytes mx rt).before a s = true := by
  simp only [Bool.and_eq_true, beq_iff_eq, Bool.not_eq_true', decide_eq_true_eq] at h5
  obtain ⟨⟨⟨⟨⟨g1, g2⟩, g3⟩, g4⟩, g5⟩, g6⟩ := h5
  simp [Cond.before, Cond.holds, Cond.value, h1, h2, h3, h4, g1, g2, g3, g4, g5, g6]
def isCode : Jvm.Cond → Bool
  | .code _ _ _ _ => true
  | _ => false
theorem all_split {L : List Jvm.Cond} {P : Jvm.Cond → Bool} (h1 : L.all (fun c => isCode c || P c) = true) (h2 : ∀ c ∈ L.filter isCode, P c = true) : L.all P = true := by
  refine List.all_eq_true.mpr fun c hc => ?_
  have h := List.all_eq_true.mp h1 c hc
  rcases Bool.eq_false_or_eq_true (isCode c) with hi | hi
  · exact h2 c (List.mem_filter.mpr ⟨hc, hi⟩)
  · simpa [hi] using h
set_option maxRecDepth 65536 in
theorem w_c0 : (Jvm.Cond.code x code maxLocals ret).before args0 about1 = true := code_word (m := ⟨1, 1⟩) (meth := k1m1) (c := k1c1) (by decide +kernel) rfl rfl rfl (by decide +kernel)
set_option maxRecDepth 65536 in
theorem w_c1 : (Jvm.Cond.code ({ cls := "com/example/funnel/funnel/admission/RecentTimes", name := "<init>", desc := "(I)V" } : Jvm.MethodName) prog_1_method_1_code (2 : Nat) (Option.none : Option Jvm.ClassFile.FieldType)).before args0 about1 = true := code_word (m := ⟨2, 0⟩) (meth := k2m0) (c := k2c0) (by decide +kernel) rfl rfl rfl (by decide +kernel)
set_option maxRecDepth 65536 in
theorem w_c2 : (Jvm.Cond.code ({ cls := "java/lang/Object", name := "<init>", desc := "()V" } : Jvm.MethodName) object_method_1_code (1 : Nat) (Option.none : Option Jvm.ClassFile.FieldType)).before args0 about1 = true := code_word (m := ⟨0, 0⟩) (meth := k0m0) (c := k0c0) (by decide +kernel) rfl rfl rfl (by decide +kernel)
set_option maxRecDepth 65536 in
theorem w_c3 : (Jvm.Cond.code ({ cls := "com/example/funnel/funnel/admission/RecentTimes", name := "percentile95", desc := "()J" } : Jvm.MethodName) prog_1_method_4_code (2 : Nat) (Option.some Jvm.ClassFile.FieldType.long)).before args0 about1 = true := code_word (m := ⟨2, 2⟩) (meth := k2m2) (c := k2c2) (by decide +kernel) rfl rfl rfl (by decide +kernel)
set_option maxRecDepth 65536 in
theorem w_c4 : (Jvm.Cond.code ({ cls := "com/example/funnel/funnel/admission/RecentTimesPercentile95PinLaw", name := "expected", desc := "(IIJJJJJ)J" } : Jvm.MethodName) method_3_code (16 : Nat) (Option.some Jvm.ClassFile.FieldType.long)).before args0 about1 = true := code_word (m := ⟨1, 2⟩) (meth := k1m2) (c := k1c2) (by decide +kernel) rfl rfl rfl (by decide +kernel)
set_option maxRecDepth 65536 in
theorem w_c5 : (Jvm.Cond.code ({ cls := "com/example/funnel/funnel/admission/RecentTimes", name := "add", desc := "(J)V" } : Jvm.MethodName) prog_1_method_2_code (5 : Nat) (Option.none : Option Jvm.ClassFile.FieldType)).before args0 about1 = true := code_word (m := ⟨2, 1⟩) (meth := k2m1) (c := k2c1) (by decide +kernel) rfl rfl rfl (by decide +kernel)
set_option maxRecDepth 65536 in
theorem w_c6 : (Jvm.Cond.code ({ cls := "java/util/Arrays", name := "binarySearch", desc := "([JIIJ)I" } : Jvm.MethodName) jdk_65_method_55_code (5 : Nat) (Option.some Jvm.ClassFile.FieldType.int)).before args0 about1 = true := code_word (m := ⟨3, 2⟩) (meth := k3m2) (c := k3c2) (by decide +kernel) rfl rfl rfl (by decide +kernel)
set_option maxRecDepth 65536 in
theorem w_c7 : (Jvm.Cond.code ({ cls := "java/util/Arrays", name := "rangeCheck", desc := "(III)V" } : Jvm.MethodName) jdk_65_method_30_code (3 : Nat) (Option.none : Option Jvm.ClassFile.FieldType)).before args0 about1 = true := code_word (m := ⟨3, 1⟩) (meth := k3m1) (c := k3c1) (by decide +kernel) rfl rfl rfl (by decide +kernel)
set_option maxRecDepth 65536 in
theorem w_c8 : (Jvm.Cond.code ({ cls := "java/util/Arrays", name := "binarySearch0", desc := "([JIIJ)I" } : Jvm.MethodName) jdk_65_method_56_code (10 : Nat) (Option.some Jvm.ClassFile.FieldType.int)).before args0 about1 = true := code_word (m := ⟨3, 3⟩) (meth := k3m3) (c := k3c3) (by decide +kernel) rfl rfl rfl (by decide +kernel)
set_option maxRecDepth 65536 in
theorem w_c9 : (Jvm.Cond.code ({ cls := "java/lang/Math", name := "min", desc := "(II)I" } : Jvm.MethodName) jdk_29_method_69_code (2 : Nat) (Option.some Jvm.ClassFile.FieldType.int)).before args0 about1 = true := code_word (m := ⟨5, 2⟩) (meth := k5m2) (c := k5c2) (by decide +kernel) rfl rfl rfl (by decide +kernel)
set_option maxRecDepth 65536 in
theorem w_c10 : (Jvm.Cond.code ({ cls := "java/lang/Math", name := "max", desc := "(JJ)J" } : Jvm.MethodName) jdk_29_method_66_code (4 : Nat) (Option.some Jvm.ClassFile.FieldType.long)).before args0 about1 = true := code_word (m := ⟨5, 1⟩) (meth := k5m1) (c := k5c1) (by decide +kernel) rfl rfl rfl (by decide +kernel)
def codes1 : List Jvm.Cond := [Jvm.Cond.code x code maxLocals ret, Jvm.Cond.code ({ cls := "com/example/funnel/funnel/admission/RecentTimes", name := "<init>", desc := "(I)V" } : Jvm.MethodName) prog_1_method_1_code (2 : Nat) (Option.none : Option Jvm.ClassFile.FieldType), Jvm.Cond.code ({ cls := "java/lang/Object", name := "<init>", desc := "()V" } : Jvm.MethodName) object_method_1_code (1 : Nat) (Option.none : Option Jvm.ClassFile.FieldType), Jvm.Cond.code ({ cls := "com/example/funnel/funnel/admission/RecentTimes", name := "percentile95", desc := "()J" } : Jvm.MethodName) prog_1_method_4_code (2 : Nat) (Option.some Jvm.ClassFile.FieldType.long), Jvm.Cond.code ({ cls := "com/example/funnel/funnel/admission/RecentTimesPercentile95PinLaw", name := "expected", desc := "(IIJJJJJ)J" } : Jvm.MethodName) method_3_code (16 : Nat) (Option.some Jvm.ClassFile.FieldType.long), Jvm.Cond.code ({ cls := "com/example/funnel/funnel/admission/RecentTimes", name := "add", desc := "(J)V" } : Jvm.MethodName) prog_1_method_2_code (5 : Nat) (Option.none : Option Jvm.ClassFile.FieldType), Jvm.Cond.code ({ cls := "java/util/Arrays", name := "binarySearch", desc := "([JIIJ)I" } : Jvm.MethodName) jdk_65_method_55_code (5 : Nat) (Option.some Jvm.ClassFile.FieldType.int), Jvm.Cond.code ({ cls := "java/util/Arrays", name := "rangeCheck", desc := "(III)V" } : Jvm.MethodName) jdk_65_method_30_code (3 : Nat) (Option.none : Option Jvm.ClassFile.FieldType), Jvm.Cond.code ({ cls := "java/util/Arrays", name := "binarySearch0", desc := "([JIIJ)I" } : Jvm.MethodName) jdk_65_method_56_code (10 : Nat) (Option.some Jvm.ClassFile.FieldType.int), Jvm.Cond.code ({ cls := "java/lang/Math", name := "min", desc := "(II)I" } : Jvm.MethodName) jdk_29_method_69_code (2 : Nat) (Option.some Jvm.ClassFile.FieldType.int), Jvm.Cond.code ({ cls := "java/lang/Math", name := "max", desc := "(JJ)J" } : Jvm.MethodName) jdk_29_method_66_code (4 : Nat) (Option.some Jvm.ClassFile.FieldType.long)]
set_option maxRecDepth 65536 in
theorem codes_eq : words1.filter isCode = codes1 := rfl
theorem w_codes : ∀ c ∈ words1.filter isCode, c.before args0 about1 = true := by
  rw [codes_eq]
  intro c hc
  simp only [codes1, List.mem_cons, List.not_mem_nil, or_false] at hc
  rcases hc with rfl | rfl | rfl | rfl | rfl | rfl | rfl | rfl | rfl | rfl | rfl
  · exact w_c0
  · exact w_c1
  · exact w_c2
  · exact w_c3
  · exact w_c4
  · exact w_c5
  · exact w_c6
  · exact w_c7
  · exact w_c8
  · exact w_c9
  · exact w_c10
set_option maxRecDepth 65536 in
theorem w_t1 : (words1.take 24).all (fun c => isCode c || c.before args0 about1) = true := by decide +kernel
set_option maxRecDepth 65536 in
theorem w_t2 : ((words1.drop 24).take 24).all (fun c => isCode c || c.before args0 about1) = true := by decide +kernel
set_option maxRecDepth 65536 in
theorem w_t3 : ((words1.drop 24).drop 24).all (fun c => isCode c || c.before args0 about1) = true := by decide +kernel
theorem w_tables : (allAtoms (Jvm.Cond.code x code maxLocals ret :: tables_1)).before args0 about1 = true := by
  rw [allAtoms_all]
  show words1.all (fun c => c.before args0 about1) = true
  refine all_split ?_ w_codes
  rw [← List.take_append_drop 24 words1, List.all_append, w_t1, ← List.take_append_drop 24 (words1.drop 24), List.all_append, w_t2, w_t3]
  rfl
set_option maxRecDepth 65536 in
theorem w_case : (Jvm.Cond.and given_1 narrow_1).before args0 about1 = true := by decide +kernel
theorem w_applies : (headSpec (Jvm.Cond.code x code maxLocals ret :: tables_1) room_1).applies x e0.platform about1 = true :=
  (Spec.applies_iff w_frames).mpr ⟨w_running, w_runnable, w_alone, w_named, w_hears, w_ripe, w_room, w_tables⟩
theorem atStart : AtStart classFile x code maxLocals ret World_1 tables_1 room_1 Calls_1 rest_1 Pre_1 launch0 p0 e0 about1 theMethod args0 below0 :=
  ⟨lists_1, trivial, launch0.admits_env _ _ _, launch0.least_env, fairChoices_fair.cas, fairChoices_fair.clock, w_frames, w_args, w_heap, w_applies, trivial, trivial, w_case⟩
end start1
theorem witness_1 : WitnessClaimed_1 := ⟨start1.p0, start1.e0, start1.about1, start1.theMethod, start1.args0, start1.below0, start1.atStart⟩
end Jvm.Pilot.@@N@@
