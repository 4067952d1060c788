import JvmDerived
import JvmDerived.Pilot.@@N@@Statement
import JvmDerived.Pilot.@@N@@Code
set_option linter.unusedVariables false
set_option linter.unusedSimpArgs false
namespace Jvm.RoadKit
open Sem ClassFile Op Lib Jvm.Stand Jvm.Free Jvm.LawKit
section Own
variable {p : Program} {l : Launch} {e : Env} {R : Room} {s : State} {m : MethodId} {args : Array Value} {below : List Frame} {meth : Method} {c : Code} {T : State} {locs : List Loc} {cells slots : Nat}
theorem retI (X : Stand p l e R s m args below meth c T locs cells slots) (hx : p.tables.exec = Jvm.exec) {pc : Nat} {Ls : Array Slot} {z : Int32} {rest : List Value} (hret : meth.sig.returnType = some .int) (hd : decode c.code pc = .ok (.ireturn, 1)) {fs : List Frame}
    (hl : ∀ (f : JFrame) (acts : List Action), f.method = m → f.locked = none → f.entered = [] → (doReturn e (T.setTop f) acts (some (.int z))).1 = T.setFrames fs) : Steps p.tables e below (T.setTop (mkF m pc Ls (.int z :: rest))) (T.setFrames fs) := by
  have hm' : T.vm.method? m = some meth := X.method'
  have hn : narrow .int (.int z) = .int z := rfl
  show Steps p.tables e below (T.setTop { method := m, pc := pc, locals := Ls, stack := _ :: rest, locked := none }) _
  jvm_step X.here [X.here.top, hx, hd, hm', hret, hn]
  first | (intro acts; rw [hl _ acts rfl rfl rfl]) | rw [hl _ _ rfl rfl rfl]
  exact Steps.refl _
/-- the run from st comes to an end of which P holds -/
def own_G (tb : Tables) (e : Env) (below : List Frame) (P : Outcome → State → Prop) (st : State) : Prop :=
  ∃ s₂ o, Steps tb e below st s₂ ∧ s₂.status = .running ∧ Ended s₂ below o ∧ P o s₂
theorem own_st {tb : Tables} {P : Outcome → State → Prop} {st st' : State} (h : ∀ t, Steps tb e below st' t → Steps tb e below st t) (k : own_G tb e below P st') : own_G tb e below P st := by
  obtain ⟨s2, o, h1, h2⟩ := k
  exact ⟨s2, o, h _ h1, h2⟩
def own_P (s : State) (Q : Option Value → Heap → List Loc → Prop) (k n : Nat) (o : Outcome) (U' : State) : Prop :=
  ∃ v L, o = .returned v ∧ Q v U'.heap L ∧ FrameEnd s o U' L k n
theorem own_end {Q : Option Value → Heap → List Loc → Prop} {k n : Nat} {st : State} {v : Option Value} (X : Stand p l e R s m args below meth c T locs cells slots) (hlk : meth.locks = false) (hv : meth.sig.returnType = none → v = none)
    (hst : ∀ fs, (∀ (f : JFrame) (acts : List Action), f.method = m → f.locked = none → f.entered = [] → (doReturn e (T.setTop f) acts v).1 = T.setFrames fs) → Steps p.tables e below st (T.setFrames fs))
    (hQ : Q v T.heap locs) (hk : cells ≤ k) (hn : slots ≤ n) : own_G p.tables e below (own_P s Q k n) st := by
  obtain ⟨fs, hr, hrun, hended, hW, hsame⟩ := X.leave hv hlk
  exact ⟨_, _, hst fs hr, hrun, hended, _, _, rfl, hQ, ⟨_, rfl⟩, hW, hsame.mono hk hn⟩
theorem own_retZ {Q : Option Value → Heap → List Loc → Prop} {k n : Nat} (X : Stand p l e R s m args below meth c T locs cells slots) (hx : p.tables.exec = Jvm.exec) (hlk : meth.locks = false) (hret : meth.sig.returnType = some .boolean) {pc : Nat} {Ls : Array Slot} {z : Int32} {rest : List Value}
    (hd : decode c.code pc = .ok (.ireturn, 1)) (hz : nar .boolean z = z) (hQ : Q (some (.int z)) T.heap locs) (hk : cells ≤ k) (hn : slots ≤ n) : own_G p.tables e below (own_P s Q k n) (T.setTop (mkF m pc Ls (.int z :: rest))) :=
  own_end X hlk (fun h => by rw [hret] at h; cases h) (fun fs hr => retN X hx (t := .boolean) hret (by simp) hd (by rw [hz]; exact hr)) hQ hk hn
theorem own_retI {Q : Option Value → Heap → List Loc → Prop} {k n : Nat} (X : Stand p l e R s m args below meth c T locs cells slots) (hx : p.tables.exec = Jvm.exec) (hlk : meth.locks = false) (hret : meth.sig.returnType = some .int) {pc : Nat} {Ls : Array Slot} {z : Int32} {rest : List Value}
    (hd : decode c.code pc = .ok (.ireturn, 1)) (hQ : Q (some (.int z)) T.heap locs) (hk : cells ≤ k) (hn : slots ≤ n) : own_G p.tables e below (own_P s Q k n) (T.setTop (mkF m pc Ls (.int z :: rest))) :=
  own_end X hlk (fun h => by rw [hret] at h; cases h) (fun fs hr => retI X hx hret hd hr) hQ hk hn
theorem own_retJ {Q : Option Value → Heap → List Loc → Prop} {k n : Nat} (X : Stand p l e R s m args below meth c T locs cells slots) (hx : p.tables.exec = Jvm.exec) (hlk : meth.locks = false) (hret : meth.sig.returnType = some .long) {pc : Nat} {Ls : Array Slot} {z : Int64} {rest : List Value}
    (hd : decode c.code pc = .ok (.lreturn, 1)) (hQ : Q (some (.long z)) T.heap locs) (hk : cells ≤ k) (hn : slots ≤ n) : own_G p.tables e below (own_P s Q k n) (T.setTop (mkF m pc Ls (.long z :: rest))) :=
  own_end X hlk (fun h => by rw [hret] at h; cases h) (fun fs hr => retOut X hx hret rfl (Or.inr (Or.inl ⟨rfl, rfl, _, rfl⟩)) hd hr) hQ hk hn
theorem own_retR {Q : Option Value → Heap → List Loc → Prop} {k n : Nat} {t : FieldType} (X : Stand p l e R s m args below meth c T locs cells slots) (hx : p.tables.exec = Jvm.exec) (hlk : meth.locks = false) (hret : meth.sig.returnType = some t) (ht : t.isReference = true) {pc : Nat} {Ls : Array Slot} {w : Value} {rest : List Value} (hw : w.isRef = true) (hnw : narrow t w = w)
    (hd : decode c.code pc = .ok (.areturn, 1)) (hQ : Q (some w) T.heap locs) (hk : cells ≤ k) (hn : slots ≤ n) : own_G p.tables e below (own_P s Q k n) (T.setTop (mkF m pc Ls (w :: rest))) :=
  own_end X hlk (fun h => by rw [hret] at h; cases h) (fun fs hr => retOut X hx hret hnw (Or.inr (Or.inr (Or.inr (Or.inr ⟨rfl, ht, hw⟩)))) hd hr) hQ hk hn
theorem own_retV {Q : Option Value → Heap → List Loc → Prop} {k n : Nat} (X : Stand p l e R s m args below meth c T locs cells slots) (hx : p.tables.exec = Jvm.exec) (hlk : meth.locks = false) (hret : meth.sig.returnType = none) {pc : Nat} {Ls : Array Slot}
    (hd : decode c.code pc = .ok (.return_, 1)) (hQ : Q none T.heap locs) (hk : cells ≤ k) (hn : slots ≤ n) : own_G p.tables e below (own_P s Q k n) (T.setTop (mkF m pc Ls [])) :=
  own_end X hlk (fun _ => rfl) (fun fs hr => X.returnOut hx hret hd hr) hQ hk hn
theorem own_mono {cells' slots' : Nat} (X : Stand p l e R s m args below meth c T locs cells slots) (h1 : cells ≤ cells') (h2 : slots ≤ slots') : Stand p l e R s m args below meth c T locs cells' slots' :=
  ⟨X.admits, X.cas, X.clock, X.frames, X.room, X.hears, X.method, X.code, X.here, X.tail, X.warmed, X.limits, X.bytes, X.same.mono h1 h2⟩
theorem own_fld {Z : State} {h : Heap} {a : Addr} {C n d : String} {v w : Value} (F : Fld Z h a C n d v) (q : v = w) : Fld Z h a C n d w := q ▸ F
end Own
/-- a boolean as the machine holds it -/
def own_b (P : Prop) [Decidable P] : Int32 := if P then 1 else 0
theorem own_bt {P : Prop} [Decidable P] (h : P) : own_b P = 1 := if_pos h
theorem own_bf {P : Prop} [Decidable P] (h : ¬ P) : own_b P = 0 := if_neg h
theorem own_b1 {P : Prop} [Decidable P] {z : Int32} (hz : z = own_b P) (h : P) : ¬ z = 0 := by rw [hz, own_bt h]; decide
theorem own_b0 {P : Prop} [Decidable P] {z : Int32} (hz : z = own_b P) (h : ¬ P) : z = 0 := by rw [hz, own_bf h]
theorem own_nar {P : Prop} [Decidable P] {z : Int32} (hz : z = own_b P) : nar .boolean z = z := by
  rw [hz]; by_cases h : P
  · rw [own_bt h]; decide
  · rw [own_bf h]; decide
theorem own_fitZ {P : Prop} [Decidable P] {z : Int32} (hz : z = own_b P) : fits .boolean (.int z) = true := by
  rw [hz]; by_cases h : P
  · rw [own_bt h]; decide
  · rw [own_bf h]; decide
theorem own_bc {P Q : Prop} [Decidable P] [Decidable Q] (h : P ↔ Q) : own_b P = own_b Q := by
  by_cases q : Q
  · rw [own_bt q, own_bt (h.mpr q)]
  · rw [own_bf q, own_bf (fun r => q (h.mp r))]
theorem own_bi {P Q : Prop} [Decidable P] [Decidable Q] (h : own_b P = own_b Q) : P ↔ Q := by
  by_cases p : P <;> by_cases q : Q <;> simp_all [own_b]
end Jvm.RoadKit
namespace Jvm.Pilot.@@N@@
open Jvm Jvm.ClassFile Sem Op Lib Jvm.Free Jvm.Stand Jvm.LawKit Jvm.RoadKit Bundle Jvm.Pilot.@@N@@.Jvm.D
theorem pn_0 : plainName "com/example/funnel/funnel/relay/BacklogFoundPinLaw" = true := by first | (simp [plainName, overriddenIn]; done) | decide +kernel
theorem d1_0 : decode method_2_code 0 = .ok (.lload_n 0, 1) := by decide +kernel
theorem d1_1 : decode method_2_code 1 = .ok (.ldc2_w 9, 3) := by decide +kernel
theorem d1_4 : decode method_2_code 4 = .ok (.lcmp, 1) := by decide +kernel
theorem d1_5 : decode method_2_code 5 = .ok (.ifCond .ne 9, 3) := by decide +kernel
theorem d1_8 : decode method_2_code 8 = .ok (.lload_n 0, 1) := by decide +kernel
theorem d1_9 : decode method_2_code 9 = .ok (.lconst 1, 1) := by decide +kernel
theorem d1_10 : decode method_2_code 10 = .ok (.ladd, 1) := by decide +kernel
theorem d1_11 : decode method_2_code 11 = .ok (.goto 4, 3) := by decide +kernel
theorem d1_14 : decode method_2_code 14 = .ok (.lload_n 0, 1) := by decide +kernel
theorem d1_15 : decode method_2_code 15 = .ok (.lreturn, 1) := by decide +kernel
theorem pn_1 : plainName "com/example/funnel/funnel/relay/BacklogFoundPinLaw" = true := by first | (simp [plainName, overriddenIn]; done) | decide +kernel
theorem d2_0 : decode prog_35_method_1_code 0 = .ok (.aload_n 0, 1) := by decide +kernel
theorem d2_1 : decode prog_35_method_1_code 1 = .ok (.invokespecial 3, 3) := by decide +kernel
theorem d2_4 : decode prog_35_method_1_code 4 = .ok (.aload_n 0, 1) := by decide +kernel
theorem d2_5 : decode prog_35_method_1_code 5 = .ok (.ldc2_w 11, 3) := by decide +kernel
theorem d2_8 : decode prog_35_method_1_code 8 = .ok (.putfield 13, 3) := by decide +kernel
theorem d2_11 : decode prog_35_method_1_code 11 = .ok (.aload_n 0, 1) := by decide +kernel
theorem d2_12 : decode prog_35_method_1_code 12 = .ok (.ldc2_w 11, 3) := by decide +kernel
theorem d2_15 : decode prog_35_method_1_code 15 = .ok (.putfield 17, 3) := by decide +kernel
theorem d2_18 : decode prog_35_method_1_code 18 = .ok (.aload_n 0, 1) := by decide +kernel
theorem d2_19 : decode prog_35_method_1_code 19 = .ok (.iload_n 1, 1) := by decide +kernel
theorem d2_20 : decode prog_35_method_1_code 20 = .ok (.newarray .long, 2) := by decide +kernel
theorem d2_22 : decode prog_35_method_1_code 22 = .ok (.putfield 20, 3) := by decide +kernel
theorem d2_25 : decode prog_35_method_1_code 25 = .ok (.return_, 1) := by decide +kernel
theorem pn_2 : plainName "com/example/funnel/funnel/relay/Backlog" = true := by first | (simp [plainName, overriddenIn]; done) | decide +kernel
theorem d4_0 : decode prog_35_method_2_code 0 = .ok (.aload_n 0, 1) := by decide +kernel
theorem d4_1 : decode prog_35_method_2_code 1 = .ok (.getfield 13, 3) := by decide +kernel
theorem d4_4 : decode prog_35_method_2_code 4 = .ok (.ldc2_w 11, 3) := by decide +kernel
theorem d4_7 : decode prog_35_method_2_code 7 = .ok (.lcmp, 1) := by decide +kernel
theorem d4_8 : decode prog_35_method_2_code 8 = .ok (.ifCond .eq 23, 3) := by decide +kernel
theorem d4_11 : decode prog_35_method_2_code 11 = .ok (.aload_n 0, 1) := by decide +kernel
theorem d4_12 : decode prog_35_method_2_code 12 = .ok (.getfield 24, 3) := by decide +kernel
theorem d4_15 : decode prog_35_method_2_code 15 = .ok (.ifCond .ne 12, 3) := by decide +kernel
theorem d4_18 : decode prog_35_method_2_code 18 = .ok (.lload_n 1, 1) := by decide +kernel
theorem d4_19 : decode prog_35_method_2_code 19 = .ok (.aload_n 0, 1) := by decide +kernel
theorem d4_20 : decode prog_35_method_2_code 20 = .ok (.getfield 28, 3) := by decide +kernel
theorem d4_23 : decode prog_35_method_2_code 23 = .ok (.lcmp, 1) := by decide +kernel
theorem d4_24 : decode prog_35_method_2_code 24 = .ok (.ifCond .gt 7, 3) := by decide +kernel
theorem d4_27 : decode prog_35_method_2_code 27 = .ok (.iconst 1, 1) := by decide +kernel
theorem d4_28 : decode prog_35_method_2_code 28 = .ok (.goto 4, 3) := by decide +kernel
theorem d4_31 : decode prog_35_method_2_code 31 = .ok (.iconst 0, 1) := by decide +kernel
theorem d4_32 : decode prog_35_method_2_code 32 = .ok (.istore 5, 2) := by decide +kernel
theorem d4_34 : decode prog_35_method_2_code 34 = .ok (.iload 5, 2) := by decide +kernel
theorem d4_36 : decode prog_35_method_2_code 36 = .ok (.ifCond .ne 8, 3) := by decide +kernel
theorem d4_39 : decode prog_35_method_2_code 39 = .ok (.aload_n 0, 1) := by decide +kernel
theorem d4_40 : decode prog_35_method_2_code 40 = .ok (.lload_n 1, 1) := by decide +kernel
theorem d4_41 : decode prog_35_method_2_code 41 = .ok (.putfield 13, 3) := by decide +kernel
theorem d4_44 : decode prog_35_method_2_code 44 = .ok (.aload_n 0, 1) := by decide +kernel
theorem d4_45 : decode prog_35_method_2_code 45 = .ok (.iconst 0, 1) := by decide +kernel
theorem d4_46 : decode prog_35_method_2_code 46 = .ok (.putfield 24, 3) := by decide +kernel
theorem d4_49 : decode prog_35_method_2_code 49 = .ok (.aload_n 0, 1) := by decide +kernel
theorem d4_50 : decode prog_35_method_2_code 50 = .ok (.lload_n 3, 1) := by decide +kernel
theorem d4_51 : decode prog_35_method_2_code 51 = .ok (.putfield 28, 3) := by decide +kernel
theorem d4_54 : decode prog_35_method_2_code 54 = .ok (.aload_n 0, 1) := by decide +kernel
theorem d4_55 : decode prog_35_method_2_code 55 = .ok (.getfield 17, 3) := by decide +kernel
theorem d4_58 : decode prog_35_method_2_code 58 = .ok (.ldc2_w 11, 3) := by decide +kernel
theorem d4_61 : decode prog_35_method_2_code 61 = .ok (.lcmp, 1) := by decide +kernel
theorem d4_62 : decode prog_35_method_2_code 62 = .ok (.ifCond .ne 8, 3) := by decide +kernel
theorem d4_65 : decode prog_35_method_2_code 65 = .ok (.aload_n 0, 1) := by decide +kernel
theorem d4_66 : decode prog_35_method_2_code 66 = .ok (.lload_n 3, 1) := by decide +kernel
theorem d4_67 : decode prog_35_method_2_code 67 = .ok (.putfield 17, 3) := by decide +kernel
theorem d4_70 : decode prog_35_method_2_code 70 = .ok (.return_, 1) := by decide +kernel
theorem pn_4 : plainName "com/example/funnel/funnel/relay/Backlog" = true := by first | (simp [plainName, overriddenIn]; done) | decide +kernel
theorem d5_0 : decode prog_35_method_5_code 0 = .ok (.aload_n 0, 1) := by decide +kernel
theorem d5_1 : decode prog_35_method_5_code 1 = .ok (.getfield 31, 3) := by decide +kernel
theorem d5_4 : decode prog_35_method_5_code 4 = .ok (.aload_n 0, 1) := by decide +kernel
theorem d5_5 : decode prog_35_method_5_code 5 = .ok (.getfield 20, 3) := by decide +kernel
theorem d5_8 : decode prog_35_method_5_code 8 = .ok (.arraylength, 1) := by decide +kernel
theorem d5_9 : decode prog_35_method_5_code 9 = .ok (.i2l, 1) := by decide +kernel
theorem d5_10 : decode prog_35_method_5_code 10 = .ok (.lrem, 1) := by decide +kernel
theorem d5_11 : decode prog_35_method_5_code 11 = .ok (.l2i, 1) := by decide +kernel
theorem d5_12 : decode prog_35_method_5_code 12 = .ok (.istore 5, 2) := by decide +kernel
theorem d5_14 : decode prog_35_method_5_code 14 = .ok (.aload_n 0, 1) := by decide +kernel
theorem d5_15 : decode prog_35_method_5_code 15 = .ok (.getfield 31, 3) := by decide +kernel
theorem d5_18 : decode prog_35_method_5_code 18 = .ok (.aload_n 0, 1) := by decide +kernel
theorem d5_19 : decode prog_35_method_5_code 19 = .ok (.getfield 20, 3) := by decide +kernel
theorem d5_22 : decode prog_35_method_5_code 22 = .ok (.arraylength, 1) := by decide +kernel
theorem d5_23 : decode prog_35_method_5_code 23 = .ok (.i2l, 1) := by decide +kernel
theorem d5_24 : decode prog_35_method_5_code 24 = .ok (.lcmp, 1) := by decide +kernel
theorem d5_25 : decode prog_35_method_5_code 25 = .ok (.ifCond .ge 9, 3) := by decide +kernel
theorem d5_28 : decode prog_35_method_5_code 28 = .ok (.ldc2_w 11, 3) := by decide +kernel
theorem d5_31 : decode prog_35_method_5_code 31 = .ok (.goto 10, 3) := by decide +kernel
theorem d5_41 : decode prog_35_method_5_code 41 = .ok (.lstore 6, 2) := by decide +kernel
theorem d5_43 : decode prog_35_method_5_code 43 = .ok (.aload_n 0, 1) := by decide +kernel
theorem d5_44 : decode prog_35_method_5_code 44 = .ok (.getfield 20, 3) := by decide +kernel
theorem d5_47 : decode prog_35_method_5_code 47 = .ok (.iload 5, 2) := by decide +kernel
theorem d5_49 : decode prog_35_method_5_code 49 = .ok (.lload_n 1, 1) := by decide +kernel
theorem d5_50 : decode prog_35_method_5_code 50 = .ok (.lastore, 1) := by decide +kernel
theorem d5_51 : decode prog_35_method_5_code 51 = .ok (.aload_n 0, 1) := by decide +kernel
theorem d5_52 : decode prog_35_method_5_code 52 = .ok (.dup, 1) := by decide +kernel
theorem d5_53 : decode prog_35_method_5_code 53 = .ok (.getfield 31, 3) := by decide +kernel
theorem d5_56 : decode prog_35_method_5_code 56 = .ok (.lconst 1, 1) := by decide +kernel
theorem d5_57 : decode prog_35_method_5_code 57 = .ok (.ladd, 1) := by decide +kernel
theorem d5_58 : decode prog_35_method_5_code 58 = .ok (.putfield 31, 3) := by decide +kernel
theorem d5_61 : decode prog_35_method_5_code 61 = .ok (.aload_n 0, 1) := by decide +kernel
theorem d5_62 : decode prog_35_method_5_code 62 = .ok (.getfield 17, 3) := by decide +kernel
theorem d5_65 : decode prog_35_method_5_code 65 = .ok (.ldc2_w 11, 3) := by decide +kernel
theorem d5_68 : decode prog_35_method_5_code 68 = .ok (.lcmp, 1) := by decide +kernel
theorem d5_69 : decode prog_35_method_5_code 69 = .ok (.ifCond .ne 7, 3) := by decide +kernel
theorem d5_72 : decode prog_35_method_5_code 72 = .ok (.lload_n 3, 1) := by decide +kernel
theorem d5_73 : decode prog_35_method_5_code 73 = .ok (.goto 7, 3) := by decide +kernel
theorem d5_76 : decode prog_35_method_5_code 76 = .ok (.aload_n 0, 1) := by decide +kernel
theorem d5_77 : decode prog_35_method_5_code 77 = .ok (.getfield 17, 3) := by decide +kernel
theorem d5_80 : decode prog_35_method_5_code 80 = .ok (.lstore 8, 2) := by decide +kernel
theorem d5_82 : decode prog_35_method_5_code 82 = .ok (.aload_n 0, 1) := by decide +kernel
theorem d5_83 : decode prog_35_method_5_code 83 = .ok (.ldc2_w 11, 3) := by decide +kernel
theorem d5_86 : decode prog_35_method_5_code 86 = .ok (.putfield 17, 3) := by decide +kernel
theorem d5_89 : decode prog_35_method_5_code 89 = .ok (.new 34, 3) := by decide +kernel
theorem d5_92 : decode prog_35_method_5_code 92 = .ok (.dup, 1) := by decide +kernel
theorem d5_93 : decode prog_35_method_5_code 93 = .ok (.aload_n 0, 1) := by decide +kernel
theorem d5_94 : decode prog_35_method_5_code 94 = .ok (.getfield 13, 3) := by decide +kernel
theorem d5_97 : decode prog_35_method_5_code 97 = .ok (.lload 6, 2) := by decide +kernel
theorem d5_99 : decode prog_35_method_5_code 99 = .ok (.invokestatic 36, 3) := by decide +kernel
theorem d5_102 : decode prog_35_method_5_code 102 = .ok (.lload 8, 2) := by decide +kernel
theorem d5_104 : decode prog_35_method_5_code 104 = .ok (.invokespecial 42, 3) := by decide +kernel
theorem d5_107 : decode prog_35_method_5_code 107 = .ok (.areturn, 1) := by decide +kernel
theorem pn_5 : plainName "com/example/funnel/funnel/relay/Backlog" = true := by first | (simp [plainName, overriddenIn]; done) | decide +kernel
theorem d6_0 : decode jdk_29_method_66_code 0 = .ok (.lload_n 0, 1) := by decide +kernel
theorem d6_1 : decode jdk_29_method_66_code 1 = .ok (.lload_n 2, 1) := by decide +kernel
theorem d6_2 : decode jdk_29_method_66_code 2 = .ok (.lcmp, 1) := by decide +kernel
theorem d6_3 : decode jdk_29_method_66_code 3 = .ok (.ifCond .lt 7, 3) := by decide +kernel
theorem d6_6 : decode jdk_29_method_66_code 6 = .ok (.lload_n 0, 1) := by decide +kernel
theorem d6_7 : decode jdk_29_method_66_code 7 = .ok (.goto 4, 3) := by decide +kernel
theorem d6_10 : decode jdk_29_method_66_code 10 = .ok (.lload_n 2, 1) := by decide +kernel
theorem d6_11 : decode jdk_29_method_66_code 11 = .ok (.lreturn, 1) := by decide +kernel
theorem d7_0 : decode prog_36_method_1_code 0 = .ok (.aload_n 0, 1) := by decide +kernel
theorem d7_1 : decode prog_36_method_1_code 1 = .ok (.invokespecial 1, 3) := by decide +kernel
theorem d7_4 : decode prog_36_method_1_code 4 = .ok (.aload_n 0, 1) := by decide +kernel
theorem d7_5 : decode prog_36_method_1_code 5 = .ok (.lload_n 1, 1) := by decide +kernel
theorem d7_6 : decode prog_36_method_1_code 6 = .ok (.putfield 7, 3) := by decide +kernel
theorem d7_9 : decode prog_36_method_1_code 9 = .ok (.aload_n 0, 1) := by decide +kernel
theorem d7_10 : decode prog_36_method_1_code 10 = .ok (.lload_n 3, 1) := by decide +kernel
theorem d7_11 : decode prog_36_method_1_code 11 = .ok (.putfield 13, 3) := by decide +kernel
theorem d7_14 : decode prog_36_method_1_code 14 = .ok (.return_, 1) := by decide +kernel
theorem pn_7 : plainName "com/example/funnel/funnel/relay/Backlog$Wait" = true := by first | (simp [plainName, overriddenIn]; done) | decide +kernel
theorem d8_0 : decode jdk_30_method_1_code 0 = .ok (.aload_n 0, 1) := by decide +kernel
theorem d8_1 : decode jdk_30_method_1_code 1 = .ok (.invokespecial 1, 3) := by decide +kernel
theorem d8_4 : decode jdk_30_method_1_code 4 = .ok (.return_, 1) := by decide +kernel
theorem pn_8 : plainName "java/lang/Record" = true := by first | (simp [plainName, overriddenIn]; done) | decide +kernel
theorem d9_0 : decode prog_36_method_5_code 0 = .ok (.aload_n 0, 1) := by decide +kernel
theorem d9_1 : decode prog_36_method_5_code 1 = .ok (.getfield 7, 3) := by decide +kernel
theorem d9_4 : decode prog_36_method_5_code 4 = .ok (.lreturn, 1) := by decide +kernel
theorem pn_9 : plainName "com/example/funnel/funnel/relay/Backlog$Wait" = true := by first | (simp [plainName, overriddenIn]; done) | decide +kernel
theorem d10_0 : decode prog_36_method_6_code 0 = .ok (.aload_n 0, 1) := by decide +kernel
theorem d10_1 : decode prog_36_method_6_code 1 = .ok (.getfield 13, 3) := by decide +kernel
theorem d10_4 : decode prog_36_method_6_code 4 = .ok (.lreturn, 1) := by decide +kernel
theorem pn_10 : plainName "com/example/funnel/funnel/relay/Backlog$Wait" = true := by first | (simp [plainName, overriddenIn]; done) | decide +kernel
theorem d11_0 : decode prog_35_method_3_code 0 = .ok (.aload_n 0, 1) := by decide +kernel
theorem d11_1 : decode prog_35_method_3_code 1 = .ok (.iconst 1, 1) := by decide +kernel
theorem d11_2 : decode prog_35_method_3_code 2 = .ok (.putfield 24, 3) := by decide +kernel
theorem d11_5 : decode prog_35_method_3_code 5 = .ok (.return_, 1) := by decide +kernel
theorem pn_11 : plainName "com/example/funnel/funnel/relay/Backlog" = true := by first | (simp [plainName, overriddenIn]; done) | decide +kernel
theorem d12_0 : decode prog_35_method_4_code 0 = .ok (.aload_n 0, 1) := by decide +kernel
theorem d12_1 : decode prog_35_method_4_code 1 = .ok (.ldc2_w 11, 3) := by decide +kernel
theorem d12_4 : decode prog_35_method_4_code 4 = .ok (.putfield 13, 3) := by decide +kernel
theorem d12_7 : decode prog_35_method_4_code 7 = .ok (.aload_n 0, 1) := by decide +kernel
theorem d12_8 : decode prog_35_method_4_code 8 = .ok (.ldc2_w 11, 3) := by decide +kernel
theorem d12_11 : decode prog_35_method_4_code 11 = .ok (.putfield 17, 3) := by decide +kernel
theorem d12_14 : decode prog_35_method_4_code 14 = .ok (.return_, 1) := by decide +kernel
theorem pn_12 : plainName "com/example/funnel/funnel/relay/Backlog" = true := by first | (simp [plainName, overriddenIn]; done) | decide +kernel
theorem pd_0 : parseMethodDescriptor "()V" = some ⟨[], none⟩ := by decide +kernel
theorem pd_1 : parseMethodDescriptor "(JJ)J" = some ⟨[.long, .long], some .long⟩ := by decide +kernel
theorem pd_2 : parseMethodDescriptor "(JJ)V" = some ⟨[.long, .long], none⟩ := by decide +kernel
theorem pd_3 : parseMethodDescriptor "(J)J" = some ⟨[.long], some .long⟩ := by decide +kernel
theorem pd_4 : parseMethodDescriptor "(I)V" = some ⟨[.int], none⟩ := by decide +kernel
theorem pd_5 : parseMethodDescriptor "(JJ)Lcom/example/funnel/funnel/relay/Backlog$Wait;" = some ⟨[.long, .long], some (.object "com/example/funnel/funnel/relay/Backlog$Wait")⟩ := by decide +kernel
theorem pd_6 : parseMethodDescriptor "()J" = some ⟨[], some .long⟩ := by decide +kernel
theorem ef_1 (m : MethodId) (x0 : Int64) : entryFrame m #[(.long x0)] 2 = mkF m 0 #[.val (.long x0), .second] [] := by first | (simp [entryFrame, mkF, argsToLocals, Value.category]; done) | rfl
theorem ef_6 (m : MethodId) (x0 : Int64) (x1 : Int64) : entryFrame m #[(.long x0), (.long x1)] 4 = mkF m 0 #[.val (.long x0), .second, .val (.long x1), .second] [] := by first | (simp [entryFrame, mkF, argsToLocals, Value.category]; done) | rfl
theorem ef_8 (m : MethodId) (x0 : Addr) : entryFrame m #[(.ref x0)] 1 = mkF m 0 #[.val (.ref x0)] [] := by first | (simp [entryFrame, mkF, argsToLocals, Value.category]; done) | rfl
theorem ef_7 (m : MethodId) (x0 : Addr) (x1 : Int64) (x2 : Int64) : entryFrame m #[(.ref x0), (.long x1), (.long x2)] 5 = mkF m 0 #[.val (.ref x0), .val (.long x1), .second, .val (.long x2), .second] [] := by first | (simp [entryFrame, mkF, argsToLocals, Value.category]; done) | rfl
theorem ef_2 (m : MethodId) (x0 : Addr) : entryFrame m #[(.ref x0), (.int (1 : Int32))] 2 = mkF m 0 #[.val (.ref x0), .val (.int (1 : Int32))] [] := by first | (simp [entryFrame, mkF, argsToLocals, Value.category]; done) | rfl
theorem ef_4 (m : MethodId) (x0 : Addr) (x1 : Int64) (x2 : Int64) : entryFrame m #[(.ref x0), (.long x1), (.long x2)] 6 = mkF m 0 #[.val (.ref x0), .val (.long x1), .second, .val (.long x2), .second, .unset] [] := by first | (simp [entryFrame, mkF, argsToLocals, Value.category]; done) | rfl
theorem ef_11 (m : MethodId) (x0 : Addr) : entryFrame m #[(.ref x0)] 1 = mkF m 0 #[.val (.ref x0)] [] := by first | (simp [entryFrame, mkF, argsToLocals, Value.category]; done) | rfl
theorem ef_12 (m : MethodId) (x0 : Addr) : entryFrame m #[(.ref x0)] 1 = mkF m 0 #[.val (.ref x0)] [] := by first | (simp [entryFrame, mkF, argsToLocals, Value.category]; done) | rfl
theorem ef_5 (m : MethodId) (x0 : Addr) (x1 : Int64) (x2 : Int64) : entryFrame m #[(.ref x0), (.long x1), (.long x2)] 10 = mkF m 0 #[.val (.ref x0), .val (.long x1), .second, .val (.long x2), .second, .unset, .unset, .unset, .unset, .unset] [] := by first | (simp [entryFrame, mkF, argsToLocals, Value.category]; done) | rfl
theorem ef_9 (m : MethodId) (x0 : Addr) : entryFrame m #[(.ref x0)] 1 = mkF m 0 #[.val (.ref x0)] [] := by first | (simp [entryFrame, mkF, argsToLocals, Value.category]; done) | rfl
theorem ef_10 (m : MethodId) (x0 : Addr) : entryFrame m #[(.ref x0)] 1 = mkF m 0 #[.val (.ref x0)] [] := by first | (simp [entryFrame, mkF, argsToLocals, Value.category]; done) | rfl
theorem ef_0 (m : MethodId) (x0 : Int32) (x1 : Int64) (x2 : Int64) (x3 : Int64) (x4 : Int64) (x5 : Int64) : entryFrame m #[(.int x0), (.long x1), (.long x2), (.long x3), (.long x4), (.long x5)] maxLocals = mkF m 0 #[.val (.int x0), .val (.long x1), .second, .val (.long x2), .second, .val (.long x3), .second, .val (.long x4), .second, .val (.long x5), .second, .unset, .unset, .unset, .unset, .unset, .unset, .unset, .unset, .unset, .unset, .unset, .unset, .unset, .unset, .unset, .unset, .unset, .unset, .unset, .unset, .unset] [] := by first | (simp [entryFrame, mkF, argsToLocals, Value.category, maxLocals]; done) | rfl
theorem own_t {x r : Int64} (h : r = (if x = (-9223372036854775808 : Int64) then (x + (1 : Int64)) else x)) : ¬ r = (-9223372036854775808 : Int64) := by
  rw [h]; split
  · next q => rw [q]; decide
  · next q => exact q
theorem own_mn (x : Int64) : ¬ x < (-9223372036854775808 : Int64) := by
  have h := rng64 x
  have c : (-9223372036854775808 : Int64).toInt = -9223372036854775808 := rfl
  rw [Int64.lt_iff_toInt_lt, c]; omega
theorem own_e {i0 : Int32} {i1 i2 i3 i4 i5 : Int64} {r1 : Int64} {r2 : Int64} {r3 : Int64} {r4 : Int64} {r5 : Int64} {z8 : Int32} {z11 : Int32} {z14 : Int32} {z17 : Int32} {z48 : Int64} {z50 : Int64} {z54 : Int64} {z66 : Int32} {z76 : Int64} {z78 : Int64} {v96 : Int64} {v97 : Int64} {z105 : Int64} {z107 : Int64} {z111 : Int64} {v126 : Int64} {v127 : Int64} {z133 : Int32} {z136 : Int64} {z139 : Int64} {z142 : Int64} {r143 : Int64}
    (hr1 : r1 = (if i1 = (-9223372036854775808 : Int64) then (i1 + (1 : Int64)) else i1))
    (hr2 : r2 = (if i2 = (-9223372036854775808 : Int64) then (i2 + (1 : Int64)) else i2))
    (hr3 : r3 = (if i3 = (-9223372036854775808 : Int64) then (i3 + (1 : Int64)) else i3))
    (hr4 : r4 = (if i4 = (-9223372036854775808 : Int64) then (i4 + (1 : Int64)) else i4))
    (hr5 : r5 = (if i5 = (-9223372036854775808 : Int64) then (i5 + (1 : Int64)) else i5))
    (hz8 : z8 = (own_b (¬ ((i0 &&& (1 : Int32)) = (0 : Int32)))))
    (hz11 : z11 = (own_b (¬ ((i0 &&& (2 : Int32)) = (0 : Int32)))))
    (hz14 : z14 = (own_b (¬ ((i0 &&& (4 : Int32)) = (0 : Int32)))))
    (hz17 : z17 = (own_b (¬ ((i0 &&& (8 : Int32)) = (0 : Int32)))))
    (hz48 : z48 = (if ¬ ((i0 &&& (1 : Int32)) = (0 : Int32)) then ((if ¬ ((-9223372036854775808 : Int64) = (-9223372036854775808 : Int64)) ∧ (¬ ((0 : Int32) = (0 : Int32)) ∨ (¬ ((0 : Int64) < r1))) then (-9223372036854775808 : Int64) else r1)) else (-9223372036854775808 : Int64)))
    (hz50 : z50 = (if ¬ ((i0 &&& (1 : Int32)) = (0 : Int32)) then ((if (-9223372036854775808 : Int64) = (-9223372036854775808 : Int64) then r2 else (-9223372036854775808 : Int64))) else (-9223372036854775808 : Int64)))
    (hz54 : z54 = (if ¬ ((i0 &&& (1 : Int32)) = (0 : Int32)) then r2 else (0 : Int64)))
    (hz66 : z66 = (own_b (¬ ((i0 &&& (2 : Int32)) = (0 : Int32)))))
    (hz76 : z76 = (if ¬ ((i0 &&& (4 : Int32)) = (0 : Int32)) then (-9223372036854775808 : Int64) else z48))
    (hz78 : z78 = (if ¬ ((i0 &&& (4 : Int32)) = (0 : Int32)) then (-9223372036854775808 : Int64) else z50))
    (hv96 : v96 = (if ¬ (z76 = (-9223372036854775808 : Int64)) ∧ (¬ (z66 = (0 : Int32)) ∨ (¬ (z54 < r3))) then z76 else r3))
    (hv97 : v97 = (if z78 = (-9223372036854775808 : Int64) then r4 else z78))
    (hz105 : z105 = (if ¬ ((i0 &&& (8 : Int32)) = (0 : Int32)) then ((if ¬ (v96 = (-9223372036854775808 : Int64)) ∧ (¬ ((0 : Int32) = (0 : Int32)) ∨ (¬ (r4 < r5))) then v96 else r5)) else v96))
    (hz107 : z107 = (if ¬ ((i0 &&& (8 : Int32)) = (0 : Int32)) then ((if v97 = (-9223372036854775808 : Int64) then r2 else v97)) else v97))
    (hz111 : z111 = (if ¬ ((i0 &&& (8 : Int32)) = (0 : Int32)) then r2 else r4))
    (hv126 : v126 = (if z105 < (-9223372036854775808 : Int64) then (-9223372036854775808 : Int64) else z105))
    (hv127 : v127 = (if z107 = (-9223372036854775808 : Int64) then (7 : Int64) else z107))
    (hz133 : z133 = (own_b ((¬ ((i0 &&& (1 : Int32)) = (0 : Int32))) ∧ (¬ (¬ ((i0 &&& (4 : Int32)) = (0 : Int32))) ∧ ((¬ ((i0 &&& (2 : Int32)) = (0 : Int32))) ∨ (¬ (r2 < r3)))))))
    (hz136 : z136 = (if (¬ ((i0 &&& (1 : Int32)) = (0 : Int32))) ∧ (¬ (¬ ((i0 &&& (4 : Int32)) = (0 : Int32))) ∧ ((¬ ((i0 &&& (2 : Int32)) = (0 : Int32))) ∨ (¬ (r2 < r3)))) then r1 else r3))
    (hz139 : z139 = (if ¬ ((i0 &&& (8 : Int32)) = (0 : Int32)) then (if r4 < r5 then r5 else z136) else z136))
    (hz142 : z142 = (if ¬ ((i0 &&& (1 : Int32)) = (0 : Int32)) then (if ¬ ((i0 &&& (4 : Int32)) = (0 : Int32)) then r4 else r2) else r4))
    (hr143 : r143 = v126) : r143 = z139 := by
  have t1 := own_t hr1
  have t2 := own_t hr2
  have t3 := own_t hr3
  have t4 := own_t hr4
  have t5 := own_t hr5
  clear hr1 hr2 hr3 hr4 hr5
  have hm := own_mn
  by_cases a : (i0 &&& (1 : Int32)) = (0 : Int32) <;> by_cases b : (i0 &&& (2 : Int32)) = (0 : Int32) <;> by_cases c : (i0 &&& (4 : Int32)) = (0 : Int32) <;> by_cases d : (i0 &&& (8 : Int32)) = (0 : Int32) <;> by_cases e1 : r2 < r3 <;> by_cases e2 : r4 < r5 <;> simp_all [own_b]
theorem own_s {i0 : Int32} {i1 i2 i3 i4 i5 : Int64} {r1 : Int64} {r2 : Int64} {r3 : Int64} {r4 : Int64} {r5 : Int64} {z8 : Int32} {z11 : Int32} {z14 : Int32} {z17 : Int32} {z48 : Int64} {z50 : Int64} {z54 : Int64} {z66 : Int32} {z76 : Int64} {z78 : Int64} {v96 : Int64} {v97 : Int64} {z105 : Int64} {z107 : Int64} {z111 : Int64} {v126 : Int64} {v127 : Int64} {z133 : Int32} {z136 : Int64} {z139 : Int64} {z142 : Int64} {r143 : Int64} {r145 : Int64}
    (hr1 : r1 = (if i1 = (-9223372036854775808 : Int64) then (i1 + (1 : Int64)) else i1))
    (hr2 : r2 = (if i2 = (-9223372036854775808 : Int64) then (i2 + (1 : Int64)) else i2))
    (hr3 : r3 = (if i3 = (-9223372036854775808 : Int64) then (i3 + (1 : Int64)) else i3))
    (hr4 : r4 = (if i4 = (-9223372036854775808 : Int64) then (i4 + (1 : Int64)) else i4))
    (hr5 : r5 = (if i5 = (-9223372036854775808 : Int64) then (i5 + (1 : Int64)) else i5))
    (hz8 : z8 = (own_b (¬ ((i0 &&& (1 : Int32)) = (0 : Int32)))))
    (hz11 : z11 = (own_b (¬ ((i0 &&& (2 : Int32)) = (0 : Int32)))))
    (hz14 : z14 = (own_b (¬ ((i0 &&& (4 : Int32)) = (0 : Int32)))))
    (hz17 : z17 = (own_b (¬ ((i0 &&& (8 : Int32)) = (0 : Int32)))))
    (hz48 : z48 = (if ¬ ((i0 &&& (1 : Int32)) = (0 : Int32)) then ((if ¬ ((-9223372036854775808 : Int64) = (-9223372036854775808 : Int64)) ∧ (¬ ((0 : Int32) = (0 : Int32)) ∨ (¬ ((0 : Int64) < r1))) then (-9223372036854775808 : Int64) else r1)) else (-9223372036854775808 : Int64)))
    (hz50 : z50 = (if ¬ ((i0 &&& (1 : Int32)) = (0 : Int32)) then ((if (-9223372036854775808 : Int64) = (-9223372036854775808 : Int64) then r2 else (-9223372036854775808 : Int64))) else (-9223372036854775808 : Int64)))
    (hz54 : z54 = (if ¬ ((i0 &&& (1 : Int32)) = (0 : Int32)) then r2 else (0 : Int64)))
    (hz66 : z66 = (own_b (¬ ((i0 &&& (2 : Int32)) = (0 : Int32)))))
    (hz76 : z76 = (if ¬ ((i0 &&& (4 : Int32)) = (0 : Int32)) then (-9223372036854775808 : Int64) else z48))
    (hz78 : z78 = (if ¬ ((i0 &&& (4 : Int32)) = (0 : Int32)) then (-9223372036854775808 : Int64) else z50))
    (hv96 : v96 = (if ¬ (z76 = (-9223372036854775808 : Int64)) ∧ (¬ (z66 = (0 : Int32)) ∨ (¬ (z54 < r3))) then z76 else r3))
    (hv97 : v97 = (if z78 = (-9223372036854775808 : Int64) then r4 else z78))
    (hz105 : z105 = (if ¬ ((i0 &&& (8 : Int32)) = (0 : Int32)) then ((if ¬ (v96 = (-9223372036854775808 : Int64)) ∧ (¬ ((0 : Int32) = (0 : Int32)) ∨ (¬ (r4 < r5))) then v96 else r5)) else v96))
    (hz107 : z107 = (if ¬ ((i0 &&& (8 : Int32)) = (0 : Int32)) then ((if v97 = (-9223372036854775808 : Int64) then r2 else v97)) else v97))
    (hz111 : z111 = (if ¬ ((i0 &&& (8 : Int32)) = (0 : Int32)) then r2 else r4))
    (hv126 : v126 = (if z105 < (-9223372036854775808 : Int64) then (-9223372036854775808 : Int64) else z105))
    (hv127 : v127 = (if z107 = (-9223372036854775808 : Int64) then (7 : Int64) else z107))
    (hz133 : z133 = (own_b ((¬ ((i0 &&& (1 : Int32)) = (0 : Int32))) ∧ (¬ (¬ ((i0 &&& (4 : Int32)) = (0 : Int32))) ∧ ((¬ ((i0 &&& (2 : Int32)) = (0 : Int32))) ∨ (¬ (r2 < r3)))))))
    (hz136 : z136 = (if (¬ ((i0 &&& (1 : Int32)) = (0 : Int32))) ∧ (¬ (¬ ((i0 &&& (4 : Int32)) = (0 : Int32))) ∧ ((¬ ((i0 &&& (2 : Int32)) = (0 : Int32))) ∨ (¬ (r2 < r3)))) then r1 else r3))
    (hz139 : z139 = (if ¬ ((i0 &&& (8 : Int32)) = (0 : Int32)) then (if r4 < r5 then r5 else z136) else z136))
    (hz142 : z142 = (if ¬ ((i0 &&& (1 : Int32)) = (0 : Int32)) then (if ¬ ((i0 &&& (4 : Int32)) = (0 : Int32)) then r4 else r2) else r4))
    (hr143 : r143 = v126)
    (hr145 : r145 = v127) : r145 = z142 := by
  have t1 := own_t hr1
  have t2 := own_t hr2
  have t3 := own_t hr3
  have t4 := own_t hr4
  have t5 := own_t hr5
  clear hr1 hr2 hr3 hr4 hr5
  have hm := own_mn
  by_cases a : (i0 &&& (1 : Int32)) = (0 : Int32) <;> by_cases b : (i0 &&& (2 : Int32)) = (0 : Int32) <;> by_cases c : (i0 &&& (4 : Int32)) = (0 : Int32) <;> by_cases d : (i0 &&& (8 : Int32)) = (0 : Int32) <;> by_cases e1 : r2 < r3 <;> by_cases e2 : r4 < r5 <;> simp_all [own_b]
def Q1 (Z : State) (q1 : Int64) (h0 : Heap) (n0 : Nat) (v : Option Value) (h : Heap) (L : List Loc) : Prop := (∃ z : Int64, v = some (.long z) ∧ z = (if q1 = (-9223372036854775808 : Int64) then (q1 + (1 : Int64)) else q1)) ∧ Fr n0 L ∧ h = h0
set_option maxRecDepth 65536 in
set_option maxHeartbeats 40000000 in
theorem rm1 (l : Launch) (Z : State) (a0 : Array Value) (hw : ∀ d ∈ tables_1, d.before a0 Z = true) (ws : List Jvm.Cond) (q1 : Int64) (h0 : Heap) (n0 : Nat) (Z0 : n0 ≤ h0.size) :
    MetFree l (⟨"com/example/funnel/funnel/relay/BacklogFoundPinLaw", "t", "(J)J"⟩ : MethodName) (head1 (Jvm.Cond.code (⟨"com/example/funnel/funnel/relay/BacklogFoundPinLaw", "t", "(J)J"⟩ : MethodName) method_2_code 2 (some .long) :: ws) ({ frames := 0, cells := 0, slots := 0, locals := 0 } : Room)) (fun a U => a = #[(.long q1)] ∧ Z.Warmed39 U.vm ∧ U.heap = h0) (fun _ _ _ _ _ => True) (fun _ U o U' => ∃ v L, o = .returned v ∧ Q1 Z q1 h0 n0 v U'.heap L ∧ FrameEnd U o U' L ({ frames := 0, cells := 0, slots := 0, locals := 0 } : Room).cells ({ frames := 0, cells := 0, slots := 0, locals := 0 } : Room).slots) := by
  refine MetFree.of_bodySF (plainFor_of_name pn_1) hisR ?_
  intro p e s m args below meth c s₁ Bd hml0 hP hK
  obtain ⟨rfl, hZ, hh⟩ := hP
  have hx := Bd.exec
  have hby := Bd.bytes
  have hlk := BodyLoose.notSynchronized Bd
  have hml : c.maxLocals = 2 := hml0
  have hown : s.vm.findClass "com/example/funnel/funnel/relay/BacklogFoundPinLaw" = some m.cls := findClass_of_methodNamed Bd.named
  have hnm := (name_of_methodNamed Bd.named Bd.method).1
  have X0 : Stand p l e ({ frames := 0, cells := 0, slots := 0, locals := 0 } : Room) s m #[(.long q1)] below meth c s₁ [] 0 0 := Stand.of_body Bd
  have e0 : s₁.heap = h0 := by rw [← hh, Bd.state]; rfl
  have N0 := Fr.nil n0
  have K0 := Keep.refl h0 []
  show own_G p.tables e below (own_P s (Q1 Z q1 h0 n0) 0 0) (s₁.setTop (entryFrame m #[(.long q1)] 2))
  refine own_st (fun t k => castTop (ef_1 m q1) k) ?_
  show own_G p.tables e below _ (s₁.setTop (mkF m 0 #[.val (.long q1), .second] []))
  refine own_st (fun _ k => XS.lloadN X0.here hx rfl (hb hby d1_0) rfl k) ?_
  show own_G p.tables e below _ (s₁.setTop (mkF m 1 #[.val (.long q1), .second] [(.long q1)]))
  refine own_st (X0.ldc2Long hx hown (mvT hZ (hw _ (List.mem_of_getElem? (i := 4) rfl))) (g := (mkF m 1 #[.val (.long q1), .second] [(.long q1)])) rfl (hb hby d1_1)) ?_
  show own_G p.tables e below _ (s₁.setTop (mkF m 4 #[.val (.long q1), .second] [(.long (-9223372036854775808 : Int64)), (.long q1)]))
  refine own_st (fun _ k => XS.lcmp X0.here hx rfl (hb hby d1_4) rfl k) ?_
  show own_G p.tables e below _ (s₁.setTop (mkF m 5 #[.val (.long q1), .second] [(.int (lcmpW q1 (-9223372036854775808 : Int64)))]))
  have J15_2 : ∀ (z3 : Int64) (hz3 : z3 = (if q1 = (-9223372036854775808 : Int64) then (q1 + (1 : Int64)) else q1)), own_G p.tables e below (own_P s (Q1 Z q1 h0 n0) 0 0) (s₁.setTop (mkF m 15 #[.val (.long q1), .second] [(.long z3)])) := by
    intro z3 hz3
    exact own_retJ X0 hx hlk Bd.returns (hb hby d1_15) (by rw [e0]; exact ⟨⟨_, rfl, (by subst hz3; exact rfl)⟩, N0, rfl⟩) (by decide) (by decide)
  by_cases hc5_1 : q1 = (-9223372036854775808 : Int64)
  · refine own_st (fun _ k => XS.ifNo X0.here hx rfl (hb hby d1_5) rfl ((if0 _ _).trans (teq ((lw_eq q1 (-9223372036854775808 : Int64)).mpr hc5_1)).2) k) ?_
    show own_G p.tables e below _ (s₁.setTop (mkF m 8 #[.val (.long q1), .second] []))
    refine own_st (fun _ k => XS.lloadN X0.here hx rfl (hb hby d1_8) rfl k) ?_
    show own_G p.tables e below _ (s₁.setTop (mkF m 9 #[.val (.long q1), .second] [(.long q1)]))
    refine own_st (fun _ k => XS.lconst X0.here hx rfl (hb hby d1_9) k) ?_
    show own_G p.tables e below _ (s₁.setTop (mkF m 10 #[.val (.long q1), .second] [(.long (1 : Int64)), (.long q1)]))
    refine own_st (fun _ k => XS.ladd X0.here hx rfl (hb hby d1_10) rfl k) ?_
    show own_G p.tables e below _ (s₁.setTop (mkF m 11 #[.val (.long q1), .second] [(.long (q1 + (1 : Int64)))]))
    refine own_st (fun _ k => XS.goto X0.here hx rfl (pc0 := 11) (pc' := 15) rfl (hb hby d1_11) (by decide) (by decide) k) ?_
    show own_G p.tables e below _ (s₁.setTop (mkF m 15 #[.val (.long q1), .second] [(.long (q1 + (1 : Int64)))]))
    exact J15_2 (q1 + (1 : Int64)) ((if_pos hc5_1).symm)
  · refine own_st (fun _ k => XS.ifYes X0.here hx rfl (pc0 := 5) (pc' := 14) rfl (hb hby d1_5) rfl ((if0 _ _).trans (feq (fun q => hc5_1 ((lw_eq q1 (-9223372036854775808 : Int64)).mp q))).2) (by decide) (by decide) k) ?_
    show own_G p.tables e below _ (s₁.setTop (mkF m 14 #[.val (.long q1), .second] []))
    refine own_st (fun _ k => XS.lloadN X0.here hx rfl (hb hby d1_14) rfl k) ?_
    show own_G p.tables e below _ (s₁.setTop (mkF m 15 #[.val (.long q1), .second] [(.long q1)]))
    exact J15_2 q1 ((if_neg hc5_1).symm)
def Q6 (Z : State) (q1 : Int64) (q2 : Int64) (h0 : Heap) (n0 : Nat) (v : Option Value) (h : Heap) (L : List Loc) : Prop := (∃ z : Int64, v = some (.long z) ∧ z = (if q1 < q2 then q2 else q1)) ∧ Fr n0 L ∧ h = h0
set_option maxRecDepth 65536 in
set_option maxHeartbeats 40000000 in
theorem rm6 (l : Launch) (Z : State) (a0 : Array Value) (hw : ∀ d ∈ tables_1, d.before a0 Z = true) (ws : List Jvm.Cond) (q1 : Int64) (q2 : Int64) (h0 : Heap) (n0 : Nat) (Z0 : n0 ≤ h0.size) :
    MetFree l (⟨"java/lang/Math", "max", "(JJ)J"⟩ : MethodName) (head1 (Jvm.Cond.code (⟨"java/lang/Math", "max", "(JJ)J"⟩ : MethodName) jdk_29_method_66_code 4 (some .long) :: ws) ({ frames := 0, cells := 0, slots := 0, locals := 0 } : Room)) (fun a U => a = #[(.long q1), (.long q2)] ∧ Z.Warmed39 U.vm ∧ U.heap = h0) (fun _ _ _ _ _ => True) (fun _ U o U' => ∃ v L, o = .returned v ∧ Q6 Z q1 q2 h0 n0 v U'.heap L ∧ FrameEnd U o U' L ({ frames := 0, cells := 0, slots := 0, locals := 0 } : Room).cells ({ frames := 0, cells := 0, slots := 0, locals := 0 } : Room).slots) := by
  refine MetFree.of_bodySF (Jvm.Free.JP.mathPlain rfl (by decide +kernel)) hisR ?_
  intro p e s m args below meth c s₁ Bd hml0 hP hK
  obtain ⟨rfl, hZ, hh⟩ := hP
  have hx := Bd.exec
  have hby := Bd.bytes
  have hlk := BodyLoose.notSynchronized Bd
  have hml : c.maxLocals = 4 := hml0
  have hown : s.vm.findClass "java/lang/Math" = some m.cls := findClass_of_methodNamed Bd.named
  have hnm := (name_of_methodNamed Bd.named Bd.method).1
  have X0 : Stand p l e ({ frames := 0, cells := 0, slots := 0, locals := 0 } : Room) s m #[(.long q1), (.long q2)] below meth c s₁ [] 0 0 := Stand.of_body Bd
  have e0 : s₁.heap = h0 := by rw [← hh, Bd.state]; rfl
  have N0 := Fr.nil n0
  have K0 := Keep.refl h0 []
  show own_G p.tables e below (own_P s (Q6 Z q1 q2 h0 n0) 0 0) (s₁.setTop (entryFrame m #[(.long q1), (.long q2)] 4))
  refine own_st (fun t k => castTop (ef_6 m q1 q2) k) ?_
  show own_G p.tables e below _ (s₁.setTop (mkF m 0 #[.val (.long q1), .second, .val (.long q2), .second] []))
  refine own_st (fun _ k => XS.lloadN X0.here hx rfl (hb hby d6_0) rfl k) ?_
  show own_G p.tables e below _ (s₁.setTop (mkF m 1 #[.val (.long q1), .second, .val (.long q2), .second] [(.long q1)]))
  refine own_st (fun _ k => XS.lloadN X0.here hx rfl (hb hby d6_1) rfl k) ?_
  show own_G p.tables e below _ (s₁.setTop (mkF m 2 #[.val (.long q1), .second, .val (.long q2), .second] [(.long q2), (.long q1)]))
  refine own_st (fun _ k => XS.lcmp X0.here hx rfl (hb hby d6_2) rfl k) ?_
  show own_G p.tables e below _ (s₁.setTop (mkF m 3 #[.val (.long q1), .second, .val (.long q2), .second] [(.int (lcmpW q1 q2))]))
  have J11_2 : ∀ (z3 : Int64) (hz3 : z3 = (if q1 < q2 then q2 else q1)), own_G p.tables e below (own_P s (Q6 Z q1 q2 h0 n0) 0 0) (s₁.setTop (mkF m 11 #[.val (.long q1), .second, .val (.long q2), .second] [(.long z3)])) := by
    intro z3 hz3
    exact own_retJ X0 hx hlk Bd.returns (hb hby d6_11) (by rw [e0]; exact ⟨⟨_, rfl, (by subst hz3; exact rfl)⟩, N0, rfl⟩) (by decide) (by decide)
  by_cases hc3_1 : q1 < q2
  · refine own_st (fun _ k => XS.ifYes X0.here hx rfl (pc0 := 3) (pc' := 10) rfl (hb hby d6_3) rfl ((if0 _ _).trans (tlt ((lw_lt q1 q2).mpr hc3_1)).1) (by decide) (by decide) k) ?_
    show own_G p.tables e below _ (s₁.setTop (mkF m 10 #[.val (.long q1), .second, .val (.long q2), .second] []))
    refine own_st (fun _ k => XS.lloadN X0.here hx rfl (hb hby d6_10) rfl k) ?_
    show own_G p.tables e below _ (s₁.setTop (mkF m 11 #[.val (.long q1), .second, .val (.long q2), .second] [(.long q2)]))
    exact J11_2 q2 ((if_pos hc3_1).symm)
  · refine own_st (fun _ k => XS.ifNo X0.here hx rfl (hb hby d6_3) rfl ((if0 _ _).trans (flt (fun q => hc3_1 ((lw_lt q1 q2).mp q))).1) k) ?_
    show own_G p.tables e below _ (s₁.setTop (mkF m 6 #[.val (.long q1), .second, .val (.long q2), .second] []))
    refine own_st (fun _ k => XS.lloadN X0.here hx rfl (hb hby d6_6) rfl k) ?_
    show own_G p.tables e below _ (s₁.setTop (mkF m 7 #[.val (.long q1), .second, .val (.long q2), .second] [(.long q1)]))
    refine own_st (fun _ k => XS.goto X0.here hx rfl (pc0 := 7) (pc' := 11) rfl (hb hby d6_7) (by decide) (by decide) k) ?_
    show own_G p.tables e below _ (s₁.setTop (mkF m 11 #[.val (.long q1), .second, .val (.long q2), .second] [(.long q1)]))
    exact J11_2 q1 ((if_neg hc3_1).symm)
def Q8 (Z : State) (a1 : Addr) (h0 : Heap) (n0 : Nat) (v : Option Value) (h : Heap) (L : List Loc) : Prop := v = none ∧ Fr n0 L ∧ h = h0
set_option maxRecDepth 65536 in
set_option maxHeartbeats 40000000 in
theorem rm8 (l : Launch) (Z : State) (a0 : Array Value) (hw : ∀ d ∈ tables_1, d.before a0 Z = true) (ws : List Jvm.Cond) (a1 : Addr) (h0 : Heap) (n0 : Nat) (Z0 : n0 ≤ h0.size) :
    MetFree l (⟨"java/lang/Record", "<init>", "()V"⟩ : MethodName) (head1 (Jvm.Cond.code (⟨"java/lang/Record", "<init>", "()V"⟩ : MethodName) jdk_30_method_1_code 1 none :: ws) ({ frames := 1, cells := 0, slots := 0, locals := 12 } : Room)) (fun a U => a = #[(.ref a1)] ∧ Z.Warmed39 U.vm ∧ U.heap = h0) (fun _ _ _ _ _ => True) (fun _ U o U' => ∃ v L, o = .returned v ∧ Q8 Z a1 h0 n0 v U'.heap L ∧ FrameEnd U o U' L ({ frames := 1, cells := 0, slots := 0, locals := 12 } : Room).cells ({ frames := 1, cells := 0, slots := 0, locals := 12 } : Room).slots) := by
  refine MetFree.of_bodySF (plainFor_of_name pn_8) hisR ?_
  intro p e s m args below meth c s₁ Bd hml0 hP hK
  obtain ⟨rfl, hZ, hh⟩ := hP
  have hx := Bd.exec
  have hby := Bd.bytes
  have hlk := BodyLoose.notSynchronized Bd
  have hml : c.maxLocals = 1 := hml0
  have hown : s.vm.findClass "java/lang/Record" = some m.cls := findClass_of_methodNamed Bd.named
  have hnm := (name_of_methodNamed Bd.named Bd.method).1
  have X0 : Stand p l e ({ frames := 1, cells := 0, slots := 0, locals := 12 } : Room) s m #[(.ref a1)] below meth c s₁ [] 0 0 := Stand.of_body Bd
  have e0 : s₁.heap = h0 := by rw [← hh, Bd.state]; rfl
  have N0 := Fr.nil n0
  have K0 := Keep.refl h0 []
  show own_G p.tables e below (own_P s (Q8 Z a1 h0 n0) 0 0) (s₁.setTop (entryFrame m #[(.ref a1)] 1))
  refine own_st (fun t k => castTop (ef_8 m a1) k) ?_
  show own_G p.tables e below _ (s₁.setTop (mkF m 0 #[.val (.ref a1)] []))
  refine own_st (fun _ k => XS.aloadN X0.here hx rfl (hb hby d8_0) rfl rfl k) ?_
  show own_G p.tables e below _ (s₁.setTop (mkF m 1 #[.val (.ref a1)] [(.ref a1)]))
  obtain ⟨T1, X1, e1, st1⟩ := initO X0 hx hZ hown (hw _ (List.mem_of_getElem? (i := 54) rfl)) (hw _ (List.mem_of_getElem? (i := 12) rfl)) (hw _ (List.mem_of_getElem? (i := 13) rfl)) e0 (g := (mkF m 1 #[.val (.ref a1)] [(.ref a1)])) rfl (by rw [hml]; rfl) rfl (hb hby d8_1) (by decide) (W := 0) (by show 2 * 0 + _ ≤ _; exact Nat.le_of_eq rfl) (by decide)
  refine own_st st1 ?_
  show own_G p.tables e below _ (T1.setTop (mkF m 4 #[.val (.ref a1)] []))
  exact own_retV X1 hx hlk Bd.returns (hb hby d8_4) (by rw [e1]; exact ⟨rfl, N0, rfl⟩) (by decide) (by decide)
def Q7 (Z : State) (a1 : Addr) (q1 : Int64) (q2 : Int64) (u_earliest_a1 : Int64) (u_surely_a1 : Int64) (h0 : Heap) (n0 : Nat) (v : Option Value) (h : Heap) (L : List Loc) : Prop := v = none ∧ Fr n0 L ∧ Keep h0 h [a1] ∧ Exa Z h a1 "com/example/funnel/funnel/relay/Backlog$Wait" ∧ Fld Z h a1 "com/example/funnel/funnel/relay/Backlog$Wait" "earliest" "J" (.long q1) ∧ Fld Z h a1 "com/example/funnel/funnel/relay/Backlog$Wait" "surely" "J" (.long q2)
set_option maxRecDepth 65536 in
set_option maxHeartbeats 40000000 in
theorem rm7 (l : Launch) (Z : State) (a0 : Array Value) (hw : ∀ d ∈ tables_1, d.before a0 Z = true) (ws : List Jvm.Cond) (a1 : Addr) (q1 : Int64) (q2 : Int64) (u_earliest_a1 : Int64) (u_surely_a1 : Int64) (h0 : Heap) (n0 : Nat) (Z0 : n0 ≤ h0.size) (F_earliest_a1 : Fld Z h0 a1 "com/example/funnel/funnel/relay/Backlog$Wait" "earliest" "J" (.long u_earliest_a1)) (F_surely_a1 : Fld Z h0 a1 "com/example/funnel/funnel/relay/Backlog$Wait" "surely" "J" (.long u_surely_a1)) (E_a1 : Exa Z h0 a1 "com/example/funnel/funnel/relay/Backlog$Wait") (ge_a1 : n0 ≤ a1) :
    MetFree l (⟨"com/example/funnel/funnel/relay/Backlog$Wait", "<init>", "(JJ)V"⟩ : MethodName) (head1 (Jvm.Cond.code (⟨"com/example/funnel/funnel/relay/Backlog$Wait", "<init>", "(JJ)V"⟩ : MethodName) prog_36_method_1_code 5 none :: ws) ({ frames := 2, cells := 0, slots := 0, locals := 24 } : Room)) (fun a U => a = #[(.ref a1), (.long q1), (.long q2)] ∧ Z.Warmed39 U.vm ∧ U.heap = h0) (fun _ _ _ _ _ => True) (fun _ U o U' => ∃ v L, o = .returned v ∧ Q7 Z a1 q1 q2 u_earliest_a1 u_surely_a1 h0 n0 v U'.heap L ∧ FrameEnd U o U' L ({ frames := 2, cells := 0, slots := 0, locals := 24 } : Room).cells ({ frames := 2, cells := 0, slots := 0, locals := 24 } : Room).slots) := by
  refine MetFree.of_bodySF (plainFor_of_name pn_7) hisR ?_
  intro p e s m args below meth c s₁ Bd hml0 hP hK
  obtain ⟨rfl, hZ, hh⟩ := hP
  have hx := Bd.exec
  have hby := Bd.bytes
  have hlk := BodyLoose.notSynchronized Bd
  have hml : c.maxLocals = 5 := hml0
  have hown : s.vm.findClass "com/example/funnel/funnel/relay/Backlog$Wait" = some m.cls := findClass_of_methodNamed Bd.named
  have hnm := (name_of_methodNamed Bd.named Bd.method).1
  have X0 : Stand p l e ({ frames := 2, cells := 0, slots := 0, locals := 24 } : Room) s m #[(.ref a1), (.long q1), (.long q2)] below meth c s₁ [] 0 0 := Stand.of_body Bd
  have e0 : s₁.heap = h0 := by rw [← hh, Bd.state]; rfl
  have N0 := Fr.nil n0
  have K0 := Keep.refl h0 [a1]
  show own_G p.tables e below (own_P s (Q7 Z a1 q1 q2 u_earliest_a1 u_surely_a1 h0 n0) 0 0) (s₁.setTop (entryFrame m #[(.ref a1), (.long q1), (.long q2)] 5))
  refine own_st (fun t k => castTop (ef_7 m a1 q1 q2) k) ?_
  show own_G p.tables e below _ (s₁.setTop (mkF m 0 #[.val (.ref a1), .val (.long q1), .second, .val (.long q2), .second] []))
  refine own_st (fun _ k => XS.aloadN X0.here hx rfl (hb hby d7_0) rfl rfl k) ?_
  show own_G p.tables e below _ (s₁.setTop (mkF m 1 #[.val (.ref a1), .val (.long q1), .second, .val (.long q2), .second] [(.ref a1)]))
  obtain ⟨_, _, ⟨T1, L1, k1, n1⟩, -, X1, ⟨Lc1, hQ1, l1, y1, z1⟩, st1⟩ := X0.specialBack hx (y := (⟨"java/lang/Record", "<init>", "()V"⟩ : MethodName)) rfl hown (mvT hZ (hw _ (List.mem_of_getElem? (i := 49) rfl))) (mvT hZ (hw _ (List.mem_of_getElem? (i := 50) rfl))) (mvT hZ (hw _ (List.mem_of_getElem? (i := 53) rfl))) (by decide) (backOf (W := 0) (rm8 l Z a0 hw [] a1 h0 n0 Z0 ) hZ (hw _ (List.mem_of_getElem? (i := 53) rfl)) (hw _ (List.mem_of_getElem? (i := 52) rfl)) (by decide) (by decide)) (g := (mkF m 1 #[.val (.ref a1), .val (.long q1), .second, .val (.long q2), .second] [(.ref a1)])) rfl (by rw [hml]; rfl) (Steps.refl _) (a := a1) (argsL := []) (rest := []) (lenOf pd_0 rfl) rfl (by show 2 * 0 + _ ≤ _; exact Nat.le_of_eq rfl) (hb hby d7_1) (fun _ _ => ⟨rfl, e0, (by decide : 0 + 0 ≤ _), (by decide : 0 + 0 ≤ _)⟩)
  dsimp only [Pt.U, Pt.locs, Pt.cells, Pt.slots] at X1 l1 y1 z1 st1 hQ1
  subst l1 y1 z1
  obtain ⟨rfl, N1q, e1⟩ := hQ1
  have N1 := Fr.app N0 N1q
  refine own_st (fun _ k => st1.trans k) ?_
  show own_G p.tables e below _ (T1.setTop (mkF m 4 #[.val (.ref a1), .val (.long q1), .second, .val (.long q2), .second] []))
  refine own_st (fun _ k => XS.aloadN X1.here hx rfl (hb hby d7_4) rfl rfl k) ?_
  show own_G p.tables e below _ (T1.setTop (mkF m 5 #[.val (.ref a1), .val (.long q1), .second, .val (.long q2), .second] [(.ref a1)]))
  refine own_st (fun _ k => XS.lloadN X1.here hx rfl (hb hby d7_5) rfl k) ?_
  show own_G p.tables e below _ (T1.setTop (mkF m 6 #[.val (.ref a1), .val (.long q1), .second, .val (.long q2), .second] [(.long q1), (.ref a1)]))
  obtain ⟨T2, h2, X2, e2, W2, st2⟩ := putF X1 hx hZ hown (host := "") (Or.inl (hw _ (List.mem_of_getElem? (i := 55) rfl))) Via.refl e1 F_earliest_a1 E_a1 (Or.inr ⟨(hw _ (List.mem_of_getElem? (i := 56) rfl)), rfl, hnm⟩) (hw _ (List.mem_of_getElem? (i := 40) rfl)) (ty := .long) (by decide) rfl rfl (g := (mkF m 6 #[.val (.ref a1), .val (.long q1), .second, .val (.long q2), .second] [(.long q1), (.ref a1)])) rfl rfl (hb hby d7_6)
  have N2 := Fr.snoc X2 N1 ge_a1
  have E3 := E_a1.wr W2
  have F4 := F_earliest_a1.same W2
  have F5 := F_surely_a1.other W2 (Or.inr (slot_ne (Or.inr (hw _ (List.mem_of_getElem? (i := 58) rfl))) (Or.inr (hw _ (List.mem_of_getElem? (i := 56) rfl))) (by decide) (t := .long) (t' := .long) (by decide) (by decide)))
  have Z6 := Nat.le_trans Z0 (Keep.of_wr W2).1
  have K7 := K0.wr W2 (Or.inl (List.mem_of_getElem? (i := 0) rfl))
  refine own_st st2 ?_
  show own_G p.tables e below _ (T2.setTop (mkF m 9 #[.val (.ref a1), .val (.long q1), .second, .val (.long q2), .second] []))
  refine own_st (fun _ k => XS.aloadN X2.here hx rfl (hb hby d7_9) rfl rfl k) ?_
  show own_G p.tables e below _ (T2.setTop (mkF m 10 #[.val (.ref a1), .val (.long q1), .second, .val (.long q2), .second] [(.ref a1)]))
  refine own_st (fun _ k => XS.lloadN X2.here hx rfl (hb hby d7_10) rfl k) ?_
  show own_G p.tables e below _ (T2.setTop (mkF m 11 #[.val (.ref a1), .val (.long q1), .second, .val (.long q2), .second] [(.long q2), (.ref a1)]))
  obtain ⟨T8, h8, X8, e8, W8, st8⟩ := putF X2 hx hZ hown (host := "") (Or.inl (hw _ (List.mem_of_getElem? (i := 57) rfl))) Via.refl e2 F5 E3 (Or.inr ⟨(hw _ (List.mem_of_getElem? (i := 58) rfl)), rfl, hnm⟩) (hw _ (List.mem_of_getElem? (i := 40) rfl)) (ty := .long) (by decide) rfl rfl (g := (mkF m 11 #[.val (.ref a1), .val (.long q1), .second, .val (.long q2), .second] [(.long q2), (.ref a1)])) rfl rfl (hb hby d7_11)
  have N8 := Fr.snoc X8 N2 ge_a1
  have E9 := E3.wr W8
  have F10 := F4.other W8 (Or.inr (slot_ne (Or.inr (hw _ (List.mem_of_getElem? (i := 56) rfl))) (Or.inr (hw _ (List.mem_of_getElem? (i := 58) rfl))) (by decide) (t := .long) (t' := .long) (by decide) (by decide)))
  have F11 := F5.same W8
  have Z12 := Nat.le_trans Z6 (Keep.of_wr W8).1
  have K13 := K7.wr W8 (Or.inl (List.mem_of_getElem? (i := 0) rfl))
  refine own_st st8 ?_
  show own_G p.tables e below _ (T8.setTop (mkF m 14 #[.val (.ref a1), .val (.long q1), .second, .val (.long q2), .second] []))
  exact own_retV X8 hx hlk Bd.returns (hb hby d7_14) (by rw [e8]; exact ⟨rfl, N8, K13, E9, F10, F11⟩) (by decide) (by decide)
def Q2 (Z : State) (a1 : Addr) (u_since_a1 : Int64) (u_firstFoundAt_a1 : Int64) (u_acceptStarts_a1 : Value) (u_unwatched_a1 : Int32) (u_foundAt_a1 : Int64) (u_accepts_a1 : Int64) (h0 : Heap) (n0 : Nat) (v : Option Value) (h : Heap) (L : List Loc) : Prop := v = none ∧ Fr n0 L ∧ Keep h0 h [a1] ∧ Exa Z h a1 "com/example/funnel/funnel/relay/Backlog" ∧ Fld Z h a1 "com/example/funnel/funnel/relay/Backlog" "since" "J" (.long (-9223372036854775808 : Int64)) ∧ Fld Z h a1 "com/example/funnel/funnel/relay/Backlog" "firstFoundAt" "J" (.long (-9223372036854775808 : Int64)) ∧ (∃ (nb : Addr) (nk : ClassId), h0.size ≤ nb ∧ Fld Z h a1 "com/example/funnel/funnel/relay/Backlog" "acceptStarts" "[J" (.ref nb) ∧ Arv Z h nb nk .long (1 : Int32) [(.long (0 : Int64))] (.long (0 : Int64))) ∧ Fld Z h a1 "com/example/funnel/funnel/relay/Backlog" "unwatched" "Z" (.int u_unwatched_a1) ∧ Fld Z h a1 "com/example/funnel/funnel/relay/Backlog" "foundAt" "J" (.long u_foundAt_a1) ∧ Fld Z h a1 "com/example/funnel/funnel/relay/Backlog" "accepts" "J" (.long u_accepts_a1)
set_option maxRecDepth 65536 in
set_option maxHeartbeats 40000000 in
theorem rm2 (l : Launch) (Z : State) (a0 : Array Value) (hw : ∀ d ∈ tables_1, d.before a0 Z = true) (ws : List Jvm.Cond) (a1 : Addr) (u_since_a1 : Int64) (u_firstFoundAt_a1 : Int64) (u_acceptStarts_a1 : Value) (u_unwatched_a1 : Int32) (u_foundAt_a1 : Int64) (u_accepts_a1 : Int64) (h0 : Heap) (n0 : Nat) (Z0 : n0 ≤ h0.size) (F_since_a1 : Fld Z h0 a1 "com/example/funnel/funnel/relay/Backlog" "since" "J" (.long u_since_a1)) (F_firstFoundAt_a1 : Fld Z h0 a1 "com/example/funnel/funnel/relay/Backlog" "firstFoundAt" "J" (.long u_firstFoundAt_a1)) (F_acceptStarts_a1 : Fld Z h0 a1 "com/example/funnel/funnel/relay/Backlog" "acceptStarts" "[J" u_acceptStarts_a1) (F_unwatched_a1 : Fld Z h0 a1 "com/example/funnel/funnel/relay/Backlog" "unwatched" "Z" (.int u_unwatched_a1)) (F_foundAt_a1 : Fld Z h0 a1 "com/example/funnel/funnel/relay/Backlog" "foundAt" "J" (.long u_foundAt_a1)) (F_accepts_a1 : Fld Z h0 a1 "com/example/funnel/funnel/relay/Backlog" "accepts" "J" (.long u_accepts_a1)) (E_a1 : Exa Z h0 a1 "com/example/funnel/funnel/relay/Backlog") (ge_a1 : n0 ≤ a1) :
    MetFree l (⟨"com/example/funnel/funnel/relay/Backlog", "<init>", "(I)V"⟩ : MethodName) (head1 (Jvm.Cond.code (⟨"com/example/funnel/funnel/relay/Backlog", "<init>", "(I)V"⟩ : MethodName) prog_35_method_1_code 2 none :: ws) ({ frames := 1, cells := 1, slots := 1, locals := 12 } : Room)) (fun a U => a = #[(.ref a1), (.int (1 : Int32))] ∧ Z.Warmed39 U.vm ∧ U.heap = h0) (fun _ _ _ _ _ => True) (fun _ U o U' => ∃ v L, o = .returned v ∧ Q2 Z a1 u_since_a1 u_firstFoundAt_a1 u_acceptStarts_a1 u_unwatched_a1 u_foundAt_a1 u_accepts_a1 h0 n0 v U'.heap L ∧ FrameEnd U o U' L ({ frames := 1, cells := 1, slots := 1, locals := 12 } : Room).cells ({ frames := 1, cells := 1, slots := 1, locals := 12 } : Room).slots) := by
  refine MetFree.of_bodySF (plainFor_of_name pn_2) hisR ?_
  intro p e s m args below meth c s₁ Bd hml0 hP hK
  obtain ⟨rfl, hZ, hh⟩ := hP
  have hx := Bd.exec
  have hby := Bd.bytes
  have hlk := BodyLoose.notSynchronized Bd
  have hml : c.maxLocals = 2 := hml0
  have hown : s.vm.findClass "com/example/funnel/funnel/relay/Backlog" = some m.cls := findClass_of_methodNamed Bd.named
  have hnm := (name_of_methodNamed Bd.named Bd.method).1
  have X0 : Stand p l e ({ frames := 1, cells := 1, slots := 1, locals := 12 } : Room) s m #[(.ref a1), (.int (1 : Int32))] below meth c s₁ [] 0 0 := Stand.of_body Bd
  have e0 : s₁.heap = h0 := by rw [← hh, Bd.state]; rfl
  have N0 := Fr.nil n0
  have K0 := Keep.refl h0 [a1]
  show own_G p.tables e below (own_P s (Q2 Z a1 u_since_a1 u_firstFoundAt_a1 u_acceptStarts_a1 u_unwatched_a1 u_foundAt_a1 u_accepts_a1 h0 n0) 1 1) (s₁.setTop (entryFrame m #[(.ref a1), (.int (1 : Int32))] 2))
  refine own_st (fun t k => castTop (ef_2 m a1) k) ?_
  show own_G p.tables e below _ (s₁.setTop (mkF m 0 #[.val (.ref a1), .val (.int (1 : Int32))] []))
  refine own_st (fun _ k => XS.aloadN X0.here hx rfl (hb hby d2_0) rfl rfl k) ?_
  show own_G p.tables e below _ (s₁.setTop (mkF m 1 #[.val (.ref a1), .val (.int (1 : Int32))] [(.ref a1)]))
  obtain ⟨T1, X1, e1, st1⟩ := initO X0 hx hZ hown (hw _ (List.mem_of_getElem? (i := 11) rfl)) (hw _ (List.mem_of_getElem? (i := 12) rfl)) (hw _ (List.mem_of_getElem? (i := 13) rfl)) e0 (g := (mkF m 1 #[.val (.ref a1), .val (.int (1 : Int32))] [(.ref a1)])) rfl (by rw [hml]; rfl) rfl (hb hby d2_1) (by decide) (W := 0) (by show 2 * 0 + _ ≤ _; exact Nat.le_of_eq rfl) (by decide)
  refine own_st st1 ?_
  show own_G p.tables e below _ (T1.setTop (mkF m 4 #[.val (.ref a1), .val (.int (1 : Int32))] []))
  refine own_st (fun _ k => XS.aloadN X1.here hx rfl (hb hby d2_4) rfl rfl k) ?_
  show own_G p.tables e below _ (T1.setTop (mkF m 5 #[.val (.ref a1), .val (.int (1 : Int32))] [(.ref a1)]))
  refine own_st (X1.ldc2Long hx hown (mvT hZ (hw _ (List.mem_of_getElem? (i := 14) rfl))) (g := (mkF m 5 #[.val (.ref a1), .val (.int (1 : Int32))] [(.ref a1)])) rfl (hb hby d2_5)) ?_
  show own_G p.tables e below _ (T1.setTop (mkF m 8 #[.val (.ref a1), .val (.int (1 : Int32))] [(.long (-9223372036854775808 : Int64)), (.ref a1)]))
  obtain ⟨T2, h2, X2, e2, W2, st2⟩ := putF X1 hx hZ hown (host := "") (Or.inl (hw _ (List.mem_of_getElem? (i := 15) rfl))) Via.refl e1 F_since_a1 E_a1 (Or.inl (hw _ (List.mem_of_getElem? (i := 16) rfl))) (hw _ (List.mem_of_getElem? (i := 6) rfl)) (ty := .long) (by decide) rfl rfl (g := (mkF m 8 #[.val (.ref a1), .val (.int (1 : Int32))] [(.long (-9223372036854775808 : Int64)), (.ref a1)])) rfl rfl (hb hby d2_8)
  have N2 := Fr.snoc X2 N0 ge_a1
  have E3 := E_a1.wr W2
  have F4 := F_since_a1.same W2
  have F5 := F_firstFoundAt_a1.other W2 (Or.inr (slot_ne (Or.inl (hw _ (List.mem_of_getElem? (i := 18) rfl))) (Or.inl (hw _ (List.mem_of_getElem? (i := 16) rfl))) (by decide) (t := .long) (t' := .long) (by decide) (by decide)))
  have F6 := F_acceptStarts_a1.other W2 (Or.inr (slot_ne (Or.inr (hw _ (List.mem_of_getElem? (i := 21) rfl))) (Or.inl (hw _ (List.mem_of_getElem? (i := 16) rfl))) (by decide) (t := (.array .long)) (t' := .long) (by decide) (by decide)))
  have F7 := F_unwatched_a1.other W2 (Or.inr (slot_ne (Or.inl (hw _ (List.mem_of_getElem? (i := 28) rfl))) (Or.inl (hw _ (List.mem_of_getElem? (i := 16) rfl))) (by decide) (t := .boolean) (t' := .long) (by decide) (by decide)))
  have F8 := F_foundAt_a1.other W2 (Or.inr (slot_ne (Or.inl (hw _ (List.mem_of_getElem? (i := 30) rfl))) (Or.inl (hw _ (List.mem_of_getElem? (i := 16) rfl))) (by decide) (t := .long) (t' := .long) (by decide) (by decide)))
  have F9 := F_accepts_a1.other W2 (Or.inr (slot_ne (Or.inl (hw _ (List.mem_of_getElem? (i := 38) rfl))) (Or.inl (hw _ (List.mem_of_getElem? (i := 16) rfl))) (by decide) (t := .long) (t' := .long) (by decide) (by decide)))
  have Z10 := Nat.le_trans Z0 (Keep.of_wr W2).1
  have K11 := K0.wr W2 (Or.inl (List.mem_of_getElem? (i := 0) rfl))
  refine own_st st2 ?_
  show own_G p.tables e below _ (T2.setTop (mkF m 11 #[.val (.ref a1), .val (.int (1 : Int32))] []))
  refine own_st (fun _ k => XS.aloadN X2.here hx rfl (hb hby d2_11) rfl rfl k) ?_
  show own_G p.tables e below _ (T2.setTop (mkF m 12 #[.val (.ref a1), .val (.int (1 : Int32))] [(.ref a1)]))
  refine own_st (X2.ldc2Long hx hown (mvT hZ (hw _ (List.mem_of_getElem? (i := 14) rfl))) (g := (mkF m 12 #[.val (.ref a1), .val (.int (1 : Int32))] [(.ref a1)])) rfl (hb hby d2_12)) ?_
  show own_G p.tables e below _ (T2.setTop (mkF m 15 #[.val (.ref a1), .val (.int (1 : Int32))] [(.long (-9223372036854775808 : Int64)), (.ref a1)]))
  obtain ⟨T12, h12, X12, e12, W12, st12⟩ := putF X2 hx hZ hown (host := "") (Or.inl (hw _ (List.mem_of_getElem? (i := 17) rfl))) Via.refl e2 F5 E3 (Or.inl (hw _ (List.mem_of_getElem? (i := 18) rfl))) (hw _ (List.mem_of_getElem? (i := 6) rfl)) (ty := .long) (by decide) rfl rfl (g := (mkF m 15 #[.val (.ref a1), .val (.int (1 : Int32))] [(.long (-9223372036854775808 : Int64)), (.ref a1)])) rfl rfl (hb hby d2_15)
  have N12 := Fr.snoc X12 N2 ge_a1
  have E13 := E3.wr W12
  have F14 := F4.other W12 (Or.inr (slot_ne (Or.inl (hw _ (List.mem_of_getElem? (i := 16) rfl))) (Or.inl (hw _ (List.mem_of_getElem? (i := 18) rfl))) (by decide) (t := .long) (t' := .long) (by decide) (by decide)))
  have F15 := F5.same W12
  have F16 := F6.other W12 (Or.inr (slot_ne (Or.inr (hw _ (List.mem_of_getElem? (i := 21) rfl))) (Or.inl (hw _ (List.mem_of_getElem? (i := 18) rfl))) (by decide) (t := (.array .long)) (t' := .long) (by decide) (by decide)))
  have F17 := F7.other W12 (Or.inr (slot_ne (Or.inl (hw _ (List.mem_of_getElem? (i := 28) rfl))) (Or.inl (hw _ (List.mem_of_getElem? (i := 18) rfl))) (by decide) (t := .boolean) (t' := .long) (by decide) (by decide)))
  have F18 := F8.other W12 (Or.inr (slot_ne (Or.inl (hw _ (List.mem_of_getElem? (i := 30) rfl))) (Or.inl (hw _ (List.mem_of_getElem? (i := 18) rfl))) (by decide) (t := .long) (t' := .long) (by decide) (by decide)))
  have F19 := F9.other W12 (Or.inr (slot_ne (Or.inl (hw _ (List.mem_of_getElem? (i := 38) rfl))) (Or.inl (hw _ (List.mem_of_getElem? (i := 18) rfl))) (by decide) (t := .long) (t' := .long) (by decide) (by decide)))
  have Z20 := Nat.le_trans Z10 (Keep.of_wr W12).1
  have K21 := K11.wr W12 (Or.inl (List.mem_of_getElem? (i := 0) rfl))
  refine own_st st12 ?_
  show own_G p.tables e below _ (T12.setTop (mkF m 18 #[.val (.ref a1), .val (.int (1 : Int32))] []))
  refine own_st (fun _ k => XS.aloadN X12.here hx rfl (hb hby d2_18) rfl rfl k) ?_
  show own_G p.tables e below _ (T12.setTop (mkF m 19 #[.val (.ref a1), .val (.int (1 : Int32))] [(.ref a1)]))
  refine own_st (fun _ k => XS.iloadN X12.here hx rfl (hb hby d2_19) rfl k) ?_
  show own_G p.tables e below _ (T12.setTop (mkF m 20 #[.val (.ref a1), .val (.int (1 : Int32))] [(.int (1 : Int32)), (.ref a1)]))
  obtain ⟨T22, h22, k22, X22, e22, E22, A22, st22⟩ := newP X12 hx hZ (hw _ (List.mem_of_getElem? (i := 19) rfl)) e12 (g := (mkF m 20 #[.val (.ref a1), .val (.int (1 : Int32))] [(.int (1 : Int32)), (.ref a1)])) rfl (hb hby d2_20) rfl (by decide) (cap := 1) (by decide) (by decide) (by decide) (by decide)
  obtain ⟨b22, g22⟩ : ∃ z, z = h12.size := ⟨_, rfl⟩
  rw [← g22] at A22 st22
  have ge_b22 : n0 ≤ b22 := Nat.le_trans Z20 (Nat.le_of_eq g22.symm)
  have sz_b22 : h0.size ≤ b22 := Nat.le_trans K21.1 (Nat.le_of_eq g22.symm)
  have ne_a1_b22 : a1 ≠ b22 := fun q => Nat.lt_irrefl _ (Nat.lt_of_lt_of_eq E13.lt (g22.symm.trans q.symm))
  have E23 := E13.ext E22
  have F24 := F14.ext E22
  have F25 := F15.ext E22
  have F26 := F16.ext E22
  have F27 := F17.ext E22
  have F28 := F18.ext E22
  have F29 := F19.ext E22
  have Z30 := Nat.le_trans Z20 E22.1
  have K31 := K21.ext E22
  have V32 : Arv Z h22 b22 k22 .long (1 : Int32) [(.long (0 : Int64))] (.long (0 : Int64)) := (Arv.new A22 (by decide)).pad (pad_rep [] (.long (0 : Int64)) 1)
  refine own_st st22 ?_
  show own_G p.tables e below _ (T22.setTop (mkF m 22 #[.val (.ref a1), .val (.int (1 : Int32))] [(.ref b22), (.ref a1)]))
  obtain ⟨T33, h33, X33, e33, W33, st33⟩ := putF X22 hx hZ hown (host := "") (Or.inl (hw _ (List.mem_of_getElem? (i := 20) rfl))) Via.refl e22 F26 E23 (Or.inr ⟨(hw _ (List.mem_of_getElem? (i := 21) rfl)), rfl, hnm⟩) (hw _ (List.mem_of_getElem? (i := 6) rfl)) (ty := (.array .long)) (by decide) rfl rfl (g := (mkF m 22 #[.val (.ref a1), .val (.int (1 : Int32))] [(.ref b22), (.ref a1)])) rfl rfl (hb hby d2_22)
  have N33 := Fr.snoc X33 N12 ge_a1
  have E34 := E23.wr W33
  have F35 := F24.other W33 (Or.inr (slot_ne (Or.inl (hw _ (List.mem_of_getElem? (i := 16) rfl))) (Or.inr (hw _ (List.mem_of_getElem? (i := 21) rfl))) (by decide) (t := .long) (t' := (.array .long)) (by decide) (by decide)))
  have F36 := F25.other W33 (Or.inr (slot_ne (Or.inl (hw _ (List.mem_of_getElem? (i := 18) rfl))) (Or.inr (hw _ (List.mem_of_getElem? (i := 21) rfl))) (by decide) (t := .long) (t' := (.array .long)) (by decide) (by decide)))
  have F37 := F26.same W33
  have F38 := F27.other W33 (Or.inr (slot_ne (Or.inl (hw _ (List.mem_of_getElem? (i := 28) rfl))) (Or.inr (hw _ (List.mem_of_getElem? (i := 21) rfl))) (by decide) (t := .boolean) (t' := (.array .long)) (by decide) (by decide)))
  have F39 := F28.other W33 (Or.inr (slot_ne (Or.inl (hw _ (List.mem_of_getElem? (i := 30) rfl))) (Or.inr (hw _ (List.mem_of_getElem? (i := 21) rfl))) (by decide) (t := .long) (t' := (.array .long)) (by decide) (by decide)))
  have F40 := F29.other W33 (Or.inr (slot_ne (Or.inl (hw _ (List.mem_of_getElem? (i := 38) rfl))) (Or.inr (hw _ (List.mem_of_getElem? (i := 21) rfl))) (by decide) (t := .long) (t' := (.array .long)) (by decide) (by decide)))
  have V41 := V32.other W33 (Ne.symm ne_a1_b22)
  have Z42 := Nat.le_trans Z30 (Keep.of_wr W33).1
  have K43 := K31.wr W33 (Or.inl (List.mem_of_getElem? (i := 0) rfl))
  refine own_st st33 ?_
  show own_G p.tables e below _ (T33.setTop (mkF m 25 #[.val (.ref a1), .val (.int (1 : Int32))] []))
  exact own_retV X33 hx hlk Bd.returns (hb hby d2_25) (by rw [e33]; exact ⟨rfl, N33, K43, E34, F35, F36, ⟨_, _, sz_b22, F37, V41⟩, F38, F39, F40⟩) (by decide) (by decide)
def Q4 (Z : State) (a1 : Addr) (q1 : Int64) (q2 : Int64) (u_since_a1 : Int64) (u_firstFoundAt_a1 : Int64) (u_acceptStarts_a1 : Value) (u_unwatched_a1 : Int32) (u_foundAt_a1 : Int64) (u_accepts_a1 : Int64) (h0 : Heap) (n0 : Nat) (v : Option Value) (h : Heap) (L : List Loc) : Prop := v = none ∧ Fr n0 L ∧ Keep h0 h [a1] ∧ Exa Z h a1 "com/example/funnel/funnel/relay/Backlog" ∧ Fld Z h a1 "com/example/funnel/funnel/relay/Backlog" "since" "J" (.long (if ¬ (u_since_a1 = (-9223372036854775808 : Int64)) ∧ (¬ (u_unwatched_a1 = (0 : Int32)) ∨ (¬ (u_foundAt_a1 < q1))) then u_since_a1 else q1)) ∧ Fld Z h a1 "com/example/funnel/funnel/relay/Backlog" "firstFoundAt" "J" (.long (if u_firstFoundAt_a1 = (-9223372036854775808 : Int64) then q2 else u_firstFoundAt_a1)) ∧ Fld Z h a1 "com/example/funnel/funnel/relay/Backlog" "acceptStarts" "[J" u_acceptStarts_a1 ∧ Fld Z h a1 "com/example/funnel/funnel/relay/Backlog" "unwatched" "Z" (.int (0 : Int32)) ∧ Fld Z h a1 "com/example/funnel/funnel/relay/Backlog" "foundAt" "J" (.long q2) ∧ Fld Z h a1 "com/example/funnel/funnel/relay/Backlog" "accepts" "J" (.long u_accepts_a1)
set_option maxRecDepth 65536 in
set_option maxHeartbeats 40000000 in
theorem rm4 (l : Launch) (Z : State) (a0 : Array Value) (hw : ∀ d ∈ tables_1, d.before a0 Z = true) (ws : List Jvm.Cond) (a1 : Addr) (q1 : Int64) (q2 : Int64) (u_since_a1 : Int64) (u_firstFoundAt_a1 : Int64) (u_acceptStarts_a1 : Value) (u_unwatched_a1 : Int32) (u_foundAt_a1 : Int64) (u_accepts_a1 : Int64) (h0 : Heap) (n0 : Nat) (Z0 : n0 ≤ h0.size) (F_since_a1 : Fld Z h0 a1 "com/example/funnel/funnel/relay/Backlog" "since" "J" (.long u_since_a1)) (F_firstFoundAt_a1 : Fld Z h0 a1 "com/example/funnel/funnel/relay/Backlog" "firstFoundAt" "J" (.long u_firstFoundAt_a1)) (F_acceptStarts_a1 : Fld Z h0 a1 "com/example/funnel/funnel/relay/Backlog" "acceptStarts" "[J" u_acceptStarts_a1) (F_unwatched_a1 : Fld Z h0 a1 "com/example/funnel/funnel/relay/Backlog" "unwatched" "Z" (.int u_unwatched_a1)) (F_foundAt_a1 : Fld Z h0 a1 "com/example/funnel/funnel/relay/Backlog" "foundAt" "J" (.long u_foundAt_a1)) (F_accepts_a1 : Fld Z h0 a1 "com/example/funnel/funnel/relay/Backlog" "accepts" "J" (.long u_accepts_a1)) (E_a1 : Exa Z h0 a1 "com/example/funnel/funnel/relay/Backlog") (ge_a1 : n0 ≤ a1) :
    MetFree l (⟨"com/example/funnel/funnel/relay/Backlog", "found", "(JJ)V"⟩ : MethodName) (head1 (Jvm.Cond.code (⟨"com/example/funnel/funnel/relay/Backlog", "found", "(JJ)V"⟩ : MethodName) prog_35_method_2_code 6 none :: ws) ({ frames := 0, cells := 0, slots := 0, locals := 0 } : Room)) (fun a U => a = #[(.ref a1), (.long q1), (.long q2)] ∧ Z.Warmed39 U.vm ∧ U.heap = h0) (fun _ _ _ _ _ => True) (fun _ U o U' => ∃ v L, o = .returned v ∧ Q4 Z a1 q1 q2 u_since_a1 u_firstFoundAt_a1 u_acceptStarts_a1 u_unwatched_a1 u_foundAt_a1 u_accepts_a1 h0 n0 v U'.heap L ∧ FrameEnd U o U' L ({ frames := 0, cells := 0, slots := 0, locals := 0 } : Room).cells ({ frames := 0, cells := 0, slots := 0, locals := 0 } : Room).slots) := by
  refine MetFree.of_bodySF (plainFor_of_name pn_4) hisR ?_
  intro p e s m args below meth c s₁ Bd hml0 hP hK
  obtain ⟨rfl, hZ, hh⟩ := hP
  have hx := Bd.exec
  have hby := Bd.bytes
  have hlk := BodyLoose.notSynchronized Bd
  have hml : c.maxLocals = 6 := hml0
  have hown : s.vm.findClass "com/example/funnel/funnel/relay/Backlog" = some m.cls := findClass_of_methodNamed Bd.named
  have hnm := (name_of_methodNamed Bd.named Bd.method).1
  have X0 : Stand p l e ({ frames := 0, cells := 0, slots := 0, locals := 0 } : Room) s m #[(.ref a1), (.long q1), (.long q2)] below meth c s₁ [] 0 0 := Stand.of_body Bd
  have e0 : s₁.heap = h0 := by rw [← hh, Bd.state]; rfl
  have N0 := Fr.nil n0
  have K0 := Keep.refl h0 [a1]
  show own_G p.tables e below (own_P s (Q4 Z a1 q1 q2 u_since_a1 u_firstFoundAt_a1 u_acceptStarts_a1 u_unwatched_a1 u_foundAt_a1 u_accepts_a1 h0 n0) 0 0) (s₁.setTop (entryFrame m #[(.ref a1), (.long q1), (.long q2)] 6))
  refine own_st (fun t k => castTop (ef_4 m a1 q1 q2) k) ?_
  show own_G p.tables e below _ (s₁.setTop (mkF m 0 #[.val (.ref a1), .val (.long q1), .second, .val (.long q2), .second, .unset] []))
  refine own_st (fun _ k => XS.aloadN X0.here hx rfl (hb hby d4_0) rfl rfl k) ?_
  show own_G p.tables e below _ (s₁.setTop (mkF m 1 #[.val (.ref a1), .val (.long q1), .second, .val (.long q2), .second, .unset] [(.ref a1)]))
  obtain ⟨T1, X1, e1, st1⟩ := getF X0 hx hZ hown (host := "") (Or.inl (hw _ (List.mem_of_getElem? (i := 15) rfl))) Via.refl e0 F_since_a1 (g := (mkF m 1 #[.val (.ref a1), .val (.long q1), .second, .val (.long q2), .second, .unset] [(.ref a1)])) rfl rfl (hb hby d4_1)
  refine own_st st1 ?_
  show own_G p.tables e below _ (T1.setTop (mkF m 4 #[.val (.ref a1), .val (.long q1), .second, .val (.long q2), .second, .unset] [(.long u_since_a1)]))
  refine own_st (X1.ldc2Long hx hown (mvT hZ (hw _ (List.mem_of_getElem? (i := 14) rfl))) (g := (mkF m 4 #[.val (.ref a1), .val (.long q1), .second, .val (.long q2), .second, .unset] [(.long u_since_a1)])) rfl (hb hby d4_4)) ?_
  show own_G p.tables e below _ (T1.setTop (mkF m 7 #[.val (.ref a1), .val (.long q1), .second, .val (.long q2), .second, .unset] [(.long (-9223372036854775808 : Int64)), (.long u_since_a1)]))
  refine own_st (fun _ k => XS.lcmp X1.here hx rfl (hb hby d4_7) rfl k) ?_
  show own_G p.tables e below _ (T1.setTop (mkF m 8 #[.val (.ref a1), .val (.long q1), .second, .val (.long q2), .second, .unset] [(.int (lcmpW u_since_a1 (-9223372036854775808 : Int64)))]))
  have J32_3 : ∀ (z4 : Int32) (hz4 : z4 = (own_b (¬ (u_since_a1 = (-9223372036854775808 : Int64)) ∧ (¬ (u_unwatched_a1 = (0 : Int32)) ∨ (¬ (u_foundAt_a1 < q1)))))) (T5 : State) (L5 : List Loc) (X5 : Stand p l e ({ frames := 0, cells := 0, slots := 0, locals := 0 } : Room) s m #[(.ref a1), (.long q1), (.long q2)] below meth c T5 L5 0 0) (N5 : Fr n0 L5) (e5 : T5.heap = h0), own_G p.tables e below (own_P s (Q4 Z a1 q1 q2 u_since_a1 u_firstFoundAt_a1 u_acceptStarts_a1 u_unwatched_a1 u_foundAt_a1 u_accepts_a1 h0 n0) 0 0) (T5.setTop (mkF m 32 #[.val (.ref a1), .val (.long q1), .second, .val (.long q2), .second, .unset] [(.int z4)])) := by
    intro z4 hz4 T5 L5 X5 N5 e5
    refine own_st (fun _ k => XS.istore X5.here hx rfl (hb hby d4_32) rfl (l' := #[.val (.ref a1), .val (.long q1), .second, .val (.long q2), .second, .val (.int z4)]) rfl k) ?_
    show own_G p.tables e below _ (T5.setTop (mkF m 34 #[.val (.ref a1), .val (.long q1), .second, .val (.long q2), .second, .val (.int z4)] []))
    refine own_st (fun _ k => XS.iload X5.here hx rfl (hb hby d4_34) rfl k) ?_
    show own_G p.tables e below _ (T5.setTop (mkF m 36 #[.val (.ref a1), .val (.long q1), .second, .val (.long q2), .second, .val (.int z4)] [(.int z4)]))
    have J44_7 : ∀ (z12 : Int64) (hz12 : z12 = (if ¬ (u_since_a1 = (-9223372036854775808 : Int64)) ∧ (¬ (u_unwatched_a1 = (0 : Int32)) ∨ (¬ (u_foundAt_a1 < q1))) then u_since_a1 else q1)) (T8 : State) (L8 : List Loc) (X8 : Stand p l e ({ frames := 0, cells := 0, slots := 0, locals := 0 } : Room) s m #[(.ref a1), (.long q1), (.long q2)] below meth c T8 L8 0 0) (N8 : Fr n0 L8) (Z9 : n0 ≤ T8.heap.size) (K10 : Keep h0 T8.heap [a1]) (E11 : Exa Z T8.heap a1 "com/example/funnel/funnel/relay/Backlog") (F13 : Fld Z T8.heap a1 "com/example/funnel/funnel/relay/Backlog" "since" "J" (.long z12)) (F14 : Fld Z T8.heap a1 "com/example/funnel/funnel/relay/Backlog" "firstFoundAt" "J" (.long u_firstFoundAt_a1)) (F15 : Fld Z T8.heap a1 "com/example/funnel/funnel/relay/Backlog" "acceptStarts" "[J" u_acceptStarts_a1) (F16 : Fld Z T8.heap a1 "com/example/funnel/funnel/relay/Backlog" "unwatched" "Z" (.int u_unwatched_a1)) (F17 : Fld Z T8.heap a1 "com/example/funnel/funnel/relay/Backlog" "foundAt" "J" (.long u_foundAt_a1)) (F18 : Fld Z T8.heap a1 "com/example/funnel/funnel/relay/Backlog" "accepts" "J" (.long u_accepts_a1)), own_G p.tables e below (own_P s (Q4 Z a1 q1 q2 u_since_a1 u_firstFoundAt_a1 u_acceptStarts_a1 u_unwatched_a1 u_foundAt_a1 u_accepts_a1 h0 n0) 0 0) (T8.setTop (mkF m 44 #[.val (.ref a1), .val (.long q1), .second, .val (.long q2), .second, .val (.int z4)] [])) := by
      intro z12 hz12 T8 L8 X8 N8 Z9 K10 E11 F13 F14 F15 F16 F17 F18
      refine own_st (fun _ k => XS.aloadN X8.here hx rfl (hb hby d4_44) rfl rfl k) ?_
      show own_G p.tables e below _ (T8.setTop (mkF m 45 #[.val (.ref a1), .val (.long q1), .second, .val (.long q2), .second, .val (.int z4)] [(.ref a1)]))
      refine own_st (fun _ k => XS.iconst X8.here hx rfl (hb hby d4_45) k) ?_
      show own_G p.tables e below _ (T8.setTop (mkF m 46 #[.val (.ref a1), .val (.long q1), .second, .val (.long q2), .second, .val (.int z4)] [(.int (0 : Int32)), (.ref a1)]))
      obtain ⟨T19, h19, X19, e19, W19, st19⟩ := putF X8 hx hZ hown (host := "") (Or.inl (hw _ (List.mem_of_getElem? (i := 27) rfl))) Via.refl rfl F16 E11 (Or.inl (hw _ (List.mem_of_getElem? (i := 28) rfl))) (hw _ (List.mem_of_getElem? (i := 6) rfl)) (ty := .boolean) (by decide) rfl rfl (g := (mkF m 46 #[.val (.ref a1), .val (.long q1), .second, .val (.long q2), .second, .val (.int z4)] [(.int (0 : Int32)), (.ref a1)])) rfl rfl (hb hby d4_46)
      have N19 := Fr.snoc X19 N8 ge_a1
      have E20 := E11.wr W19
      have F21 := F13.other W19 (Or.inr (slot_ne (Or.inl (hw _ (List.mem_of_getElem? (i := 16) rfl))) (Or.inl (hw _ (List.mem_of_getElem? (i := 28) rfl))) (by decide) (t := .long) (t' := .boolean) (by decide) (by decide)))
      have F22 := F14.other W19 (Or.inr (slot_ne (Or.inl (hw _ (List.mem_of_getElem? (i := 18) rfl))) (Or.inl (hw _ (List.mem_of_getElem? (i := 28) rfl))) (by decide) (t := .long) (t' := .boolean) (by decide) (by decide)))
      have F23 := F15.other W19 (Or.inr (slot_ne (Or.inr (hw _ (List.mem_of_getElem? (i := 21) rfl))) (Or.inl (hw _ (List.mem_of_getElem? (i := 28) rfl))) (by decide) (t := (.array .long)) (t' := .boolean) (by decide) (by decide)))
      have F24 := F16.same W19
      have F25 := F17.other W19 (Or.inr (slot_ne (Or.inl (hw _ (List.mem_of_getElem? (i := 30) rfl))) (Or.inl (hw _ (List.mem_of_getElem? (i := 28) rfl))) (by decide) (t := .long) (t' := .boolean) (by decide) (by decide)))
      have F26 := F18.other W19 (Or.inr (slot_ne (Or.inl (hw _ (List.mem_of_getElem? (i := 38) rfl))) (Or.inl (hw _ (List.mem_of_getElem? (i := 28) rfl))) (by decide) (t := .long) (t' := .boolean) (by decide) (by decide)))
      have Z27 := Nat.le_trans Z9 (Keep.of_wr W19).1
      have K28 := K10.wr W19 (Or.inl (List.mem_of_getElem? (i := 0) rfl))
      refine own_st st19 ?_
      show own_G p.tables e below _ (T19.setTop (mkF m 49 #[.val (.ref a1), .val (.long q1), .second, .val (.long q2), .second, .val (.int z4)] []))
      refine own_st (fun _ k => XS.aloadN X19.here hx rfl (hb hby d4_49) rfl rfl k) ?_
      show own_G p.tables e below _ (T19.setTop (mkF m 50 #[.val (.ref a1), .val (.long q1), .second, .val (.long q2), .second, .val (.int z4)] [(.ref a1)]))
      refine own_st (fun _ k => XS.lloadN X19.here hx rfl (hb hby d4_50) rfl k) ?_
      show own_G p.tables e below _ (T19.setTop (mkF m 51 #[.val (.ref a1), .val (.long q1), .second, .val (.long q2), .second, .val (.int z4)] [(.long q2), (.ref a1)]))
      obtain ⟨T29, h29, X29, e29, W29, st29⟩ := putF X19 hx hZ hown (host := "") (Or.inl (hw _ (List.mem_of_getElem? (i := 29) rfl))) Via.refl e19 F25 E20 (Or.inl (hw _ (List.mem_of_getElem? (i := 30) rfl))) (hw _ (List.mem_of_getElem? (i := 6) rfl)) (ty := .long) (by decide) rfl rfl (g := (mkF m 51 #[.val (.ref a1), .val (.long q1), .second, .val (.long q2), .second, .val (.int z4)] [(.long q2), (.ref a1)])) rfl rfl (hb hby d4_51)
      have N29 := Fr.snoc X29 N19 ge_a1
      have E30 := E20.wr W29
      have F31 := F21.other W29 (Or.inr (slot_ne (Or.inl (hw _ (List.mem_of_getElem? (i := 16) rfl))) (Or.inl (hw _ (List.mem_of_getElem? (i := 30) rfl))) (by decide) (t := .long) (t' := .long) (by decide) (by decide)))
      have F32 := F22.other W29 (Or.inr (slot_ne (Or.inl (hw _ (List.mem_of_getElem? (i := 18) rfl))) (Or.inl (hw _ (List.mem_of_getElem? (i := 30) rfl))) (by decide) (t := .long) (t' := .long) (by decide) (by decide)))
      have F33 := F23.other W29 (Or.inr (slot_ne (Or.inr (hw _ (List.mem_of_getElem? (i := 21) rfl))) (Or.inl (hw _ (List.mem_of_getElem? (i := 30) rfl))) (by decide) (t := (.array .long)) (t' := .long) (by decide) (by decide)))
      have F34 := F24.other W29 (Or.inr (slot_ne (Or.inl (hw _ (List.mem_of_getElem? (i := 28) rfl))) (Or.inl (hw _ (List.mem_of_getElem? (i := 30) rfl))) (by decide) (t := .boolean) (t' := .long) (by decide) (by decide)))
      have F35 := F25.same W29
      have F36 := F26.other W29 (Or.inr (slot_ne (Or.inl (hw _ (List.mem_of_getElem? (i := 38) rfl))) (Or.inl (hw _ (List.mem_of_getElem? (i := 30) rfl))) (by decide) (t := .long) (t' := .long) (by decide) (by decide)))
      have Z37 := Nat.le_trans Z27 (Keep.of_wr W29).1
      have K38 := K28.wr W29 (Or.inl (List.mem_of_getElem? (i := 0) rfl))
      refine own_st st29 ?_
      show own_G p.tables e below _ (T29.setTop (mkF m 54 #[.val (.ref a1), .val (.long q1), .second, .val (.long q2), .second, .val (.int z4)] []))
      refine own_st (fun _ k => XS.aloadN X29.here hx rfl (hb hby d4_54) rfl rfl k) ?_
      show own_G p.tables e below _ (T29.setTop (mkF m 55 #[.val (.ref a1), .val (.long q1), .second, .val (.long q2), .second, .val (.int z4)] [(.ref a1)]))
      obtain ⟨T39, X39, e39, st39⟩ := getF X29 hx hZ hown (host := "") (Or.inl (hw _ (List.mem_of_getElem? (i := 17) rfl))) Via.refl e29 F32 (g := (mkF m 55 #[.val (.ref a1), .val (.long q1), .second, .val (.long q2), .second, .val (.int z4)] [(.ref a1)])) rfl rfl (hb hby d4_55)
      refine own_st st39 ?_
      show own_G p.tables e below _ (T39.setTop (mkF m 58 #[.val (.ref a1), .val (.long q1), .second, .val (.long q2), .second, .val (.int z4)] [(.long u_firstFoundAt_a1)]))
      refine own_st (X39.ldc2Long hx hown (mvT hZ (hw _ (List.mem_of_getElem? (i := 14) rfl))) (g := (mkF m 58 #[.val (.ref a1), .val (.long q1), .second, .val (.long q2), .second, .val (.int z4)] [(.long u_firstFoundAt_a1)])) rfl (hb hby d4_58)) ?_
      show own_G p.tables e below _ (T39.setTop (mkF m 61 #[.val (.ref a1), .val (.long q1), .second, .val (.long q2), .second, .val (.int z4)] [(.long (-9223372036854775808 : Int64)), (.long u_firstFoundAt_a1)]))
      refine own_st (fun _ k => XS.lcmp X39.here hx rfl (hb hby d4_61) rfl k) ?_
      show own_G p.tables e below _ (T39.setTop (mkF m 62 #[.val (.ref a1), .val (.long q1), .second, .val (.long q2), .second, .val (.int z4)] [(.int (lcmpW u_firstFoundAt_a1 (-9223372036854775808 : Int64)))]))
      have J70_41 : ∀ (z47 : Int64) (hz47 : z47 = (if u_firstFoundAt_a1 = (-9223372036854775808 : Int64) then q2 else u_firstFoundAt_a1)) (T42 : State) (L42 : List Loc) (X42 : Stand p l e ({ frames := 0, cells := 0, slots := 0, locals := 0 } : Room) s m #[(.ref a1), (.long q1), (.long q2)] below meth c T42 L42 0 0) (N42 : Fr n0 L42) (Z43 : n0 ≤ T42.heap.size) (K44 : Keep h0 T42.heap [a1]) (E45 : Exa Z T42.heap a1 "com/example/funnel/funnel/relay/Backlog") (F46 : Fld Z T42.heap a1 "com/example/funnel/funnel/relay/Backlog" "since" "J" (.long z12)) (F48 : Fld Z T42.heap a1 "com/example/funnel/funnel/relay/Backlog" "firstFoundAt" "J" (.long z47)) (F49 : Fld Z T42.heap a1 "com/example/funnel/funnel/relay/Backlog" "acceptStarts" "[J" u_acceptStarts_a1) (F50 : Fld Z T42.heap a1 "com/example/funnel/funnel/relay/Backlog" "unwatched" "Z" (.int (0 : Int32))) (F51 : Fld Z T42.heap a1 "com/example/funnel/funnel/relay/Backlog" "foundAt" "J" (.long q2)) (F52 : Fld Z T42.heap a1 "com/example/funnel/funnel/relay/Backlog" "accepts" "J" (.long u_accepts_a1)), own_G p.tables e below (own_P s (Q4 Z a1 q1 q2 u_since_a1 u_firstFoundAt_a1 u_acceptStarts_a1 u_unwatched_a1 u_foundAt_a1 u_accepts_a1 h0 n0) 0 0) (T42.setTop (mkF m 70 #[.val (.ref a1), .val (.long q1), .second, .val (.long q2), .second, .val (.int z4)] [])) := by
        intro z47 hz47 T42 L42 X42 N42 Z43 K44 E45 F46 F48 F49 F50 F51 F52
        exact own_retV X42 hx hlk Bd.returns (hb hby d4_70) ⟨rfl, N42, K44, E45, (own_fld F46 (congrArg Value.long (by subst hz47; subst hz12; subst hz4; exact rfl))), (own_fld F48 (congrArg Value.long (by subst hz47; subst hz12; subst hz4; exact rfl))), F49, (own_fld F50 (congrArg Value.int (by subst hz47; subst hz12; subst hz4; exact rfl))), (own_fld F51 (congrArg Value.long (by subst hz47; subst hz12; subst hz4; exact rfl))), (own_fld F52 (congrArg Value.long (by subst hz47; subst hz12; subst hz4; exact rfl)))⟩ (by decide) (by decide)
      by_cases hc62_40 : u_firstFoundAt_a1 = (-9223372036854775808 : Int64)
      · refine own_st (fun _ k => XS.ifNo X39.here hx rfl (hb hby d4_62) rfl ((if0 _ _).trans (teq ((lw_eq u_firstFoundAt_a1 (-9223372036854775808 : Int64)).mpr hc62_40)).2) k) ?_
        show own_G p.tables e below _ (T39.setTop (mkF m 65 #[.val (.ref a1), .val (.long q1), .second, .val (.long q2), .second, .val (.int z4)] []))
        refine own_st (fun _ k => XS.aloadN X39.here hx rfl (hb hby d4_65) rfl rfl k) ?_
        show own_G p.tables e below _ (T39.setTop (mkF m 66 #[.val (.ref a1), .val (.long q1), .second, .val (.long q2), .second, .val (.int z4)] [(.ref a1)]))
        refine own_st (fun _ k => XS.lloadN X39.here hx rfl (hb hby d4_66) rfl k) ?_
        show own_G p.tables e below _ (T39.setTop (mkF m 67 #[.val (.ref a1), .val (.long q1), .second, .val (.long q2), .second, .val (.int z4)] [(.long q2), (.ref a1)]))
        obtain ⟨T53, h53, X53, e53, W53, st53⟩ := putF X39 hx hZ hown (host := "") (Or.inl (hw _ (List.mem_of_getElem? (i := 17) rfl))) Via.refl e39 F32 E30 (Or.inl (hw _ (List.mem_of_getElem? (i := 18) rfl))) (hw _ (List.mem_of_getElem? (i := 6) rfl)) (ty := .long) (by decide) rfl rfl (g := (mkF m 67 #[.val (.ref a1), .val (.long q1), .second, .val (.long q2), .second, .val (.int z4)] [(.long q2), (.ref a1)])) rfl rfl (hb hby d4_67)
        have N53 := Fr.snoc X53 N29 ge_a1
        have E54 := E30.wr W53
        have F55 := F31.other W53 (Or.inr (slot_ne (Or.inl (hw _ (List.mem_of_getElem? (i := 16) rfl))) (Or.inl (hw _ (List.mem_of_getElem? (i := 18) rfl))) (by decide) (t := .long) (t' := .long) (by decide) (by decide)))
        have F56 := F32.same W53
        have F57 := F33.other W53 (Or.inr (slot_ne (Or.inr (hw _ (List.mem_of_getElem? (i := 21) rfl))) (Or.inl (hw _ (List.mem_of_getElem? (i := 18) rfl))) (by decide) (t := (.array .long)) (t' := .long) (by decide) (by decide)))
        have F58 := F34.other W53 (Or.inr (slot_ne (Or.inl (hw _ (List.mem_of_getElem? (i := 28) rfl))) (Or.inl (hw _ (List.mem_of_getElem? (i := 18) rfl))) (by decide) (t := .boolean) (t' := .long) (by decide) (by decide)))
        have F59 := F35.other W53 (Or.inr (slot_ne (Or.inl (hw _ (List.mem_of_getElem? (i := 30) rfl))) (Or.inl (hw _ (List.mem_of_getElem? (i := 18) rfl))) (by decide) (t := .long) (t' := .long) (by decide) (by decide)))
        have F60 := F36.other W53 (Or.inr (slot_ne (Or.inl (hw _ (List.mem_of_getElem? (i := 38) rfl))) (Or.inl (hw _ (List.mem_of_getElem? (i := 18) rfl))) (by decide) (t := .long) (t' := .long) (by decide) (by decide)))
        have Z61 := Nat.le_trans Z37 (Keep.of_wr W53).1
        have K62 := K38.wr W53 (Or.inl (List.mem_of_getElem? (i := 0) rfl))
        refine own_st st53 ?_
        show own_G p.tables e below _ (T53.setTop (mkF m 70 #[.val (.ref a1), .val (.long q1), .second, .val (.long q2), .second, .val (.int z4)] []))
        exact J70_41 q2 ((if_pos hc62_40).symm) _ _ X53 N53 (by rw [e53]; exact Z61) (by rw [e53]; exact K62) (by rw [e53]; exact E54) (by rw [e53]; exact F55) (by rw [e53]; exact F56) (by rw [e53]; exact F57) (by rw [e53]; exact F58) (by rw [e53]; exact F59) (by rw [e53]; exact F60)
      · refine own_st (fun _ k => XS.ifYes X39.here hx rfl (pc0 := 62) (pc' := 70) rfl (hb hby d4_62) rfl ((if0 _ _).trans (feq (fun q => hc62_40 ((lw_eq u_firstFoundAt_a1 (-9223372036854775808 : Int64)).mp q))).2) (by decide) (by decide) k) ?_
        show own_G p.tables e below _ (T39.setTop (mkF m 70 #[.val (.ref a1), .val (.long q1), .second, .val (.long q2), .second, .val (.int z4)] []))
        exact J70_41 u_firstFoundAt_a1 ((if_neg hc62_40).symm) _ _ X39 N29 (by rw [e39]; exact Z37) (by rw [e39]; exact K38) (by rw [e39]; exact E30) (by rw [e39]; exact F31) (by rw [e39]; exact F32) (by rw [e39]; exact F33) (by rw [e39]; exact F34) (by rw [e39]; exact F35) (by rw [e39]; exact F36)
    by_cases hc36_6 : ¬ (u_since_a1 = (-9223372036854775808 : Int64)) ∧ (¬ (u_unwatched_a1 = (0 : Int32)) ∨ (¬ (u_foundAt_a1 < q1)))
    · refine own_st (fun _ k => XS.ifYes X5.here hx rfl (pc0 := 36) (pc' := 44) rfl (hb hby d4_36) rfl ((if0 _ _).trans (feq (own_b1 hz4 hc36_6)).2) (by decide) (by decide) k) ?_
      show own_G p.tables e below _ (T5.setTop (mkF m 44 #[.val (.ref a1), .val (.long q1), .second, .val (.long q2), .second, .val (.int z4)] []))
      exact J44_7 u_since_a1 ((if_pos hc36_6).symm) _ _ X5 N5 (by rw [e5]; exact Z0) (by rw [e5]; exact K0) (by rw [e5]; exact E_a1) (by rw [e5]; exact F_since_a1) (by rw [e5]; exact F_firstFoundAt_a1) (by rw [e5]; exact F_acceptStarts_a1) (by rw [e5]; exact F_unwatched_a1) (by rw [e5]; exact F_foundAt_a1) (by rw [e5]; exact F_accepts_a1)
    · refine own_st (fun _ k => XS.ifNo X5.here hx rfl (hb hby d4_36) rfl ((if0 _ _).trans (teq (own_b0 hz4 hc36_6)).2) k) ?_
      show own_G p.tables e below _ (T5.setTop (mkF m 39 #[.val (.ref a1), .val (.long q1), .second, .val (.long q2), .second, .val (.int z4)] []))
      refine own_st (fun _ k => XS.aloadN X5.here hx rfl (hb hby d4_39) rfl rfl k) ?_
      show own_G p.tables e below _ (T5.setTop (mkF m 40 #[.val (.ref a1), .val (.long q1), .second, .val (.long q2), .second, .val (.int z4)] [(.ref a1)]))
      refine own_st (fun _ k => XS.lloadN X5.here hx rfl (hb hby d4_40) rfl k) ?_
      show own_G p.tables e below _ (T5.setTop (mkF m 41 #[.val (.ref a1), .val (.long q1), .second, .val (.long q2), .second, .val (.int z4)] [(.long q1), (.ref a1)]))
      obtain ⟨T63, h63, X63, e63, W63, st63⟩ := putF X5 hx hZ hown (host := "") (Or.inl (hw _ (List.mem_of_getElem? (i := 15) rfl))) Via.refl e5 F_since_a1 E_a1 (Or.inl (hw _ (List.mem_of_getElem? (i := 16) rfl))) (hw _ (List.mem_of_getElem? (i := 6) rfl)) (ty := .long) (by decide) rfl rfl (g := (mkF m 41 #[.val (.ref a1), .val (.long q1), .second, .val (.long q2), .second, .val (.int z4)] [(.long q1), (.ref a1)])) rfl rfl (hb hby d4_41)
      have N63 := Fr.snoc X63 N5 ge_a1
      have E64 := E_a1.wr W63
      have F65 := F_since_a1.same W63
      have F66 := F_firstFoundAt_a1.other W63 (Or.inr (slot_ne (Or.inl (hw _ (List.mem_of_getElem? (i := 18) rfl))) (Or.inl (hw _ (List.mem_of_getElem? (i := 16) rfl))) (by decide) (t := .long) (t' := .long) (by decide) (by decide)))
      have F67 := F_acceptStarts_a1.other W63 (Or.inr (slot_ne (Or.inr (hw _ (List.mem_of_getElem? (i := 21) rfl))) (Or.inl (hw _ (List.mem_of_getElem? (i := 16) rfl))) (by decide) (t := (.array .long)) (t' := .long) (by decide) (by decide)))
      have F68 := F_unwatched_a1.other W63 (Or.inr (slot_ne (Or.inl (hw _ (List.mem_of_getElem? (i := 28) rfl))) (Or.inl (hw _ (List.mem_of_getElem? (i := 16) rfl))) (by decide) (t := .boolean) (t' := .long) (by decide) (by decide)))
      have F69 := F_foundAt_a1.other W63 (Or.inr (slot_ne (Or.inl (hw _ (List.mem_of_getElem? (i := 30) rfl))) (Or.inl (hw _ (List.mem_of_getElem? (i := 16) rfl))) (by decide) (t := .long) (t' := .long) (by decide) (by decide)))
      have F70 := F_accepts_a1.other W63 (Or.inr (slot_ne (Or.inl (hw _ (List.mem_of_getElem? (i := 38) rfl))) (Or.inl (hw _ (List.mem_of_getElem? (i := 16) rfl))) (by decide) (t := .long) (t' := .long) (by decide) (by decide)))
      have Z71 := Nat.le_trans Z0 (Keep.of_wr W63).1
      have K72 := K0.wr W63 (Or.inl (List.mem_of_getElem? (i := 0) rfl))
      refine own_st st63 ?_
      show own_G p.tables e below _ (T63.setTop (mkF m 44 #[.val (.ref a1), .val (.long q1), .second, .val (.long q2), .second, .val (.int z4)] []))
      exact J44_7 q1 ((if_neg hc36_6).symm) _ _ X63 N63 (by rw [e63]; exact Z71) (by rw [e63]; exact K72) (by rw [e63]; exact E64) (by rw [e63]; exact F65) (by rw [e63]; exact F66) (by rw [e63]; exact F67) (by rw [e63]; exact F68) (by rw [e63]; exact F69) (by rw [e63]; exact F70)
  by_cases hc8_2 : u_since_a1 = (-9223372036854775808 : Int64)
  · refine own_st (fun _ k => XS.ifYes X1.here hx rfl (pc0 := 8) (pc' := 31) rfl (hb hby d4_8) rfl ((if0 _ _).trans (teq ((lw_eq u_since_a1 (-9223372036854775808 : Int64)).mpr hc8_2)).1) (by decide) (by decide) k) ?_
    show own_G p.tables e below _ (T1.setTop (mkF m 31 #[.val (.ref a1), .val (.long q1), .second, .val (.long q2), .second, .unset] []))
    refine own_st (fun _ k => XS.iconst X1.here hx rfl (hb hby d4_31) k) ?_
    show own_G p.tables e below _ (T1.setTop (mkF m 32 #[.val (.ref a1), .val (.long q1), .second, .val (.long q2), .second, .unset] [(.int (0 : Int32))]))
    exact J32_3 (0 : Int32) ((own_bf (fun q => q.1 hc8_2)).symm) _ _ X1 N0 e1
  · refine own_st (fun _ k => XS.ifNo X1.here hx rfl (hb hby d4_8) rfl ((if0 _ _).trans (feq (fun q => hc8_2 ((lw_eq u_since_a1 (-9223372036854775808 : Int64)).mp q))).1) k) ?_
    show own_G p.tables e below _ (T1.setTop (mkF m 11 #[.val (.ref a1), .val (.long q1), .second, .val (.long q2), .second, .unset] []))
    refine own_st (fun _ k => XS.aloadN X1.here hx rfl (hb hby d4_11) rfl rfl k) ?_
    show own_G p.tables e below _ (T1.setTop (mkF m 12 #[.val (.ref a1), .val (.long q1), .second, .val (.long q2), .second, .unset] [(.ref a1)]))
    obtain ⟨T73, X73, e73, st73⟩ := getF X1 hx hZ hown (host := "") (Or.inl (hw _ (List.mem_of_getElem? (i := 27) rfl))) Via.refl e1 F_unwatched_a1 (g := (mkF m 12 #[.val (.ref a1), .val (.long q1), .second, .val (.long q2), .second, .unset] [(.ref a1)])) rfl rfl (hb hby d4_12)
    refine own_st st73 ?_
    show own_G p.tables e below _ (T73.setTop (mkF m 15 #[.val (.ref a1), .val (.long q1), .second, .val (.long q2), .second, .unset] [(.int u_unwatched_a1)]))
    by_cases hc15_74 : u_unwatched_a1 = (0 : Int32)
    · refine own_st (fun _ k => XS.ifNo X73.here hx rfl (hb hby d4_15) rfl ((if0 _ _).trans (teq hc15_74).2) k) ?_
      show own_G p.tables e below _ (T73.setTop (mkF m 18 #[.val (.ref a1), .val (.long q1), .second, .val (.long q2), .second, .unset] []))
      refine own_st (fun _ k => XS.lloadN X73.here hx rfl (hb hby d4_18) rfl k) ?_
      show own_G p.tables e below _ (T73.setTop (mkF m 19 #[.val (.ref a1), .val (.long q1), .second, .val (.long q2), .second, .unset] [(.long q1)]))
      refine own_st (fun _ k => XS.aloadN X73.here hx rfl (hb hby d4_19) rfl rfl k) ?_
      show own_G p.tables e below _ (T73.setTop (mkF m 20 #[.val (.ref a1), .val (.long q1), .second, .val (.long q2), .second, .unset] [(.ref a1), (.long q1)]))
      obtain ⟨T75, X75, e75, st75⟩ := getF X73 hx hZ hown (host := "") (Or.inl (hw _ (List.mem_of_getElem? (i := 29) rfl))) Via.refl e73 F_foundAt_a1 (g := (mkF m 20 #[.val (.ref a1), .val (.long q1), .second, .val (.long q2), .second, .unset] [(.ref a1), (.long q1)])) rfl rfl (hb hby d4_20)
      refine own_st st75 ?_
      show own_G p.tables e below _ (T75.setTop (mkF m 23 #[.val (.ref a1), .val (.long q1), .second, .val (.long q2), .second, .unset] [(.long u_foundAt_a1), (.long q1)]))
      refine own_st (fun _ k => XS.lcmp X75.here hx rfl (hb hby d4_23) rfl k) ?_
      show own_G p.tables e below _ (T75.setTop (mkF m 24 #[.val (.ref a1), .val (.long q1), .second, .val (.long q2), .second, .unset] [(.int (lcmpW q1 u_foundAt_a1))]))
      by_cases hc24_76 : u_foundAt_a1 < q1
      · refine own_st (fun _ k => XS.ifYes X75.here hx rfl (pc0 := 24) (pc' := 31) rfl (hb hby d4_24) rfl ((if0 _ _).trans (tlt ((lw_gt q1 u_foundAt_a1).mpr hc24_76)).2.2.1) (by decide) (by decide) k) ?_
        show own_G p.tables e below _ (T75.setTop (mkF m 31 #[.val (.ref a1), .val (.long q1), .second, .val (.long q2), .second, .unset] []))
        refine own_st (fun _ k => XS.iconst X75.here hx rfl (hb hby d4_31) k) ?_
        show own_G p.tables e below _ (T75.setTop (mkF m 32 #[.val (.ref a1), .val (.long q1), .second, .val (.long q2), .second, .unset] [(.int (0 : Int32))]))
        exact J32_3 (0 : Int32) ((own_bf (fun q => (fun q => q.elim (fun r => r hc15_74) (fun q => q hc24_76)) q.2)).symm) _ _ X75 N0 e75
      · refine own_st (fun _ k => XS.ifNo X75.here hx rfl (hb hby d4_24) rfl ((if0 _ _).trans (flt (fun q => hc24_76 ((lw_gt q1 u_foundAt_a1).mp q))).2.2.1) k) ?_
        show own_G p.tables e below _ (T75.setTop (mkF m 27 #[.val (.ref a1), .val (.long q1), .second, .val (.long q2), .second, .unset] []))
        refine own_st (fun _ k => XS.iconst X75.here hx rfl (hb hby d4_27) k) ?_
        show own_G p.tables e below _ (T75.setTop (mkF m 28 #[.val (.ref a1), .val (.long q1), .second, .val (.long q2), .second, .unset] [(.int (1 : Int32))]))
        refine own_st (fun _ k => XS.goto X75.here hx rfl (pc0 := 28) (pc' := 32) rfl (hb hby d4_28) (by decide) (by decide) k) ?_
        show own_G p.tables e below _ (T75.setTop (mkF m 32 #[.val (.ref a1), .val (.long q1), .second, .val (.long q2), .second, .unset] [(.int (1 : Int32))]))
        exact J32_3 (1 : Int32) ((own_bt ⟨hc8_2, (Or.inr hc24_76)⟩).symm) _ _ X75 N0 e75
    · refine own_st (fun _ k => XS.ifYes X73.here hx rfl (pc0 := 15) (pc' := 27) rfl (hb hby d4_15) rfl ((if0 _ _).trans (feq hc15_74).2) (by decide) (by decide) k) ?_
      show own_G p.tables e below _ (T73.setTop (mkF m 27 #[.val (.ref a1), .val (.long q1), .second, .val (.long q2), .second, .unset] []))
      refine own_st (fun _ k => XS.iconst X73.here hx rfl (hb hby d4_27) k) ?_
      show own_G p.tables e below _ (T73.setTop (mkF m 28 #[.val (.ref a1), .val (.long q1), .second, .val (.long q2), .second, .unset] [(.int (1 : Int32))]))
      refine own_st (fun _ k => XS.goto X73.here hx rfl (pc0 := 28) (pc' := 32) rfl (hb hby d4_28) (by decide) (by decide) k) ?_
      show own_G p.tables e below _ (T73.setTop (mkF m 32 #[.val (.ref a1), .val (.long q1), .second, .val (.long q2), .second, .unset] [(.int (1 : Int32))]))
      exact J32_3 (1 : Int32) ((own_bt ⟨hc8_2, (Or.inl hc15_74)⟩).symm) _ _ X73 N0 e73
def Q11 (Z : State) (a1 : Addr) (u_since_a1 : Int64) (u_firstFoundAt_a1 : Int64) (u_acceptStarts_a1 : Value) (u_unwatched_a1 : Int32) (u_foundAt_a1 : Int64) (u_accepts_a1 : Int64) (h0 : Heap) (n0 : Nat) (v : Option Value) (h : Heap) (L : List Loc) : Prop := v = none ∧ Fr n0 L ∧ Keep h0 h [a1] ∧ Exa Z h a1 "com/example/funnel/funnel/relay/Backlog" ∧ Fld Z h a1 "com/example/funnel/funnel/relay/Backlog" "since" "J" (.long u_since_a1) ∧ Fld Z h a1 "com/example/funnel/funnel/relay/Backlog" "firstFoundAt" "J" (.long u_firstFoundAt_a1) ∧ Fld Z h a1 "com/example/funnel/funnel/relay/Backlog" "acceptStarts" "[J" u_acceptStarts_a1 ∧ Fld Z h a1 "com/example/funnel/funnel/relay/Backlog" "unwatched" "Z" (.int (1 : Int32)) ∧ Fld Z h a1 "com/example/funnel/funnel/relay/Backlog" "foundAt" "J" (.long u_foundAt_a1) ∧ Fld Z h a1 "com/example/funnel/funnel/relay/Backlog" "accepts" "J" (.long u_accepts_a1)
set_option maxRecDepth 65536 in
set_option maxHeartbeats 40000000 in
theorem rm11 (l : Launch) (Z : State) (a0 : Array Value) (hw : ∀ d ∈ tables_1, d.before a0 Z = true) (ws : List Jvm.Cond) (a1 : Addr) (u_since_a1 : Int64) (u_firstFoundAt_a1 : Int64) (u_acceptStarts_a1 : Value) (u_unwatched_a1 : Int32) (u_foundAt_a1 : Int64) (u_accepts_a1 : Int64) (h0 : Heap) (n0 : Nat) (Z0 : n0 ≤ h0.size) (F_since_a1 : Fld Z h0 a1 "com/example/funnel/funnel/relay/Backlog" "since" "J" (.long u_since_a1)) (F_firstFoundAt_a1 : Fld Z h0 a1 "com/example/funnel/funnel/relay/Backlog" "firstFoundAt" "J" (.long u_firstFoundAt_a1)) (F_acceptStarts_a1 : Fld Z h0 a1 "com/example/funnel/funnel/relay/Backlog" "acceptStarts" "[J" u_acceptStarts_a1) (F_unwatched_a1 : Fld Z h0 a1 "com/example/funnel/funnel/relay/Backlog" "unwatched" "Z" (.int u_unwatched_a1)) (F_foundAt_a1 : Fld Z h0 a1 "com/example/funnel/funnel/relay/Backlog" "foundAt" "J" (.long u_foundAt_a1)) (F_accepts_a1 : Fld Z h0 a1 "com/example/funnel/funnel/relay/Backlog" "accepts" "J" (.long u_accepts_a1)) (E_a1 : Exa Z h0 a1 "com/example/funnel/funnel/relay/Backlog") (ge_a1 : n0 ≤ a1) :
    MetFree l (⟨"com/example/funnel/funnel/relay/Backlog", "unwatched", "()V"⟩ : MethodName) (head1 (Jvm.Cond.code (⟨"com/example/funnel/funnel/relay/Backlog", "unwatched", "()V"⟩ : MethodName) prog_35_method_3_code 1 none :: ws) ({ frames := 0, cells := 0, slots := 0, locals := 0 } : Room)) (fun a U => a = #[(.ref a1)] ∧ Z.Warmed39 U.vm ∧ U.heap = h0) (fun _ _ _ _ _ => True) (fun _ U o U' => ∃ v L, o = .returned v ∧ Q11 Z a1 u_since_a1 u_firstFoundAt_a1 u_acceptStarts_a1 u_unwatched_a1 u_foundAt_a1 u_accepts_a1 h0 n0 v U'.heap L ∧ FrameEnd U o U' L ({ frames := 0, cells := 0, slots := 0, locals := 0 } : Room).cells ({ frames := 0, cells := 0, slots := 0, locals := 0 } : Room).slots) := by
  refine MetFree.of_bodySF (plainFor_of_name pn_11) hisR ?_
  intro p e s m args below meth c s₁ Bd hml0 hP hK
  obtain ⟨rfl, hZ, hh⟩ := hP
  have hx := Bd.exec
  have hby := Bd.bytes
  have hlk := BodyLoose.notSynchronized Bd
  have hml : c.maxLocals = 1 := hml0
  have hown : s.vm.findClass "com/example/funnel/funnel/relay/Backlog" = some m.cls := findClass_of_methodNamed Bd.named
  have hnm := (name_of_methodNamed Bd.named Bd.method).1
  have X0 : Stand p l e ({ frames := 0, cells := 0, slots := 0, locals := 0 } : Room) s m #[(.ref a1)] below meth c s₁ [] 0 0 := Stand.of_body Bd
  have e0 : s₁.heap = h0 := by rw [← hh, Bd.state]; rfl
  have N0 := Fr.nil n0
  have K0 := Keep.refl h0 [a1]
  show own_G p.tables e below (own_P s (Q11 Z a1 u_since_a1 u_firstFoundAt_a1 u_acceptStarts_a1 u_unwatched_a1 u_foundAt_a1 u_accepts_a1 h0 n0) 0 0) (s₁.setTop (entryFrame m #[(.ref a1)] 1))
  refine own_st (fun t k => castTop (ef_11 m a1) k) ?_
  show own_G p.tables e below _ (s₁.setTop (mkF m 0 #[.val (.ref a1)] []))
  refine own_st (fun _ k => XS.aloadN X0.here hx rfl (hb hby d11_0) rfl rfl k) ?_
  show own_G p.tables e below _ (s₁.setTop (mkF m 1 #[.val (.ref a1)] [(.ref a1)]))
  refine own_st (fun _ k => XS.iconst X0.here hx rfl (hb hby d11_1) k) ?_
  show own_G p.tables e below _ (s₁.setTop (mkF m 2 #[.val (.ref a1)] [(.int (1 : Int32)), (.ref a1)]))
  obtain ⟨T1, h1, X1, e1, W1, st1⟩ := putF X0 hx hZ hown (host := "") (Or.inl (hw _ (List.mem_of_getElem? (i := 27) rfl))) Via.refl e0 F_unwatched_a1 E_a1 (Or.inl (hw _ (List.mem_of_getElem? (i := 28) rfl))) (hw _ (List.mem_of_getElem? (i := 6) rfl)) (ty := .boolean) (by decide) rfl rfl (g := (mkF m 2 #[.val (.ref a1)] [(.int (1 : Int32)), (.ref a1)])) rfl rfl (hb hby d11_2)
  have N1 := Fr.snoc X1 N0 ge_a1
  have E2 := E_a1.wr W1
  have F3 := F_since_a1.other W1 (Or.inr (slot_ne (Or.inl (hw _ (List.mem_of_getElem? (i := 16) rfl))) (Or.inl (hw _ (List.mem_of_getElem? (i := 28) rfl))) (by decide) (t := .long) (t' := .boolean) (by decide) (by decide)))
  have F4 := F_firstFoundAt_a1.other W1 (Or.inr (slot_ne (Or.inl (hw _ (List.mem_of_getElem? (i := 18) rfl))) (Or.inl (hw _ (List.mem_of_getElem? (i := 28) rfl))) (by decide) (t := .long) (t' := .boolean) (by decide) (by decide)))
  have F5 := F_acceptStarts_a1.other W1 (Or.inr (slot_ne (Or.inr (hw _ (List.mem_of_getElem? (i := 21) rfl))) (Or.inl (hw _ (List.mem_of_getElem? (i := 28) rfl))) (by decide) (t := (.array .long)) (t' := .boolean) (by decide) (by decide)))
  have F6 := F_unwatched_a1.same W1
  have F7 := F_foundAt_a1.other W1 (Or.inr (slot_ne (Or.inl (hw _ (List.mem_of_getElem? (i := 30) rfl))) (Or.inl (hw _ (List.mem_of_getElem? (i := 28) rfl))) (by decide) (t := .long) (t' := .boolean) (by decide) (by decide)))
  have F8 := F_accepts_a1.other W1 (Or.inr (slot_ne (Or.inl (hw _ (List.mem_of_getElem? (i := 38) rfl))) (Or.inl (hw _ (List.mem_of_getElem? (i := 28) rfl))) (by decide) (t := .long) (t' := .boolean) (by decide) (by decide)))
  have Z9 := Nat.le_trans Z0 (Keep.of_wr W1).1
  have K10 := K0.wr W1 (Or.inl (List.mem_of_getElem? (i := 0) rfl))
  refine own_st st1 ?_
  show own_G p.tables e below _ (T1.setTop (mkF m 5 #[.val (.ref a1)] []))
  exact own_retV X1 hx hlk Bd.returns (hb hby d11_5) (by rw [e1]; exact ⟨rfl, N1, K10, E2, F3, F4, F5, F6, F7, F8⟩) (by decide) (by decide)
def Q12 (Z : State) (a1 : Addr) (u_since_a1 : Int64) (u_firstFoundAt_a1 : Int64) (u_acceptStarts_a1 : Value) (u_unwatched_a1 : Int32) (u_foundAt_a1 : Int64) (u_accepts_a1 : Int64) (h0 : Heap) (n0 : Nat) (v : Option Value) (h : Heap) (L : List Loc) : Prop := v = none ∧ Fr n0 L ∧ Keep h0 h [a1] ∧ Exa Z h a1 "com/example/funnel/funnel/relay/Backlog" ∧ Fld Z h a1 "com/example/funnel/funnel/relay/Backlog" "since" "J" (.long (-9223372036854775808 : Int64)) ∧ Fld Z h a1 "com/example/funnel/funnel/relay/Backlog" "firstFoundAt" "J" (.long (-9223372036854775808 : Int64)) ∧ Fld Z h a1 "com/example/funnel/funnel/relay/Backlog" "acceptStarts" "[J" u_acceptStarts_a1 ∧ Fld Z h a1 "com/example/funnel/funnel/relay/Backlog" "unwatched" "Z" (.int u_unwatched_a1) ∧ Fld Z h a1 "com/example/funnel/funnel/relay/Backlog" "foundAt" "J" (.long u_foundAt_a1) ∧ Fld Z h a1 "com/example/funnel/funnel/relay/Backlog" "accepts" "J" (.long u_accepts_a1)
set_option maxRecDepth 65536 in
set_option maxHeartbeats 40000000 in
theorem rm12 (l : Launch) (Z : State) (a0 : Array Value) (hw : ∀ d ∈ tables_1, d.before a0 Z = true) (ws : List Jvm.Cond) (a1 : Addr) (u_since_a1 : Int64) (u_firstFoundAt_a1 : Int64) (u_acceptStarts_a1 : Value) (u_unwatched_a1 : Int32) (u_foundAt_a1 : Int64) (u_accepts_a1 : Int64) (h0 : Heap) (n0 : Nat) (Z0 : n0 ≤ h0.size) (F_since_a1 : Fld Z h0 a1 "com/example/funnel/funnel/relay/Backlog" "since" "J" (.long u_since_a1)) (F_firstFoundAt_a1 : Fld Z h0 a1 "com/example/funnel/funnel/relay/Backlog" "firstFoundAt" "J" (.long u_firstFoundAt_a1)) (F_acceptStarts_a1 : Fld Z h0 a1 "com/example/funnel/funnel/relay/Backlog" "acceptStarts" "[J" u_acceptStarts_a1) (F_unwatched_a1 : Fld Z h0 a1 "com/example/funnel/funnel/relay/Backlog" "unwatched" "Z" (.int u_unwatched_a1)) (F_foundAt_a1 : Fld Z h0 a1 "com/example/funnel/funnel/relay/Backlog" "foundAt" "J" (.long u_foundAt_a1)) (F_accepts_a1 : Fld Z h0 a1 "com/example/funnel/funnel/relay/Backlog" "accepts" "J" (.long u_accepts_a1)) (E_a1 : Exa Z h0 a1 "com/example/funnel/funnel/relay/Backlog") (ge_a1 : n0 ≤ a1) :
    MetFree l (⟨"com/example/funnel/funnel/relay/Backlog", "emptied", "()V"⟩ : MethodName) (head1 (Jvm.Cond.code (⟨"com/example/funnel/funnel/relay/Backlog", "emptied", "()V"⟩ : MethodName) prog_35_method_4_code 1 none :: ws) ({ frames := 0, cells := 0, slots := 0, locals := 0 } : Room)) (fun a U => a = #[(.ref a1)] ∧ Z.Warmed39 U.vm ∧ U.heap = h0) (fun _ _ _ _ _ => True) (fun _ U o U' => ∃ v L, o = .returned v ∧ Q12 Z a1 u_since_a1 u_firstFoundAt_a1 u_acceptStarts_a1 u_unwatched_a1 u_foundAt_a1 u_accepts_a1 h0 n0 v U'.heap L ∧ FrameEnd U o U' L ({ frames := 0, cells := 0, slots := 0, locals := 0 } : Room).cells ({ frames := 0, cells := 0, slots := 0, locals := 0 } : Room).slots) := by
  refine MetFree.of_bodySF (plainFor_of_name pn_12) hisR ?_
  intro p e s m args below meth c s₁ Bd hml0 hP hK
  obtain ⟨rfl, hZ, hh⟩ := hP
  have hx := Bd.exec
  have hby := Bd.bytes
  have hlk := BodyLoose.notSynchronized Bd
  have hml : c.maxLocals = 1 := hml0
  have hown : s.vm.findClass "com/example/funnel/funnel/relay/Backlog" = some m.cls := findClass_of_methodNamed Bd.named
  have hnm := (name_of_methodNamed Bd.named Bd.method).1
  have X0 : Stand p l e ({ frames := 0, cells := 0, slots := 0, locals := 0 } : Room) s m #[(.ref a1)] below meth c s₁ [] 0 0 := Stand.of_body Bd
  have e0 : s₁.heap = h0 := by rw [← hh, Bd.state]; rfl
  have N0 := Fr.nil n0
  have K0 := Keep.refl h0 [a1]
  show own_G p.tables e below (own_P s (Q12 Z a1 u_since_a1 u_firstFoundAt_a1 u_acceptStarts_a1 u_unwatched_a1 u_foundAt_a1 u_accepts_a1 h0 n0) 0 0) (s₁.setTop (entryFrame m #[(.ref a1)] 1))
  refine own_st (fun t k => castTop (ef_12 m a1) k) ?_
  show own_G p.tables e below _ (s₁.setTop (mkF m 0 #[.val (.ref a1)] []))
  refine own_st (fun _ k => XS.aloadN X0.here hx rfl (hb hby d12_0) rfl rfl k) ?_
  show own_G p.tables e below _ (s₁.setTop (mkF m 1 #[.val (.ref a1)] [(.ref a1)]))
  refine own_st (X0.ldc2Long hx hown (mvT hZ (hw _ (List.mem_of_getElem? (i := 14) rfl))) (g := (mkF m 1 #[.val (.ref a1)] [(.ref a1)])) rfl (hb hby d12_1)) ?_
  show own_G p.tables e below _ (s₁.setTop (mkF m 4 #[.val (.ref a1)] [(.long (-9223372036854775808 : Int64)), (.ref a1)]))
  obtain ⟨T1, h1, X1, e1, W1, st1⟩ := putF X0 hx hZ hown (host := "") (Or.inl (hw _ (List.mem_of_getElem? (i := 15) rfl))) Via.refl e0 F_since_a1 E_a1 (Or.inl (hw _ (List.mem_of_getElem? (i := 16) rfl))) (hw _ (List.mem_of_getElem? (i := 6) rfl)) (ty := .long) (by decide) rfl rfl (g := (mkF m 4 #[.val (.ref a1)] [(.long (-9223372036854775808 : Int64)), (.ref a1)])) rfl rfl (hb hby d12_4)
  have N1 := Fr.snoc X1 N0 ge_a1
  have E2 := E_a1.wr W1
  have F3 := F_since_a1.same W1
  have F4 := F_firstFoundAt_a1.other W1 (Or.inr (slot_ne (Or.inl (hw _ (List.mem_of_getElem? (i := 18) rfl))) (Or.inl (hw _ (List.mem_of_getElem? (i := 16) rfl))) (by decide) (t := .long) (t' := .long) (by decide) (by decide)))
  have F5 := F_acceptStarts_a1.other W1 (Or.inr (slot_ne (Or.inr (hw _ (List.mem_of_getElem? (i := 21) rfl))) (Or.inl (hw _ (List.mem_of_getElem? (i := 16) rfl))) (by decide) (t := (.array .long)) (t' := .long) (by decide) (by decide)))
  have F6 := F_unwatched_a1.other W1 (Or.inr (slot_ne (Or.inl (hw _ (List.mem_of_getElem? (i := 28) rfl))) (Or.inl (hw _ (List.mem_of_getElem? (i := 16) rfl))) (by decide) (t := .boolean) (t' := .long) (by decide) (by decide)))
  have F7 := F_foundAt_a1.other W1 (Or.inr (slot_ne (Or.inl (hw _ (List.mem_of_getElem? (i := 30) rfl))) (Or.inl (hw _ (List.mem_of_getElem? (i := 16) rfl))) (by decide) (t := .long) (t' := .long) (by decide) (by decide)))
  have F8 := F_accepts_a1.other W1 (Or.inr (slot_ne (Or.inl (hw _ (List.mem_of_getElem? (i := 38) rfl))) (Or.inl (hw _ (List.mem_of_getElem? (i := 16) rfl))) (by decide) (t := .long) (t' := .long) (by decide) (by decide)))
  have Z9 := Nat.le_trans Z0 (Keep.of_wr W1).1
  have K10 := K0.wr W1 (Or.inl (List.mem_of_getElem? (i := 0) rfl))
  refine own_st st1 ?_
  show own_G p.tables e below _ (T1.setTop (mkF m 7 #[.val (.ref a1)] []))
  refine own_st (fun _ k => XS.aloadN X1.here hx rfl (hb hby d12_7) rfl rfl k) ?_
  show own_G p.tables e below _ (T1.setTop (mkF m 8 #[.val (.ref a1)] [(.ref a1)]))
  refine own_st (X1.ldc2Long hx hown (mvT hZ (hw _ (List.mem_of_getElem? (i := 14) rfl))) (g := (mkF m 8 #[.val (.ref a1)] [(.ref a1)])) rfl (hb hby d12_8)) ?_
  show own_G p.tables e below _ (T1.setTop (mkF m 11 #[.val (.ref a1)] [(.long (-9223372036854775808 : Int64)), (.ref a1)]))
  obtain ⟨T11, h11, X11, e11, W11, st11⟩ := putF X1 hx hZ hown (host := "") (Or.inl (hw _ (List.mem_of_getElem? (i := 17) rfl))) Via.refl e1 F4 E2 (Or.inl (hw _ (List.mem_of_getElem? (i := 18) rfl))) (hw _ (List.mem_of_getElem? (i := 6) rfl)) (ty := .long) (by decide) rfl rfl (g := (mkF m 11 #[.val (.ref a1)] [(.long (-9223372036854775808 : Int64)), (.ref a1)])) rfl rfl (hb hby d12_11)
  have N11 := Fr.snoc X11 N1 ge_a1
  have E12 := E2.wr W11
  have F13 := F3.other W11 (Or.inr (slot_ne (Or.inl (hw _ (List.mem_of_getElem? (i := 16) rfl))) (Or.inl (hw _ (List.mem_of_getElem? (i := 18) rfl))) (by decide) (t := .long) (t' := .long) (by decide) (by decide)))
  have F14 := F4.same W11
  have F15 := F5.other W11 (Or.inr (slot_ne (Or.inr (hw _ (List.mem_of_getElem? (i := 21) rfl))) (Or.inl (hw _ (List.mem_of_getElem? (i := 18) rfl))) (by decide) (t := (.array .long)) (t' := .long) (by decide) (by decide)))
  have F16 := F6.other W11 (Or.inr (slot_ne (Or.inl (hw _ (List.mem_of_getElem? (i := 28) rfl))) (Or.inl (hw _ (List.mem_of_getElem? (i := 18) rfl))) (by decide) (t := .boolean) (t' := .long) (by decide) (by decide)))
  have F17 := F7.other W11 (Or.inr (slot_ne (Or.inl (hw _ (List.mem_of_getElem? (i := 30) rfl))) (Or.inl (hw _ (List.mem_of_getElem? (i := 18) rfl))) (by decide) (t := .long) (t' := .long) (by decide) (by decide)))
  have F18 := F8.other W11 (Or.inr (slot_ne (Or.inl (hw _ (List.mem_of_getElem? (i := 38) rfl))) (Or.inl (hw _ (List.mem_of_getElem? (i := 18) rfl))) (by decide) (t := .long) (t' := .long) (by decide) (by decide)))
  have Z19 := Nat.le_trans Z9 (Keep.of_wr W11).1
  have K20 := K10.wr W11 (Or.inl (List.mem_of_getElem? (i := 0) rfl))
  refine own_st st11 ?_
  show own_G p.tables e below _ (T11.setTop (mkF m 14 #[.val (.ref a1)] []))
  exact own_retV X11 hx hlk Bd.returns (hb hby d12_14) (by rw [e11]; exact ⟨rfl, N11, K20, E12, F13, F14, F15, F16, F17, F18⟩) (by decide) (by decide)
def Q5 (Z : State) (a1 : Addr) (q1 : Int64) (q2 : Int64) (u_since_a1 : Int64) (u_firstFoundAt_a1 : Int64) (b_acceptStarts_a1 : Addr) (k_acceptStarts_a1 : ClassId) (u_unwatched_a1 : Int32) (u_foundAt_a1 : Int64) (h0 : Heap) (n0 : Nat) (v : Option Value) (h : Heap) (L : List Loc) : Prop := (∃ nr : Addr, v = some (.ref nr) ∧ Exa Z h nr "com/example/funnel/funnel/relay/Backlog$Wait" ∧ h0.size ≤ nr ∧ Fld Z h nr "com/example/funnel/funnel/relay/Backlog$Wait" "earliest" "J" (.long (if u_since_a1 < (-9223372036854775808 : Int64) then (-9223372036854775808 : Int64) else u_since_a1)) ∧ Fld Z h nr "com/example/funnel/funnel/relay/Backlog$Wait" "surely" "J" (.long (if u_firstFoundAt_a1 = (-9223372036854775808 : Int64) then q2 else u_firstFoundAt_a1))) ∧ Fr n0 L ∧ Keep h0 h [a1, b_acceptStarts_a1] ∧ Exa Z h a1 "com/example/funnel/funnel/relay/Backlog" ∧ Fld Z h a1 "com/example/funnel/funnel/relay/Backlog" "since" "J" (.long u_since_a1) ∧ Fld Z h a1 "com/example/funnel/funnel/relay/Backlog" "firstFoundAt" "J" (.long (-9223372036854775808 : Int64)) ∧ Fld Z h a1 "com/example/funnel/funnel/relay/Backlog" "acceptStarts" "[J" (.ref b_acceptStarts_a1) ∧ Fld Z h a1 "com/example/funnel/funnel/relay/Backlog" "unwatched" "Z" (.int u_unwatched_a1) ∧ Fld Z h a1 "com/example/funnel/funnel/relay/Backlog" "foundAt" "J" (.long u_foundAt_a1) ∧ Fld Z h a1 "com/example/funnel/funnel/relay/Backlog" "accepts" "J" (.long (1 : Int64))
set_option maxRecDepth 65536 in
set_option maxHeartbeats 40000000 in
theorem rm5 (l : Launch) (Z : State) (a0 : Array Value) (hw : ∀ d ∈ tables_1, d.before a0 Z = true) (ws : List Jvm.Cond) (a1 : Addr) (q1 : Int64) (q2 : Int64) (u_since_a1 : Int64) (u_firstFoundAt_a1 : Int64) (b_acceptStarts_a1 : Addr) (k_acceptStarts_a1 : ClassId) (u_unwatched_a1 : Int32) (u_foundAt_a1 : Int64) (h0 : Heap) (n0 : Nat) (Z0 : n0 ≤ h0.size) (F_since_a1 : Fld Z h0 a1 "com/example/funnel/funnel/relay/Backlog" "since" "J" (.long u_since_a1)) (F_firstFoundAt_a1 : Fld Z h0 a1 "com/example/funnel/funnel/relay/Backlog" "firstFoundAt" "J" (.long u_firstFoundAt_a1)) (F_acceptStarts_a1 : Fld Z h0 a1 "com/example/funnel/funnel/relay/Backlog" "acceptStarts" "[J" (.ref b_acceptStarts_a1)) (V_b_acceptStarts_a1 : Arv Z h0 b_acceptStarts_a1 k_acceptStarts_a1 .long (1 : Int32) [(.long (0 : Int64))] (.long (0 : Int64))) (ne_a1_b_acceptStarts_a1 : a1 ≠ b_acceptStarts_a1) (F_unwatched_a1 : Fld Z h0 a1 "com/example/funnel/funnel/relay/Backlog" "unwatched" "Z" (.int u_unwatched_a1)) (F_foundAt_a1 : Fld Z h0 a1 "com/example/funnel/funnel/relay/Backlog" "foundAt" "J" (.long u_foundAt_a1)) (F_accepts_a1 : Fld Z h0 a1 "com/example/funnel/funnel/relay/Backlog" "accepts" "J" (.long (0 : Int64))) (E_a1 : Exa Z h0 a1 "com/example/funnel/funnel/relay/Backlog") (ge_a1 : n0 ≤ a1) (ge_b_acceptStarts_a1 : n0 ≤ b_acceptStarts_a1) :
    MetFree l (⟨"com/example/funnel/funnel/relay/Backlog", "accepted", "(JJ)Lcom/example/funnel/funnel/relay/Backlog$Wait;"⟩ : MethodName) (head1 (Jvm.Cond.code (⟨"com/example/funnel/funnel/relay/Backlog", "accepted", "(JJ)Lcom/example/funnel/funnel/relay/Backlog$Wait;"⟩ : MethodName) prog_35_method_5_code 10 (some (.object "com/example/funnel/funnel/relay/Backlog$Wait")) :: ws) ({ frames := 3, cells := 1, slots := 2, locals := 41 } : Room)) (fun a U => a = #[(.ref a1), (.long q1), (.long q2)] ∧ Z.Warmed39 U.vm ∧ U.heap = h0) (fun _ _ _ _ _ => True) (fun _ U o U' => ∃ v L, o = .returned v ∧ Q5 Z a1 q1 q2 u_since_a1 u_firstFoundAt_a1 b_acceptStarts_a1 k_acceptStarts_a1 u_unwatched_a1 u_foundAt_a1 h0 n0 v U'.heap L ∧ FrameEnd U o U' L ({ frames := 3, cells := 1, slots := 2, locals := 41 } : Room).cells ({ frames := 3, cells := 1, slots := 2, locals := 41 } : Room).slots) := by
  refine MetFree.of_bodySF (plainFor_of_name pn_5) hisR ?_
  intro p e s m args below meth c s₁ Bd hml0 hP hK
  obtain ⟨rfl, hZ, hh⟩ := hP
  have hx := Bd.exec
  have hby := Bd.bytes
  have hlk := BodyLoose.notSynchronized Bd
  have hml : c.maxLocals = 10 := hml0
  have hown : s.vm.findClass "com/example/funnel/funnel/relay/Backlog" = some m.cls := findClass_of_methodNamed Bd.named
  have hnm := (name_of_methodNamed Bd.named Bd.method).1
  have X0 : Stand p l e ({ frames := 3, cells := 1, slots := 2, locals := 41 } : Room) s m #[(.ref a1), (.long q1), (.long q2)] below meth c s₁ [] 0 0 := Stand.of_body Bd
  have e0 : s₁.heap = h0 := by rw [← hh, Bd.state]; rfl
  have N0 := Fr.nil n0
  have K0 := Keep.refl h0 [a1, b_acceptStarts_a1]
  show own_G p.tables e below (own_P s (Q5 Z a1 q1 q2 u_since_a1 u_firstFoundAt_a1 b_acceptStarts_a1 k_acceptStarts_a1 u_unwatched_a1 u_foundAt_a1 h0 n0) 1 2) (s₁.setTop (entryFrame m #[(.ref a1), (.long q1), (.long q2)] 10))
  refine own_st (fun t k => castTop (ef_5 m a1 q1 q2) k) ?_
  show own_G p.tables e below _ (s₁.setTop (mkF m 0 #[.val (.ref a1), .val (.long q1), .second, .val (.long q2), .second, .unset, .unset, .unset, .unset, .unset] []))
  refine own_st (fun _ k => XS.aloadN X0.here hx rfl (hb hby d5_0) rfl rfl k) ?_
  show own_G p.tables e below _ (s₁.setTop (mkF m 1 #[.val (.ref a1), .val (.long q1), .second, .val (.long q2), .second, .unset, .unset, .unset, .unset, .unset] [(.ref a1)]))
  obtain ⟨T1, X1, e1, st1⟩ := getF X0 hx hZ hown (host := "") (Or.inl (hw _ (List.mem_of_getElem? (i := 37) rfl))) Via.refl e0 F_accepts_a1 (g := (mkF m 1 #[.val (.ref a1), .val (.long q1), .second, .val (.long q2), .second, .unset, .unset, .unset, .unset, .unset] [(.ref a1)])) rfl rfl (hb hby d5_1)
  refine own_st st1 ?_
  show own_G p.tables e below _ (T1.setTop (mkF m 4 #[.val (.ref a1), .val (.long q1), .second, .val (.long q2), .second, .unset, .unset, .unset, .unset, .unset] [(.long (0 : Int64))]))
  refine own_st (fun _ k => XS.aloadN X1.here hx rfl (hb hby d5_4) rfl rfl k) ?_
  show own_G p.tables e below _ (T1.setTop (mkF m 5 #[.val (.ref a1), .val (.long q1), .second, .val (.long q2), .second, .unset, .unset, .unset, .unset, .unset] [(.ref a1), (.long (0 : Int64))]))
  obtain ⟨T2, X2, e2, st2⟩ := getF X1 hx hZ hown (host := "") (Or.inl (hw _ (List.mem_of_getElem? (i := 20) rfl))) Via.refl e1 F_acceptStarts_a1 (g := (mkF m 5 #[.val (.ref a1), .val (.long q1), .second, .val (.long q2), .second, .unset, .unset, .unset, .unset, .unset] [(.ref a1), (.long (0 : Int64))])) rfl rfl (hb hby d5_5)
  refine own_st st2 ?_
  show own_G p.tables e below _ (T2.setTop (mkF m 8 #[.val (.ref a1), .val (.long q1), .second, .val (.long q2), .second, .unset, .unset, .unset, .unset, .unset] [(.ref b_acceptStarts_a1), (.long (0 : Int64))]))
  obtain ⟨cl3, Ar3, q3, S3, Nn3, H3, G3⟩ := V_b_acceptStarts_a1
  refine own_st (fun _ k => X2.arraylength hx (by rw [e2]; exact Ar3.1) (State.isArrayOf_alike hZ.alike Ar3.2.1) (g := (mkF m 8 #[.val (.ref a1), .val (.long q1), .second, .val (.long q2), .second, .unset, .unset, .unset, .unset, .unset] [(.ref b_acceptStarts_a1), (.long (0 : Int64))])) rfl rfl (hb hby d5_8) _ (by rw [len_of S3 Nn3]; exact k)) ?_
  show own_G p.tables e below _ (T2.setTop (mkF m 9 #[.val (.ref a1), .val (.long q1), .second, .val (.long q2), .second, .unset, .unset, .unset, .unset, .unset] [(.int (1 : Int32)), (.long (0 : Int64))]))
  have V4 : Arv Z h0 b_acceptStarts_a1 k_acceptStarts_a1 .long (1 : Int32) [(.long (0 : Int64))] (.long (0 : Int64)) := ⟨cl3, Ar3, q3, S3, Nn3, H3, G3⟩
  refine own_st (fun _ k => XS.i2l X2.here hx rfl (hb hby d5_9) rfl k) ?_
  show own_G p.tables e below _ (T2.setTop (mkF m 10 #[.val (.ref a1), .val (.long q1), .second, .val (.long q2), .second, .unset, .unset, .unset, .unset, .unset] [(.long (1 : Int64)), (.long (0 : Int64))]))
  refine own_st (fun _ k => XS.lrem X2.here hx rfl (hb hby d5_10) rfl (by decide) k) ?_
  show own_G p.tables e below _ (T2.setTop (mkF m 11 #[.val (.ref a1), .val (.long q1), .second, .val (.long q2), .second, .unset, .unset, .unset, .unset, .unset] [(.long (0 : Int64))]))
  refine own_st (fun _ k => XS.l2i X2.here hx rfl (hb hby d5_11) rfl k) ?_
  show own_G p.tables e below _ (T2.setTop (mkF m 12 #[.val (.ref a1), .val (.long q1), .second, .val (.long q2), .second, .unset, .unset, .unset, .unset, .unset] [(.int (0 : Int32))]))
  refine own_st (fun _ k => XS.istore X2.here hx rfl (hb hby d5_12) rfl (l' := #[.val (.ref a1), .val (.long q1), .second, .val (.long q2), .second, .val (.int (0 : Int32)), .unset, .unset, .unset, .unset]) rfl k) ?_
  show own_G p.tables e below _ (T2.setTop (mkF m 14 #[.val (.ref a1), .val (.long q1), .second, .val (.long q2), .second, .val (.int (0 : Int32)), .unset, .unset, .unset, .unset] []))
  refine own_st (fun _ k => XS.aloadN X2.here hx rfl (hb hby d5_14) rfl rfl k) ?_
  show own_G p.tables e below _ (T2.setTop (mkF m 15 #[.val (.ref a1), .val (.long q1), .second, .val (.long q2), .second, .val (.int (0 : Int32)), .unset, .unset, .unset, .unset] [(.ref a1)]))
  obtain ⟨T5, X5, e5, st5⟩ := getF X2 hx hZ hown (host := "") (Or.inl (hw _ (List.mem_of_getElem? (i := 37) rfl))) Via.refl e2 F_accepts_a1 (g := (mkF m 15 #[.val (.ref a1), .val (.long q1), .second, .val (.long q2), .second, .val (.int (0 : Int32)), .unset, .unset, .unset, .unset] [(.ref a1)])) rfl rfl (hb hby d5_15)
  refine own_st st5 ?_
  show own_G p.tables e below _ (T5.setTop (mkF m 18 #[.val (.ref a1), .val (.long q1), .second, .val (.long q2), .second, .val (.int (0 : Int32)), .unset, .unset, .unset, .unset] [(.long (0 : Int64))]))
  refine own_st (fun _ k => XS.aloadN X5.here hx rfl (hb hby d5_18) rfl rfl k) ?_
  show own_G p.tables e below _ (T5.setTop (mkF m 19 #[.val (.ref a1), .val (.long q1), .second, .val (.long q2), .second, .val (.int (0 : Int32)), .unset, .unset, .unset, .unset] [(.ref a1), (.long (0 : Int64))]))
  obtain ⟨T6, X6, e6, st6⟩ := getF X5 hx hZ hown (host := "") (Or.inl (hw _ (List.mem_of_getElem? (i := 20) rfl))) Via.refl e5 F_acceptStarts_a1 (g := (mkF m 19 #[.val (.ref a1), .val (.long q1), .second, .val (.long q2), .second, .val (.int (0 : Int32)), .unset, .unset, .unset, .unset] [(.ref a1), (.long (0 : Int64))])) rfl rfl (hb hby d5_19)
  refine own_st st6 ?_
  show own_G p.tables e below _ (T6.setTop (mkF m 22 #[.val (.ref a1), .val (.long q1), .second, .val (.long q2), .second, .val (.int (0 : Int32)), .unset, .unset, .unset, .unset] [(.ref b_acceptStarts_a1), (.long (0 : Int64))]))
  obtain ⟨cl7, Ar7, q7, S7, Nn7, H7, G7⟩ := V4
  refine own_st (fun _ k => X6.arraylength hx (by rw [e6]; exact Ar7.1) (State.isArrayOf_alike hZ.alike Ar7.2.1) (g := (mkF m 22 #[.val (.ref a1), .val (.long q1), .second, .val (.long q2), .second, .val (.int (0 : Int32)), .unset, .unset, .unset, .unset] [(.ref b_acceptStarts_a1), (.long (0 : Int64))])) rfl rfl (hb hby d5_22) _ (by rw [len_of S7 Nn7]; exact k)) ?_
  show own_G p.tables e below _ (T6.setTop (mkF m 23 #[.val (.ref a1), .val (.long q1), .second, .val (.long q2), .second, .val (.int (0 : Int32)), .unset, .unset, .unset, .unset] [(.int (1 : Int32)), (.long (0 : Int64))]))
  have V8 : Arv Z h0 b_acceptStarts_a1 k_acceptStarts_a1 .long (1 : Int32) [(.long (0 : Int64))] (.long (0 : Int64)) := ⟨cl7, Ar7, q7, S7, Nn7, H7, G7⟩
  refine own_st (fun _ k => XS.i2l X6.here hx rfl (hb hby d5_23) rfl k) ?_
  show own_G p.tables e below _ (T6.setTop (mkF m 24 #[.val (.ref a1), .val (.long q1), .second, .val (.long q2), .second, .val (.int (0 : Int32)), .unset, .unset, .unset, .unset] [(.long (1 : Int64)), (.long (0 : Int64))]))
  refine own_st (fun _ k => XS.lcmp X6.here hx rfl (hb hby d5_24) rfl k) ?_
  show own_G p.tables e below _ (T6.setTop (mkF m 25 #[.val (.ref a1), .val (.long q1), .second, .val (.long q2), .second, .val (.int (0 : Int32)), .unset, .unset, .unset, .unset] [(.int (lcmpW (0 : Int64) (1 : Int64)))]))
  refine own_st (fun _ k => XS.ifNo X6.here hx rfl (hb hby d5_25) rfl (by decide) k) ?_
  show own_G p.tables e below _ (T6.setTop (mkF m 28 #[.val (.ref a1), .val (.long q1), .second, .val (.long q2), .second, .val (.int (0 : Int32)), .unset, .unset, .unset, .unset] []))
  refine own_st (X6.ldc2Long hx hown (mvT hZ (hw _ (List.mem_of_getElem? (i := 14) rfl))) (g := (mkF m 28 #[.val (.ref a1), .val (.long q1), .second, .val (.long q2), .second, .val (.int (0 : Int32)), .unset, .unset, .unset, .unset] [])) rfl (hb hby d5_28)) ?_
  show own_G p.tables e below _ (T6.setTop (mkF m 31 #[.val (.ref a1), .val (.long q1), .second, .val (.long q2), .second, .val (.int (0 : Int32)), .unset, .unset, .unset, .unset] [(.long (-9223372036854775808 : Int64))]))
  refine own_st (fun _ k => XS.goto X6.here hx rfl (pc0 := 31) (pc' := 41) rfl (hb hby d5_31) (by decide) (by decide) k) ?_
  show own_G p.tables e below _ (T6.setTop (mkF m 41 #[.val (.ref a1), .val (.long q1), .second, .val (.long q2), .second, .val (.int (0 : Int32)), .unset, .unset, .unset, .unset] [(.long (-9223372036854775808 : Int64))]))
  refine own_st (fun _ k => XS.lstore X6.here hx rfl (hb hby d5_41) rfl (l' := #[.val (.ref a1), .val (.long q1), .second, .val (.long q2), .second, .val (.int (0 : Int32)), .val (.long (-9223372036854775808 : Int64)), .second, .unset, .unset]) rfl k) ?_
  show own_G p.tables e below _ (T6.setTop (mkF m 43 #[.val (.ref a1), .val (.long q1), .second, .val (.long q2), .second, .val (.int (0 : Int32)), .val (.long (-9223372036854775808 : Int64)), .second, .unset, .unset] []))
  refine own_st (fun _ k => XS.aloadN X6.here hx rfl (hb hby d5_43) rfl rfl k) ?_
  show own_G p.tables e below _ (T6.setTop (mkF m 44 #[.val (.ref a1), .val (.long q1), .second, .val (.long q2), .second, .val (.int (0 : Int32)), .val (.long (-9223372036854775808 : Int64)), .second, .unset, .unset] [(.ref a1)]))
  obtain ⟨T9, X9, e9, st9⟩ := getF X6 hx hZ hown (host := "") (Or.inl (hw _ (List.mem_of_getElem? (i := 20) rfl))) Via.refl e6 F_acceptStarts_a1 (g := (mkF m 44 #[.val (.ref a1), .val (.long q1), .second, .val (.long q2), .second, .val (.int (0 : Int32)), .val (.long (-9223372036854775808 : Int64)), .second, .unset, .unset] [(.ref a1)])) rfl rfl (hb hby d5_44)
  refine own_st st9 ?_
  show own_G p.tables e below _ (T9.setTop (mkF m 47 #[.val (.ref a1), .val (.long q1), .second, .val (.long q2), .second, .val (.int (0 : Int32)), .val (.long (-9223372036854775808 : Int64)), .second, .unset, .unset] [(.ref b_acceptStarts_a1)]))
  refine own_st (fun _ k => XS.iload X9.here hx rfl (hb hby d5_47) rfl k) ?_
  show own_G p.tables e below _ (T9.setTop (mkF m 49 #[.val (.ref a1), .val (.long q1), .second, .val (.long q2), .second, .val (.int (0 : Int32)), .val (.long (-9223372036854775808 : Int64)), .second, .unset, .unset] [(.int (0 : Int32)), (.ref b_acceptStarts_a1)]))
  refine own_st (fun _ k => XS.lloadN X9.here hx rfl (hb hby d5_49) rfl k) ?_
  show own_G p.tables e below _ (T9.setTop (mkF m 50 #[.val (.ref a1), .val (.long q1), .second, .val (.long q2), .second, .val (.int (0 : Int32)), .val (.long (-9223372036854775808 : Int64)), .second, .unset, .unset] [(.long q1), (.int (0 : Int32)), (.ref b_acceptStarts_a1)]))
  obtain ⟨cl10, Ar10, q10, S10, Nn10, H10, G10⟩ := V8
  have hin10 : ¬ ((0 : Int32) < 0 ∨ cl10.slots.size ≤ ((0 : Int32)).toNatClampNeg) := inb_of S10 ⟨by decide, by decide⟩
  obtain ⟨T10, h10, X10, e10, W10, st10⟩ := stJ X9 hx hZ e9 Ar10 (j := (0 : Int32)) hin10 (g := (mkF m 50 #[.val (.ref a1), .val (.long q1), .second, .val (.long q2), .second, .val (.int (0 : Int32)), .val (.long (-9223372036854775808 : Int64)), .second, .unset, .unset] [(.long q1), (.int (0 : Int32)), (.ref b_acceptStarts_a1)])) rfl rfl (hb hby d5_50)
  have N10 := Fr.snoc X10 N0 ge_b_acceptStarts_a1
  have V11 : Arv Z h10 b_acceptStarts_a1 k_acceptStarts_a1 .long (1 : Int32) [(.long q1)] (.long (0 : Int64)) := Arv.set Ar10 q10 S10 Nn10 H10 G10 rfl W10 0 rfl (Nat.le_of_ble_eq_true rfl)
  have E12 := E_a1.wr W10
  have F13 := F_since_a1.other W10 (Or.inl ne_a1_b_acceptStarts_a1)
  have F14 := F_firstFoundAt_a1.other W10 (Or.inl ne_a1_b_acceptStarts_a1)
  have F15 := F_acceptStarts_a1.other W10 (Or.inl ne_a1_b_acceptStarts_a1)
  have F16 := F_unwatched_a1.other W10 (Or.inl ne_a1_b_acceptStarts_a1)
  have F17 := F_foundAt_a1.other W10 (Or.inl ne_a1_b_acceptStarts_a1)
  have F18 := F_accepts_a1.other W10 (Or.inl ne_a1_b_acceptStarts_a1)
  have Z20 := Nat.le_trans Z0 (Keep.of_wr W10).1
  have K21 := K0.wr W10 (Or.inl (List.mem_of_getElem? (i := 1) rfl))
  refine own_st st10 ?_
  show own_G p.tables e below _ (T10.setTop (mkF m 51 #[.val (.ref a1), .val (.long q1), .second, .val (.long q2), .second, .val (.int (0 : Int32)), .val (.long (-9223372036854775808 : Int64)), .second, .unset, .unset] []))
  refine own_st (fun _ k => XS.aloadN X10.here hx rfl (hb hby d5_51) rfl rfl k) ?_
  show own_G p.tables e below _ (T10.setTop (mkF m 52 #[.val (.ref a1), .val (.long q1), .second, .val (.long q2), .second, .val (.int (0 : Int32)), .val (.long (-9223372036854775808 : Int64)), .second, .unset, .unset] [(.ref a1)]))
  refine own_st (fun _ k => XS.dup X10.here hx rfl (hb hby d5_52) rfl rfl k) ?_
  show own_G p.tables e below _ (T10.setTop (mkF m 53 #[.val (.ref a1), .val (.long q1), .second, .val (.long q2), .second, .val (.int (0 : Int32)), .val (.long (-9223372036854775808 : Int64)), .second, .unset, .unset] [(.ref a1), (.ref a1)]))
  obtain ⟨T22, X22, e22, st22⟩ := getF X10 hx hZ hown (host := "") (Or.inl (hw _ (List.mem_of_getElem? (i := 37) rfl))) Via.refl e10 F18 (g := (mkF m 53 #[.val (.ref a1), .val (.long q1), .second, .val (.long q2), .second, .val (.int (0 : Int32)), .val (.long (-9223372036854775808 : Int64)), .second, .unset, .unset] [(.ref a1), (.ref a1)])) rfl rfl (hb hby d5_53)
  refine own_st st22 ?_
  show own_G p.tables e below _ (T22.setTop (mkF m 56 #[.val (.ref a1), .val (.long q1), .second, .val (.long q2), .second, .val (.int (0 : Int32)), .val (.long (-9223372036854775808 : Int64)), .second, .unset, .unset] [(.long (0 : Int64)), (.ref a1)]))
  refine own_st (fun _ k => XS.lconst X22.here hx rfl (hb hby d5_56) k) ?_
  show own_G p.tables e below _ (T22.setTop (mkF m 57 #[.val (.ref a1), .val (.long q1), .second, .val (.long q2), .second, .val (.int (0 : Int32)), .val (.long (-9223372036854775808 : Int64)), .second, .unset, .unset] [(.long (1 : Int64)), (.long (0 : Int64)), (.ref a1)]))
  refine own_st (fun _ k => XS.ladd X22.here hx rfl (hb hby d5_57) rfl k) ?_
  show own_G p.tables e below _ (T22.setTop (mkF m 58 #[.val (.ref a1), .val (.long q1), .second, .val (.long q2), .second, .val (.int (0 : Int32)), .val (.long (-9223372036854775808 : Int64)), .second, .unset, .unset] [(.long (1 : Int64)), (.ref a1)]))
  obtain ⟨T23, h23, X23, e23, W23, st23⟩ := putF X22 hx hZ hown (host := "") (Or.inl (hw _ (List.mem_of_getElem? (i := 37) rfl))) Via.refl e22 F18 E12 (Or.inl (hw _ (List.mem_of_getElem? (i := 38) rfl))) (hw _ (List.mem_of_getElem? (i := 6) rfl)) (ty := .long) (by decide) rfl rfl (g := (mkF m 58 #[.val (.ref a1), .val (.long q1), .second, .val (.long q2), .second, .val (.int (0 : Int32)), .val (.long (-9223372036854775808 : Int64)), .second, .unset, .unset] [(.long (1 : Int64)), (.ref a1)])) rfl rfl (hb hby d5_58)
  have N23 := Fr.snoc X23 N10 ge_a1
  have E24 := E12.wr W23
  have F25 := F13.other W23 (Or.inr (slot_ne (Or.inl (hw _ (List.mem_of_getElem? (i := 16) rfl))) (Or.inl (hw _ (List.mem_of_getElem? (i := 38) rfl))) (by decide) (t := .long) (t' := .long) (by decide) (by decide)))
  have F26 := F14.other W23 (Or.inr (slot_ne (Or.inl (hw _ (List.mem_of_getElem? (i := 18) rfl))) (Or.inl (hw _ (List.mem_of_getElem? (i := 38) rfl))) (by decide) (t := .long) (t' := .long) (by decide) (by decide)))
  have F27 := F15.other W23 (Or.inr (slot_ne (Or.inr (hw _ (List.mem_of_getElem? (i := 21) rfl))) (Or.inl (hw _ (List.mem_of_getElem? (i := 38) rfl))) (by decide) (t := (.array .long)) (t' := .long) (by decide) (by decide)))
  have F28 := F16.other W23 (Or.inr (slot_ne (Or.inl (hw _ (List.mem_of_getElem? (i := 28) rfl))) (Or.inl (hw _ (List.mem_of_getElem? (i := 38) rfl))) (by decide) (t := .boolean) (t' := .long) (by decide) (by decide)))
  have F29 := F17.other W23 (Or.inr (slot_ne (Or.inl (hw _ (List.mem_of_getElem? (i := 30) rfl))) (Or.inl (hw _ (List.mem_of_getElem? (i := 38) rfl))) (by decide) (t := .long) (t' := .long) (by decide) (by decide)))
  have F30 := F18.same W23
  have V31 := V11.other W23 (Ne.symm ne_a1_b_acceptStarts_a1)
  have Z32 := Nat.le_trans Z20 (Keep.of_wr W23).1
  have K33 := K21.wr W23 (Or.inl (List.mem_of_getElem? (i := 0) rfl))
  refine own_st st23 ?_
  show own_G p.tables e below _ (T23.setTop (mkF m 61 #[.val (.ref a1), .val (.long q1), .second, .val (.long q2), .second, .val (.int (0 : Int32)), .val (.long (-9223372036854775808 : Int64)), .second, .unset, .unset] []))
  refine own_st (fun _ k => XS.aloadN X23.here hx rfl (hb hby d5_61) rfl rfl k) ?_
  show own_G p.tables e below _ (T23.setTop (mkF m 62 #[.val (.ref a1), .val (.long q1), .second, .val (.long q2), .second, .val (.int (0 : Int32)), .val (.long (-9223372036854775808 : Int64)), .second, .unset, .unset] [(.ref a1)]))
  obtain ⟨T34, X34, e34, st34⟩ := getF X23 hx hZ hown (host := "") (Or.inl (hw _ (List.mem_of_getElem? (i := 17) rfl))) Via.refl e23 F26 (g := (mkF m 62 #[.val (.ref a1), .val (.long q1), .second, .val (.long q2), .second, .val (.int (0 : Int32)), .val (.long (-9223372036854775808 : Int64)), .second, .unset, .unset] [(.ref a1)])) rfl rfl (hb hby d5_62)
  refine own_st st34 ?_
  show own_G p.tables e below _ (T34.setTop (mkF m 65 #[.val (.ref a1), .val (.long q1), .second, .val (.long q2), .second, .val (.int (0 : Int32)), .val (.long (-9223372036854775808 : Int64)), .second, .unset, .unset] [(.long u_firstFoundAt_a1)]))
  refine own_st (X34.ldc2Long hx hown (mvT hZ (hw _ (List.mem_of_getElem? (i := 14) rfl))) (g := (mkF m 65 #[.val (.ref a1), .val (.long q1), .second, .val (.long q2), .second, .val (.int (0 : Int32)), .val (.long (-9223372036854775808 : Int64)), .second, .unset, .unset] [(.long u_firstFoundAt_a1)])) rfl (hb hby d5_65)) ?_
  show own_G p.tables e below _ (T34.setTop (mkF m 68 #[.val (.ref a1), .val (.long q1), .second, .val (.long q2), .second, .val (.int (0 : Int32)), .val (.long (-9223372036854775808 : Int64)), .second, .unset, .unset] [(.long (-9223372036854775808 : Int64)), (.long u_firstFoundAt_a1)]))
  refine own_st (fun _ k => XS.lcmp X34.here hx rfl (hb hby d5_68) rfl k) ?_
  show own_G p.tables e below _ (T34.setTop (mkF m 69 #[.val (.ref a1), .val (.long q1), .second, .val (.long q2), .second, .val (.int (0 : Int32)), .val (.long (-9223372036854775808 : Int64)), .second, .unset, .unset] [(.int (lcmpW u_firstFoundAt_a1 (-9223372036854775808 : Int64)))]))
  have J80_36 : ∀ (z37 : Int64) (hz37 : z37 = (if u_firstFoundAt_a1 = (-9223372036854775808 : Int64) then q2 else u_firstFoundAt_a1)) (T38 : State) (L38 : List Loc) (X38 : Stand p l e ({ frames := 3, cells := 1, slots := 2, locals := 41 } : Room) s m #[(.ref a1), (.long q1), (.long q2)] below meth c T38 L38 0 0) (N38 : Fr n0 L38) (e38 : T38.heap = h23), own_G p.tables e below (own_P s (Q5 Z a1 q1 q2 u_since_a1 u_firstFoundAt_a1 b_acceptStarts_a1 k_acceptStarts_a1 u_unwatched_a1 u_foundAt_a1 h0 n0) 1 2) (T38.setTop (mkF m 80 #[.val (.ref a1), .val (.long q1), .second, .val (.long q2), .second, .val (.int (0 : Int32)), .val (.long (-9223372036854775808 : Int64)), .second, .unset, .unset] [(.long z37)])) := by
    intro z37 hz37 T38 L38 X38 N38 e38
    refine own_st (fun _ k => XS.lstore X38.here hx rfl (hb hby d5_80) rfl (l' := #[.val (.ref a1), .val (.long q1), .second, .val (.long q2), .second, .val (.int (0 : Int32)), .val (.long (-9223372036854775808 : Int64)), .second, .val (.long z37), .second]) rfl k) ?_
    show own_G p.tables e below _ (T38.setTop (mkF m 82 #[.val (.ref a1), .val (.long q1), .second, .val (.long q2), .second, .val (.int (0 : Int32)), .val (.long (-9223372036854775808 : Int64)), .second, .val (.long z37), .second] []))
    refine own_st (fun _ k => XS.aloadN X38.here hx rfl (hb hby d5_82) rfl rfl k) ?_
    show own_G p.tables e below _ (T38.setTop (mkF m 83 #[.val (.ref a1), .val (.long q1), .second, .val (.long q2), .second, .val (.int (0 : Int32)), .val (.long (-9223372036854775808 : Int64)), .second, .val (.long z37), .second] [(.ref a1)]))
    refine own_st (X38.ldc2Long hx hown (mvT hZ (hw _ (List.mem_of_getElem? (i := 14) rfl))) (g := (mkF m 83 #[.val (.ref a1), .val (.long q1), .second, .val (.long q2), .second, .val (.int (0 : Int32)), .val (.long (-9223372036854775808 : Int64)), .second, .val (.long z37), .second] [(.ref a1)])) rfl (hb hby d5_83)) ?_
    show own_G p.tables e below _ (T38.setTop (mkF m 86 #[.val (.ref a1), .val (.long q1), .second, .val (.long q2), .second, .val (.int (0 : Int32)), .val (.long (-9223372036854775808 : Int64)), .second, .val (.long z37), .second] [(.long (-9223372036854775808 : Int64)), (.ref a1)]))
    obtain ⟨T39, h39, X39, e39, W39, st39⟩ := putF X38 hx hZ hown (host := "") (Or.inl (hw _ (List.mem_of_getElem? (i := 17) rfl))) Via.refl e38 F26 E24 (Or.inl (hw _ (List.mem_of_getElem? (i := 18) rfl))) (hw _ (List.mem_of_getElem? (i := 6) rfl)) (ty := .long) (by decide) rfl rfl (g := (mkF m 86 #[.val (.ref a1), .val (.long q1), .second, .val (.long q2), .second, .val (.int (0 : Int32)), .val (.long (-9223372036854775808 : Int64)), .second, .val (.long z37), .second] [(.long (-9223372036854775808 : Int64)), (.ref a1)])) rfl rfl (hb hby d5_86)
    have N39 := Fr.snoc X39 N38 ge_a1
    have E40 := E24.wr W39
    have F41 := F25.other W39 (Or.inr (slot_ne (Or.inl (hw _ (List.mem_of_getElem? (i := 16) rfl))) (Or.inl (hw _ (List.mem_of_getElem? (i := 18) rfl))) (by decide) (t := .long) (t' := .long) (by decide) (by decide)))
    have F42 := F26.same W39
    have F43 := F27.other W39 (Or.inr (slot_ne (Or.inr (hw _ (List.mem_of_getElem? (i := 21) rfl))) (Or.inl (hw _ (List.mem_of_getElem? (i := 18) rfl))) (by decide) (t := (.array .long)) (t' := .long) (by decide) (by decide)))
    have F44 := F28.other W39 (Or.inr (slot_ne (Or.inl (hw _ (List.mem_of_getElem? (i := 28) rfl))) (Or.inl (hw _ (List.mem_of_getElem? (i := 18) rfl))) (by decide) (t := .boolean) (t' := .long) (by decide) (by decide)))
    have F45 := F29.other W39 (Or.inr (slot_ne (Or.inl (hw _ (List.mem_of_getElem? (i := 30) rfl))) (Or.inl (hw _ (List.mem_of_getElem? (i := 18) rfl))) (by decide) (t := .long) (t' := .long) (by decide) (by decide)))
    have F46 := F30.other W39 (Or.inr (slot_ne (Or.inl (hw _ (List.mem_of_getElem? (i := 38) rfl))) (Or.inl (hw _ (List.mem_of_getElem? (i := 18) rfl))) (by decide) (t := .long) (t' := .long) (by decide) (by decide)))
    have V47 := V31.other W39 (Ne.symm ne_a1_b_acceptStarts_a1)
    have Z48 := Nat.le_trans Z32 (Keep.of_wr W39).1
    have K49 := K33.wr W39 (Or.inl (List.mem_of_getElem? (i := 0) rfl))
    refine own_st st39 ?_
    show own_G p.tables e below _ (T39.setTop (mkF m 89 #[.val (.ref a1), .val (.long q1), .second, .val (.long q2), .second, .val (.int (0 : Int32)), .val (.long (-9223372036854775808 : Int64)), .second, .val (.long z37), .second] []))
    obtain ⟨T50, h50, X50, e50, E50, A50, D50, -, st50⟩ := newO X39 hx hZ hown (hw _ (List.mem_of_getElem? (i := 39) rfl)) (hw _ (List.mem_of_getElem? (i := 40) rfl)) (hw _ (List.mem_of_getElem? (i := 41) rfl)) e39 (g := (mkF m 89 #[.val (.ref a1), .val (.long q1), .second, .val (.long q2), .second, .val (.int (0 : Int32)), .val (.long (-9223372036854775808 : Int64)), .second, .val (.long z37), .second] [])) rfl (hb hby d5_89) (by decide) (by decide)
    obtain ⟨b50, g50⟩ : ∃ z, z = h39.size := ⟨_, rfl⟩
    rw [← g50] at A50 D50 st50
    have ge_b50 : n0 ≤ b50 := Nat.le_trans Z48 (Nat.le_of_eq g50.symm)
    have sz_b50 : h0.size ≤ b50 := Nat.le_trans K49.1 (Nat.le_of_eq g50.symm)
    have ne_a1_b50 : a1 ≠ b50 := fun q => Nat.lt_irrefl _ (Nat.lt_of_lt_of_eq E40.lt (g50.symm.trans q.symm))
    have ne_b_acceptStarts_a1_b50 : b_acceptStarts_a1 ≠ b50 := fun q => Nat.lt_irrefl _ (Nat.lt_of_lt_of_eq V47.lt (g50.symm.trans q.symm))
    have E51 := E40.ext E50
    have F52 := F41.ext E50
    have F53 := F42.ext E50
    have F54 := F43.ext E50
    have F55 := F44.ext E50
    have F56 := F45.ext E50
    have F57 := F46.ext E50
    have V58 := V47.ext E50
    have Z59 := Nat.le_trans Z48 E50.1
    have K60 := K49.ext E50
    have F61 : Fld Z h50 b50 "com/example/funnel/funnel/relay/Backlog$Wait" "earliest" "J" (.long (0 : Int64)) := D50 (Or.inr (hw _ (List.mem_of_getElem? (i := 56) rfl))) (ty := .long) (by decide)
    have F62 : Fld Z h50 b50 "com/example/funnel/funnel/relay/Backlog$Wait" "surely" "J" (.long (0 : Int64)) := D50 (Or.inr (hw _ (List.mem_of_getElem? (i := 58) rfl))) (ty := .long) (by decide)
    refine own_st st50 ?_
    show own_G p.tables e below _ (T50.setTop (mkF m 92 #[.val (.ref a1), .val (.long q1), .second, .val (.long q2), .second, .val (.int (0 : Int32)), .val (.long (-9223372036854775808 : Int64)), .second, .val (.long z37), .second] [(.ref b50)]))
    refine own_st (fun _ k => XS.dup X50.here hx rfl (hb hby d5_92) rfl rfl k) ?_
    show own_G p.tables e below _ (T50.setTop (mkF m 93 #[.val (.ref a1), .val (.long q1), .second, .val (.long q2), .second, .val (.int (0 : Int32)), .val (.long (-9223372036854775808 : Int64)), .second, .val (.long z37), .second] [(.ref b50), (.ref b50)]))
    refine own_st (fun _ k => XS.aloadN X50.here hx rfl (hb hby d5_93) rfl rfl k) ?_
    show own_G p.tables e below _ (T50.setTop (mkF m 94 #[.val (.ref a1), .val (.long q1), .second, .val (.long q2), .second, .val (.int (0 : Int32)), .val (.long (-9223372036854775808 : Int64)), .second, .val (.long z37), .second] [(.ref a1), (.ref b50), (.ref b50)]))
    obtain ⟨T63, X63, e63, st63⟩ := getF X50 hx hZ hown (host := "") (Or.inl (hw _ (List.mem_of_getElem? (i := 15) rfl))) Via.refl e50 F52 (g := (mkF m 94 #[.val (.ref a1), .val (.long q1), .second, .val (.long q2), .second, .val (.int (0 : Int32)), .val (.long (-9223372036854775808 : Int64)), .second, .val (.long z37), .second] [(.ref a1), (.ref b50), (.ref b50)])) rfl rfl (hb hby d5_94)
    refine own_st st63 ?_
    show own_G p.tables e below _ (T63.setTop (mkF m 97 #[.val (.ref a1), .val (.long q1), .second, .val (.long q2), .second, .val (.int (0 : Int32)), .val (.long (-9223372036854775808 : Int64)), .second, .val (.long z37), .second] [(.long u_since_a1), (.ref b50), (.ref b50)]))
    refine own_st (fun _ k => XS.lload X63.here hx rfl (hb hby d5_97) rfl k) ?_
    show own_G p.tables e below _ (T63.setTop (mkF m 99 #[.val (.ref a1), .val (.long q1), .second, .val (.long q2), .second, .val (.int (0 : Int32)), .val (.long (-9223372036854775808 : Int64)), .second, .val (.long z37), .second] [(.long (-9223372036854775808 : Int64)), (.long u_since_a1), (.ref b50), (.ref b50)]))
    obtain ⟨_, _, ⟨T64, L64, k64, n64⟩, -, X64, ⟨Lc64, hQ64, l64, y64, z64⟩, st64⟩ := Jvm.LawKit.callS X63 hx (y := (⟨"java/lang/Math", "max", "(JJ)J"⟩ : MethodName)) hown (mvT hZ (hw _ (List.mem_of_getElem? (i := 42) rfl))) (mvT hZ (hw _ (List.mem_of_getElem? (i := 43) rfl))) (mvT hZ (hw _ (List.mem_of_getElem? (i := 44) rfl))) (mvT hZ (hw _ (List.mem_of_getElem? (i := 45) rfl))) (by decide) (backOf (W := 2) (rm6 l Z a0 hw [] u_since_a1 (-9223372036854775808 : Int64) h50 n0 Z59 ) hZ (hw _ (List.mem_of_getElem? (i := 45) rfl)) (hw _ (List.mem_of_getElem? (i := 44) rfl)) (by decide) (by decide)) (g := (mkF m 99 #[.val (.ref a1), .val (.long q1), .second, .val (.long q2), .second, .val (.int (0 : Int32)), .val (.long (-9223372036854775808 : Int64)), .second, .val (.long z37), .second] [(.long (-9223372036854775808 : Int64)), (.long u_since_a1), (.ref b50), (.ref b50)])) rfl (by rw [hml]; rfl) (argsL := [(.long u_since_a1), (.long (-9223372036854775808 : Int64))]) (rest := [(.ref b50), (.ref b50)]) (lenOf pd_1 rfl) rfl (by show 2 * 0 + _ ≤ _; exact Nat.le_of_eq rfl) (hb hby d5_99) (fun _ _ => ⟨rfl, e63, (by decide : 1 + 0 ≤ _), (by decide : 2 + 0 ≤ _)⟩)
    dsimp only [Pt.U, Pt.locs, Pt.cells, Pt.slots] at X64 l64 y64 z64 st64 hQ64
    subst l64 y64 z64
    obtain ⟨⟨r64, rfl, hr64⟩, N64q, e64⟩ := hQ64
    have N64 := Fr.app N39 N64q
    refine own_st st64 ?_
    show own_G p.tables e below _ (T64.setTop (mkF m 102 #[.val (.ref a1), .val (.long q1), .second, .val (.long q2), .second, .val (.int (0 : Int32)), .val (.long (-9223372036854775808 : Int64)), .second, .val (.long z37), .second] [(.long r64), (.ref b50), (.ref b50)]))
    refine own_st (fun _ k => XS.lload X64.here hx rfl (hb hby d5_102) rfl k) ?_
    show own_G p.tables e below _ (T64.setTop (mkF m 104 #[.val (.ref a1), .val (.long q1), .second, .val (.long q2), .second, .val (.int (0 : Int32)), .val (.long (-9223372036854775808 : Int64)), .second, .val (.long z37), .second] [(.long z37), (.long r64), (.ref b50), (.ref b50)]))
    obtain ⟨_, _, ⟨T65, L65, k65, n65⟩, -, X65, ⟨Lc65, hQ65, l65, y65, z65⟩, st65⟩ := X64.specialBack hx (y := (⟨"com/example/funnel/funnel/relay/Backlog$Wait", "<init>", "(JJ)V"⟩ : MethodName)) rfl hown (mvT hZ (hw _ (List.mem_of_getElem? (i := 46) rfl))) (mvT hZ (hw _ (List.mem_of_getElem? (i := 47) rfl))) (mvT hZ (hw _ (List.mem_of_getElem? (i := 48) rfl))) (by decide) (backOf (W := 1) (rm7 l Z a0 hw [] b50 r64 z37 (0 : Int64) (0 : Int64) h50 n0 Z59 F61 F62 A50 ge_b50) hZ (hw _ (List.mem_of_getElem? (i := 48) rfl)) (hw _ (List.mem_of_getElem? (i := 41) rfl)) (by decide) (by decide)) (g := (mkF m 104 #[.val (.ref a1), .val (.long q1), .second, .val (.long q2), .second, .val (.int (0 : Int32)), .val (.long (-9223372036854775808 : Int64)), .second, .val (.long z37), .second] [(.long z37), (.long r64), (.ref b50), (.ref b50)])) rfl (by rw [hml]; rfl) (Steps.refl _) (a := b50) (argsL := [(.long r64), (.long z37)]) (rest := [(.ref b50)]) (lenOf pd_2 rfl) rfl (by show 2 * 0 + _ ≤ _; exact Nat.le_of_eq rfl) (hb hby d5_104) (fun _ _ => ⟨rfl, e64, (by decide : 1 + 0 ≤ _), (by decide : 2 + 0 ≤ _)⟩)
    dsimp only [Pt.U, Pt.locs, Pt.cells, Pt.slots] at X65 l65 y65 z65 st65 hQ65
    subst l65 y65 z65
    obtain ⟨rfl, N65q, K65q, E66, F67, F68⟩ := hQ65
    have N65 := Fr.app N64 N65q
    have E69 := E51.keep K65q
    have F70 := F52.keep K65q (ninS ne_a1_b50 nin0)
    have F71 := F53.keep K65q (ninS ne_a1_b50 nin0)
    have F72 := F54.keep K65q (ninS ne_a1_b50 nin0)
    have F73 := F55.keep K65q (ninS ne_a1_b50 nin0)
    have F74 := F56.keep K65q (ninS ne_a1_b50 nin0)
    have F75 := F57.keep K65q (ninS ne_a1_b50 nin0)
    have V77 := V58.keep K65q (ninS ne_b_acceptStarts_a1_b50 nin0)
    have Z78 := Nat.le_trans Z59 K65q.1
    have K79 := K60.trans K65q (((allS (P := fun x => x ∈ ([a1, b_acceptStarts_a1] : List Addr) ∨ h0.size ≤ x) (Or.inr sz_b50) all0) : ∀ x ∈ ([b50] : List Addr), x ∈ ([a1, b_acceptStarts_a1] : List Addr) ∨ h0.size ≤ x))
    refine own_st (fun _ k => st65.trans k) ?_
    show own_G p.tables e below _ (T65.setTop (mkF m 107 #[.val (.ref a1), .val (.long q1), .second, .val (.long q2), .second, .val (.int (0 : Int32)), .val (.long (-9223372036854775808 : Int64)), .second, .val (.long z37), .second] [(.ref b50)]))
    exact own_retR X65 hx hlk Bd.returns (by rfl) (by rfl) (by rfl) (hb hby d5_107) ⟨⟨_, rfl, E66, sz_b50, (own_fld F67 (congrArg Value.long (by subst hr64; subst hz37; exact rfl))), (own_fld F68 (congrArg Value.long (by subst hr64; subst hz37; exact rfl)))⟩, N65, K79, E69, (own_fld F70 (congrArg Value.long (by subst hr64; subst hz37; exact rfl))), (own_fld F71 (congrArg Value.long (by subst hr64; subst hz37; exact rfl))), F72, (own_fld F73 (congrArg Value.int (by subst hr64; subst hz37; exact rfl))), (own_fld F74 (congrArg Value.long (by subst hr64; subst hz37; exact rfl))), (own_fld F75 (congrArg Value.long (by subst hr64; subst hz37; exact rfl)))⟩ (by decide) (by decide)
  by_cases hc69_35 : u_firstFoundAt_a1 = (-9223372036854775808 : Int64)
  · refine own_st (fun _ k => XS.ifNo X34.here hx rfl (hb hby d5_69) rfl ((if0 _ _).trans (teq ((lw_eq u_firstFoundAt_a1 (-9223372036854775808 : Int64)).mpr hc69_35)).2) k) ?_
    show own_G p.tables e below _ (T34.setTop (mkF m 72 #[.val (.ref a1), .val (.long q1), .second, .val (.long q2), .second, .val (.int (0 : Int32)), .val (.long (-9223372036854775808 : Int64)), .second, .unset, .unset] []))
    refine own_st (fun _ k => XS.lloadN X34.here hx rfl (hb hby d5_72) rfl k) ?_
    show own_G p.tables e below _ (T34.setTop (mkF m 73 #[.val (.ref a1), .val (.long q1), .second, .val (.long q2), .second, .val (.int (0 : Int32)), .val (.long (-9223372036854775808 : Int64)), .second, .unset, .unset] [(.long q2)]))
    refine own_st (fun _ k => XS.goto X34.here hx rfl (pc0 := 73) (pc' := 80) rfl (hb hby d5_73) (by decide) (by decide) k) ?_
    show own_G p.tables e below _ (T34.setTop (mkF m 80 #[.val (.ref a1), .val (.long q1), .second, .val (.long q2), .second, .val (.int (0 : Int32)), .val (.long (-9223372036854775808 : Int64)), .second, .unset, .unset] [(.long q2)]))
    exact J80_36 q2 ((if_pos hc69_35).symm) _ _ X34 N23 e34
  · refine own_st (fun _ k => XS.ifYes X34.here hx rfl (pc0 := 69) (pc' := 76) rfl (hb hby d5_69) rfl ((if0 _ _).trans (feq (fun q => hc69_35 ((lw_eq u_firstFoundAt_a1 (-9223372036854775808 : Int64)).mp q))).2) (by decide) (by decide) k) ?_
    show own_G p.tables e below _ (T34.setTop (mkF m 76 #[.val (.ref a1), .val (.long q1), .second, .val (.long q2), .second, .val (.int (0 : Int32)), .val (.long (-9223372036854775808 : Int64)), .second, .unset, .unset] []))
    refine own_st (fun _ k => XS.aloadN X34.here hx rfl (hb hby d5_76) rfl rfl k) ?_
    show own_G p.tables e below _ (T34.setTop (mkF m 77 #[.val (.ref a1), .val (.long q1), .second, .val (.long q2), .second, .val (.int (0 : Int32)), .val (.long (-9223372036854775808 : Int64)), .second, .unset, .unset] [(.ref a1)]))
    obtain ⟨T82, X82, e82, st82⟩ := getF X34 hx hZ hown (host := "") (Or.inl (hw _ (List.mem_of_getElem? (i := 17) rfl))) Via.refl e34 F26 (g := (mkF m 77 #[.val (.ref a1), .val (.long q1), .second, .val (.long q2), .second, .val (.int (0 : Int32)), .val (.long (-9223372036854775808 : Int64)), .second, .unset, .unset] [(.ref a1)])) rfl rfl (hb hby d5_77)
    refine own_st st82 ?_
    show own_G p.tables e below _ (T82.setTop (mkF m 80 #[.val (.ref a1), .val (.long q1), .second, .val (.long q2), .second, .val (.int (0 : Int32)), .val (.long (-9223372036854775808 : Int64)), .second, .unset, .unset] [(.long u_firstFoundAt_a1)]))
    exact J80_36 u_firstFoundAt_a1 ((if_neg hc69_35).symm) _ _ X82 N23 e82
def Q9 (Z : State) (a1 : Addr) (u_earliest_a1 : Int64) (u_surely_a1 : Int64) (h0 : Heap) (n0 : Nat) (v : Option Value) (h : Heap) (L : List Loc) : Prop := (∃ z : Int64, v = some (.long z) ∧ z = u_earliest_a1) ∧ Fr n0 L ∧ h = h0
set_option maxRecDepth 65536 in
set_option maxHeartbeats 40000000 in
theorem rm9 (l : Launch) (Z : State) (a0 : Array Value) (hw : ∀ d ∈ tables_1, d.before a0 Z = true) (ws : List Jvm.Cond) (a1 : Addr) (u_earliest_a1 : Int64) (u_surely_a1 : Int64) (h0 : Heap) (n0 : Nat) (Z0 : n0 ≤ h0.size) (F_earliest_a1 : Fld Z h0 a1 "com/example/funnel/funnel/relay/Backlog$Wait" "earliest" "J" (.long u_earliest_a1)) (F_surely_a1 : Fld Z h0 a1 "com/example/funnel/funnel/relay/Backlog$Wait" "surely" "J" (.long u_surely_a1)) (E_a1 : Exa Z h0 a1 "com/example/funnel/funnel/relay/Backlog$Wait") :
    MetFree l (⟨"com/example/funnel/funnel/relay/Backlog$Wait", "earliest", "()J"⟩ : MethodName) (head1 (Jvm.Cond.code (⟨"com/example/funnel/funnel/relay/Backlog$Wait", "earliest", "()J"⟩ : MethodName) prog_36_method_5_code 1 (some .long) :: ws) ({ frames := 0, cells := 0, slots := 0, locals := 0 } : Room)) (fun a U => a = #[(.ref a1)] ∧ Z.Warmed39 U.vm ∧ U.heap = h0) (fun _ _ _ _ _ => True) (fun _ U o U' => ∃ v L, o = .returned v ∧ Q9 Z a1 u_earliest_a1 u_surely_a1 h0 n0 v U'.heap L ∧ FrameEnd U o U' L ({ frames := 0, cells := 0, slots := 0, locals := 0 } : Room).cells ({ frames := 0, cells := 0, slots := 0, locals := 0 } : Room).slots) := by
  refine MetFree.of_bodySF (plainFor_of_name pn_9) hisR ?_
  intro p e s m args below meth c s₁ Bd hml0 hP hK
  obtain ⟨rfl, hZ, hh⟩ := hP
  have hx := Bd.exec
  have hby := Bd.bytes
  have hlk := BodyLoose.notSynchronized Bd
  have hml : c.maxLocals = 1 := hml0
  have hown : s.vm.findClass "com/example/funnel/funnel/relay/Backlog$Wait" = some m.cls := findClass_of_methodNamed Bd.named
  have hnm := (name_of_methodNamed Bd.named Bd.method).1
  have X0 : Stand p l e ({ frames := 0, cells := 0, slots := 0, locals := 0 } : Room) s m #[(.ref a1)] below meth c s₁ [] 0 0 := Stand.of_body Bd
  have e0 : s₁.heap = h0 := by rw [← hh, Bd.state]; rfl
  have N0 := Fr.nil n0
  have K0 := Keep.refl h0 []
  show own_G p.tables e below (own_P s (Q9 Z a1 u_earliest_a1 u_surely_a1 h0 n0) 0 0) (s₁.setTop (entryFrame m #[(.ref a1)] 1))
  refine own_st (fun t k => castTop (ef_9 m a1) k) ?_
  show own_G p.tables e below _ (s₁.setTop (mkF m 0 #[.val (.ref a1)] []))
  refine own_st (fun _ k => XS.aloadN X0.here hx rfl (hb hby d9_0) rfl rfl k) ?_
  show own_G p.tables e below _ (s₁.setTop (mkF m 1 #[.val (.ref a1)] [(.ref a1)]))
  obtain ⟨T1, X1, e1, st1⟩ := getF X0 hx hZ hown (host := "") (Or.inl (hw _ (List.mem_of_getElem? (i := 55) rfl))) Via.refl e0 F_earliest_a1 (g := (mkF m 1 #[.val (.ref a1)] [(.ref a1)])) rfl rfl (hb hby d9_1)
  refine own_st st1 ?_
  show own_G p.tables e below _ (T1.setTop (mkF m 4 #[.val (.ref a1)] [(.long u_earliest_a1)]))
  exact own_retJ X1 hx hlk Bd.returns (hb hby d9_4) (by rw [e1]; exact ⟨⟨_, rfl, rfl⟩, N0, rfl⟩) (by decide) (by decide)
def Q10 (Z : State) (a1 : Addr) (u_earliest_a1 : Int64) (u_surely_a1 : Int64) (h0 : Heap) (n0 : Nat) (v : Option Value) (h : Heap) (L : List Loc) : Prop := (∃ z : Int64, v = some (.long z) ∧ z = u_surely_a1) ∧ Fr n0 L ∧ h = h0
set_option maxRecDepth 65536 in
set_option maxHeartbeats 40000000 in
theorem rm10 (l : Launch) (Z : State) (a0 : Array Value) (hw : ∀ d ∈ tables_1, d.before a0 Z = true) (ws : List Jvm.Cond) (a1 : Addr) (u_earliest_a1 : Int64) (u_surely_a1 : Int64) (h0 : Heap) (n0 : Nat) (Z0 : n0 ≤ h0.size) (F_earliest_a1 : Fld Z h0 a1 "com/example/funnel/funnel/relay/Backlog$Wait" "earliest" "J" (.long u_earliest_a1)) (F_surely_a1 : Fld Z h0 a1 "com/example/funnel/funnel/relay/Backlog$Wait" "surely" "J" (.long u_surely_a1)) (E_a1 : Exa Z h0 a1 "com/example/funnel/funnel/relay/Backlog$Wait") :
    MetFree l (⟨"com/example/funnel/funnel/relay/Backlog$Wait", "surely", "()J"⟩ : MethodName) (head1 (Jvm.Cond.code (⟨"com/example/funnel/funnel/relay/Backlog$Wait", "surely", "()J"⟩ : MethodName) prog_36_method_6_code 1 (some .long) :: ws) ({ frames := 0, cells := 0, slots := 0, locals := 0 } : Room)) (fun a U => a = #[(.ref a1)] ∧ Z.Warmed39 U.vm ∧ U.heap = h0) (fun _ _ _ _ _ => True) (fun _ U o U' => ∃ v L, o = .returned v ∧ Q10 Z a1 u_earliest_a1 u_surely_a1 h0 n0 v U'.heap L ∧ FrameEnd U o U' L ({ frames := 0, cells := 0, slots := 0, locals := 0 } : Room).cells ({ frames := 0, cells := 0, slots := 0, locals := 0 } : Room).slots) := by
  refine MetFree.of_bodySF (plainFor_of_name pn_10) hisR ?_
  intro p e s m args below meth c s₁ Bd hml0 hP hK
  obtain ⟨rfl, hZ, hh⟩ := hP
  have hx := Bd.exec
  have hby := Bd.bytes
  have hlk := BodyLoose.notSynchronized Bd
  have hml : c.maxLocals = 1 := hml0
  have hown : s.vm.findClass "com/example/funnel/funnel/relay/Backlog$Wait" = some m.cls := findClass_of_methodNamed Bd.named
  have hnm := (name_of_methodNamed Bd.named Bd.method).1
  have X0 : Stand p l e ({ frames := 0, cells := 0, slots := 0, locals := 0 } : Room) s m #[(.ref a1)] below meth c s₁ [] 0 0 := Stand.of_body Bd
  have e0 : s₁.heap = h0 := by rw [← hh, Bd.state]; rfl
  have N0 := Fr.nil n0
  have K0 := Keep.refl h0 []
  show own_G p.tables e below (own_P s (Q10 Z a1 u_earliest_a1 u_surely_a1 h0 n0) 0 0) (s₁.setTop (entryFrame m #[(.ref a1)] 1))
  refine own_st (fun t k => castTop (ef_10 m a1) k) ?_
  show own_G p.tables e below _ (s₁.setTop (mkF m 0 #[.val (.ref a1)] []))
  refine own_st (fun _ k => XS.aloadN X0.here hx rfl (hb hby d10_0) rfl rfl k) ?_
  show own_G p.tables e below _ (s₁.setTop (mkF m 1 #[.val (.ref a1)] [(.ref a1)]))
  obtain ⟨T1, X1, e1, st1⟩ := getF X0 hx hZ hown (host := "") (Or.inl (hw _ (List.mem_of_getElem? (i := 57) rfl))) Via.refl e0 F_surely_a1 (g := (mkF m 1 #[.val (.ref a1)] [(.ref a1)])) rfl rfl (hb hby d10_1)
  refine own_st st1 ?_
  show own_G p.tables e below _ (T1.setTop (mkF m 4 #[.val (.ref a1)] [(.long u_surely_a1)]))
  exact own_retJ X1 hx hlk Bd.returns (hb hby d10_4) (by rw [e1]; exact ⟨⟨_, rfl, rfl⟩, N0, rfl⟩) (by decide) (by decide)
def Q0 (n0 : Nat) (v : Option Value) (h : Heap) (L : List Loc) : Prop := v = some (.int 1) ∧ Fr n0 L
set_option maxRecDepth 65536 in
set_option maxHeartbeats 40000000 in
theorem rm0 (l : Launch) (Z : State) (a0 : Array Value) (hw : ∀ d ∈ tables_1, d.before a0 Z = true) (ws : List Jvm.Cond) (i0 : Int32) (i1 : Int64) (i2 : Int64) (i3 : Int64) (i4 : Int64) (i5 : Int64) (h0 : Heap) (n0 : Nat) (Z0 : n0 ≤ h0.size) :
    MetFree l x (head1 (Jvm.Cond.code x code maxLocals ret :: ws) room_1) (fun a U => a = #[(.int i0), (.long i1), (.long i2), (.long i3), (.long i4), (.long i5)] ∧ Z.Warmed39 U.vm ∧ U.heap = h0) (fun _ _ _ _ _ => True) (fun _ U o U' => ∃ v L, o = .returned v ∧ Q0 n0 v U'.heap L ∧ FrameEnd U o U' L 16 128) := by
  refine MetFree.of_bodySF (plainFor_of_name pn_0) hisR ?_
  intro p e s m args below meth c s₁ Bd hml0 hP hK
  obtain ⟨rfl, hZ, hh⟩ := hP
  have hx := Bd.exec
  have hby := Bd.bytes
  have hlk := BodyLoose.notSynchronized Bd
  have hml : c.maxLocals = 32 := hml0
  have hown : s.vm.findClass "com/example/funnel/funnel/relay/BacklogFoundPinLaw" = some m.cls := findClass_of_methodNamed Bd.named
  have hnm := (name_of_methodNamed Bd.named Bd.method).1
  have X0 : Stand p l e room_1 s m #[(.int i0), (.long i1), (.long i2), (.long i3), (.long i4), (.long i5)] below meth c s₁ [] 0 0 := Stand.of_body Bd
  have e0 : s₁.heap = h0 := by rw [← hh, Bd.state]; rfl
  have N0 := Fr.nil n0
  have K0 := Keep.refl h0 []
  show own_G p.tables e below (own_P s (Q0 n0) 16 128) (s₁.setTop (entryFrame m #[(.int i0), (.long i1), (.long i2), (.long i3), (.long i4), (.long i5)] maxLocals))
  refine own_st (fun t k => castTop (ef_0 m i0 i1 i2 i3 i4 i5) k) ?_
  show own_G p.tables e below _ (s₁.setTop (mkF m 0 #[.val (.int i0), .val (.long i1), .second, .val (.long i2), .second, .val (.long i3), .second, .val (.long i4), .second, .val (.long i5), .second, .unset, .unset, .unset, .unset, .unset, .unset, .unset, .unset, .unset, .unset, .unset, .unset, .unset, .unset, .unset, .unset, .unset, .unset, .unset, .unset, .unset] []))
  refine own_st (fun _ k => XS.lloadN X0.here hx rfl (hb hby at_0) rfl k) ?_
  show own_G p.tables e below _ (s₁.setTop (mkF m 1 #[.val (.int i0), .val (.long i1), .second, .val (.long i2), .second, .val (.long i3), .second, .val (.long i4), .second, .val (.long i5), .second, .unset, .unset, .unset, .unset, .unset, .unset, .unset, .unset, .unset, .unset, .unset, .unset, .unset, .unset, .unset, .unset, .unset, .unset, .unset, .unset, .unset] [(.long i1)]))
  obtain ⟨_, _, ⟨T1, L1, k1, n1⟩, -, X1, ⟨Lc1, hQ1, l1, y1, z1⟩, st1⟩ := Jvm.LawKit.callS X0 hx (y := (⟨"com/example/funnel/funnel/relay/BacklogFoundPinLaw", "t", "(J)J"⟩ : MethodName)) hown (mvT hZ (hw _ (List.mem_of_getElem? (i := 0) rfl))) (mvT hZ (hw _ (List.mem_of_getElem? (i := 1) rfl))) (mvT hZ (hw _ (List.mem_of_getElem? (i := 2) rfl))) (mvT hZ (hw _ (List.mem_of_getElem? (i := 3) rfl))) (by decide) (backOf (W := 0) (rm1 l Z a0 hw [] i1 h0 n0 Z0 ) hZ (hw _ (List.mem_of_getElem? (i := 3) rfl)) (hw _ (List.mem_of_getElem? (i := 2) rfl)) (by decide) (by decide)) (g := (mkF m 1 #[.val (.int i0), .val (.long i1), .second, .val (.long i2), .second, .val (.long i3), .second, .val (.long i4), .second, .val (.long i5), .second, .unset, .unset, .unset, .unset, .unset, .unset, .unset, .unset, .unset, .unset, .unset, .unset, .unset, .unset, .unset, .unset, .unset, .unset, .unset, .unset, .unset] [(.long i1)])) rfl (by rw [hml]; rfl) (argsL := [(.long i1)]) (rest := []) (lenOf pd_3 rfl) rfl (by show 2 * 0 + _ ≤ _; exact Nat.le_of_eq rfl) (hb hby at_1) (fun _ _ => ⟨rfl, e0, (by decide : 0 + 0 ≤ _), (by decide : 0 + 0 ≤ _)⟩)
  dsimp only [Pt.U, Pt.locs, Pt.cells, Pt.slots] at X1 l1 y1 z1 st1 hQ1
  subst l1 y1 z1
  obtain ⟨⟨r1, rfl, hr1⟩, N1q, e1⟩ := hQ1
  have N1 := Fr.app N0 N1q
  refine own_st st1 ?_
  show own_G p.tables e below _ (T1.setTop (mkF m 4 #[.val (.int i0), .val (.long i1), .second, .val (.long i2), .second, .val (.long i3), .second, .val (.long i4), .second, .val (.long i5), .second, .unset, .unset, .unset, .unset, .unset, .unset, .unset, .unset, .unset, .unset, .unset, .unset, .unset, .unset, .unset, .unset, .unset, .unset, .unset, .unset, .unset] [(.long r1)]))
  refine own_st (fun _ k => XS.lstore X1.here hx rfl (hb hby at_4) rfl (l' := #[.val (.int i0), .val (.long i1), .second, .val (.long i2), .second, .val (.long i3), .second, .val (.long i4), .second, .val (.long i5), .second, .val (.long r1), .second, .unset, .unset, .unset, .unset, .unset, .unset, .unset, .unset, .unset, .unset, .unset, .unset, .unset, .unset, .unset, .unset, .unset, .unset, .unset]) rfl k) ?_
  show own_G p.tables e below _ (T1.setTop (mkF m 6 #[.val (.int i0), .val (.long i1), .second, .val (.long i2), .second, .val (.long i3), .second, .val (.long i4), .second, .val (.long i5), .second, .val (.long r1), .second, .unset, .unset, .unset, .unset, .unset, .unset, .unset, .unset, .unset, .unset, .unset, .unset, .unset, .unset, .unset, .unset, .unset, .unset, .unset] []))
  refine own_st (fun _ k => XS.lloadN X1.here hx rfl (hb hby at_6) rfl k) ?_
  show own_G p.tables e below _ (T1.setTop (mkF m 7 #[.val (.int i0), .val (.long i1), .second, .val (.long i2), .second, .val (.long i3), .second, .val (.long i4), .second, .val (.long i5), .second, .val (.long r1), .second, .unset, .unset, .unset, .unset, .unset, .unset, .unset, .unset, .unset, .unset, .unset, .unset, .unset, .unset, .unset, .unset, .unset, .unset, .unset] [(.long i2)]))
  obtain ⟨_, _, ⟨T2, L2, k2, n2⟩, -, X2, ⟨Lc2, hQ2, l2, y2, z2⟩, st2⟩ := Jvm.LawKit.callS X1 hx (y := (⟨"com/example/funnel/funnel/relay/BacklogFoundPinLaw", "t", "(J)J"⟩ : MethodName)) hown (mvT hZ (hw _ (List.mem_of_getElem? (i := 0) rfl))) (mvT hZ (hw _ (List.mem_of_getElem? (i := 1) rfl))) (mvT hZ (hw _ (List.mem_of_getElem? (i := 2) rfl))) (mvT hZ (hw _ (List.mem_of_getElem? (i := 3) rfl))) (by decide) (backOf (W := 0) (rm1 l Z a0 hw [] i2 h0 n0 Z0 ) hZ (hw _ (List.mem_of_getElem? (i := 3) rfl)) (hw _ (List.mem_of_getElem? (i := 2) rfl)) (by decide) (by decide)) (g := (mkF m 7 #[.val (.int i0), .val (.long i1), .second, .val (.long i2), .second, .val (.long i3), .second, .val (.long i4), .second, .val (.long i5), .second, .val (.long r1), .second, .unset, .unset, .unset, .unset, .unset, .unset, .unset, .unset, .unset, .unset, .unset, .unset, .unset, .unset, .unset, .unset, .unset, .unset, .unset] [(.long i2)])) rfl (by rw [hml]; rfl) (argsL := [(.long i2)]) (rest := []) (lenOf pd_3 rfl) rfl (by show 2 * 0 + _ ≤ _; exact Nat.le_of_eq rfl) (hb hby at_7) (fun _ _ => ⟨rfl, e1, (by decide : 0 + 0 ≤ _), (by decide : 0 + 0 ≤ _)⟩)
  dsimp only [Pt.U, Pt.locs, Pt.cells, Pt.slots] at X2 l2 y2 z2 st2 hQ2
  subst l2 y2 z2
  obtain ⟨⟨r2, rfl, hr2⟩, N2q, e2⟩ := hQ2
  have N2 := Fr.app N1 N2q
  refine own_st st2 ?_
  show own_G p.tables e below _ (T2.setTop (mkF m 10 #[.val (.int i0), .val (.long i1), .second, .val (.long i2), .second, .val (.long i3), .second, .val (.long i4), .second, .val (.long i5), .second, .val (.long r1), .second, .unset, .unset, .unset, .unset, .unset, .unset, .unset, .unset, .unset, .unset, .unset, .unset, .unset, .unset, .unset, .unset, .unset, .unset, .unset] [(.long r2)]))
  refine own_st (fun _ k => XS.lstore X2.here hx rfl (hb hby at_10) rfl (l' := #[.val (.int i0), .val (.long i1), .second, .val (.long i2), .second, .val (.long i3), .second, .val (.long i4), .second, .val (.long i5), .second, .val (.long r1), .second, .val (.long r2), .second, .unset, .unset, .unset, .unset, .unset, .unset, .unset, .unset, .unset, .unset, .unset, .unset, .unset, .unset, .unset, .unset, .unset]) rfl k) ?_
  show own_G p.tables e below _ (T2.setTop (mkF m 12 #[.val (.int i0), .val (.long i1), .second, .val (.long i2), .second, .val (.long i3), .second, .val (.long i4), .second, .val (.long i5), .second, .val (.long r1), .second, .val (.long r2), .second, .unset, .unset, .unset, .unset, .unset, .unset, .unset, .unset, .unset, .unset, .unset, .unset, .unset, .unset, .unset, .unset, .unset] []))
  refine own_st (fun _ k => XS.lload X2.here hx rfl (hb hby at_12) rfl k) ?_
  show own_G p.tables e below _ (T2.setTop (mkF m 14 #[.val (.int i0), .val (.long i1), .second, .val (.long i2), .second, .val (.long i3), .second, .val (.long i4), .second, .val (.long i5), .second, .val (.long r1), .second, .val (.long r2), .second, .unset, .unset, .unset, .unset, .unset, .unset, .unset, .unset, .unset, .unset, .unset, .unset, .unset, .unset, .unset, .unset, .unset] [(.long i3)]))
  obtain ⟨_, _, ⟨T3, L3, k3, n3⟩, -, X3, ⟨Lc3, hQ3, l3, y3, z3⟩, st3⟩ := Jvm.LawKit.callS X2 hx (y := (⟨"com/example/funnel/funnel/relay/BacklogFoundPinLaw", "t", "(J)J"⟩ : MethodName)) hown (mvT hZ (hw _ (List.mem_of_getElem? (i := 0) rfl))) (mvT hZ (hw _ (List.mem_of_getElem? (i := 1) rfl))) (mvT hZ (hw _ (List.mem_of_getElem? (i := 2) rfl))) (mvT hZ (hw _ (List.mem_of_getElem? (i := 3) rfl))) (by decide) (backOf (W := 0) (rm1 l Z a0 hw [] i3 h0 n0 Z0 ) hZ (hw _ (List.mem_of_getElem? (i := 3) rfl)) (hw _ (List.mem_of_getElem? (i := 2) rfl)) (by decide) (by decide)) (g := (mkF m 14 #[.val (.int i0), .val (.long i1), .second, .val (.long i2), .second, .val (.long i3), .second, .val (.long i4), .second, .val (.long i5), .second, .val (.long r1), .second, .val (.long r2), .second, .unset, .unset, .unset, .unset, .unset, .unset, .unset, .unset, .unset, .unset, .unset, .unset, .unset, .unset, .unset, .unset, .unset] [(.long i3)])) rfl (by rw [hml]; rfl) (argsL := [(.long i3)]) (rest := []) (lenOf pd_3 rfl) rfl (by show 2 * 0 + _ ≤ _; exact Nat.le_of_eq rfl) (hb hby at_14) (fun _ _ => ⟨rfl, e2, (by decide : 0 + 0 ≤ _), (by decide : 0 + 0 ≤ _)⟩)
  dsimp only [Pt.U, Pt.locs, Pt.cells, Pt.slots] at X3 l3 y3 z3 st3 hQ3
  subst l3 y3 z3
  obtain ⟨⟨r3, rfl, hr3⟩, N3q, e3⟩ := hQ3
  have N3 := Fr.app N2 N3q
  refine own_st st3 ?_
  show own_G p.tables e below _ (T3.setTop (mkF m 17 #[.val (.int i0), .val (.long i1), .second, .val (.long i2), .second, .val (.long i3), .second, .val (.long i4), .second, .val (.long i5), .second, .val (.long r1), .second, .val (.long r2), .second, .unset, .unset, .unset, .unset, .unset, .unset, .unset, .unset, .unset, .unset, .unset, .unset, .unset, .unset, .unset, .unset, .unset] [(.long r3)]))
  refine own_st (fun _ k => XS.lstore X3.here hx rfl (hb hby at_17) rfl (l' := #[.val (.int i0), .val (.long i1), .second, .val (.long i2), .second, .val (.long i3), .second, .val (.long i4), .second, .val (.long i5), .second, .val (.long r1), .second, .val (.long r2), .second, .val (.long r3), .second, .unset, .unset, .unset, .unset, .unset, .unset, .unset, .unset, .unset, .unset, .unset, .unset, .unset, .unset, .unset]) rfl k) ?_
  show own_G p.tables e below _ (T3.setTop (mkF m 19 #[.val (.int i0), .val (.long i1), .second, .val (.long i2), .second, .val (.long i3), .second, .val (.long i4), .second, .val (.long i5), .second, .val (.long r1), .second, .val (.long r2), .second, .val (.long r3), .second, .unset, .unset, .unset, .unset, .unset, .unset, .unset, .unset, .unset, .unset, .unset, .unset, .unset, .unset, .unset] []))
  refine own_st (fun _ k => XS.lload X3.here hx rfl (hb hby at_19) rfl k) ?_
  show own_G p.tables e below _ (T3.setTop (mkF m 21 #[.val (.int i0), .val (.long i1), .second, .val (.long i2), .second, .val (.long i3), .second, .val (.long i4), .second, .val (.long i5), .second, .val (.long r1), .second, .val (.long r2), .second, .val (.long r3), .second, .unset, .unset, .unset, .unset, .unset, .unset, .unset, .unset, .unset, .unset, .unset, .unset, .unset, .unset, .unset] [(.long i4)]))
  obtain ⟨_, _, ⟨T4, L4, k4, n4⟩, -, X4, ⟨Lc4, hQ4, l4, y4, z4⟩, st4⟩ := Jvm.LawKit.callS X3 hx (y := (⟨"com/example/funnel/funnel/relay/BacklogFoundPinLaw", "t", "(J)J"⟩ : MethodName)) hown (mvT hZ (hw _ (List.mem_of_getElem? (i := 0) rfl))) (mvT hZ (hw _ (List.mem_of_getElem? (i := 1) rfl))) (mvT hZ (hw _ (List.mem_of_getElem? (i := 2) rfl))) (mvT hZ (hw _ (List.mem_of_getElem? (i := 3) rfl))) (by decide) (backOf (W := 0) (rm1 l Z a0 hw [] i4 h0 n0 Z0 ) hZ (hw _ (List.mem_of_getElem? (i := 3) rfl)) (hw _ (List.mem_of_getElem? (i := 2) rfl)) (by decide) (by decide)) (g := (mkF m 21 #[.val (.int i0), .val (.long i1), .second, .val (.long i2), .second, .val (.long i3), .second, .val (.long i4), .second, .val (.long i5), .second, .val (.long r1), .second, .val (.long r2), .second, .val (.long r3), .second, .unset, .unset, .unset, .unset, .unset, .unset, .unset, .unset, .unset, .unset, .unset, .unset, .unset, .unset, .unset] [(.long i4)])) rfl (by rw [hml]; rfl) (argsL := [(.long i4)]) (rest := []) (lenOf pd_3 rfl) rfl (by show 2 * 0 + _ ≤ _; exact Nat.le_of_eq rfl) (hb hby at_21) (fun _ _ => ⟨rfl, e3, (by decide : 0 + 0 ≤ _), (by decide : 0 + 0 ≤ _)⟩)
  dsimp only [Pt.U, Pt.locs, Pt.cells, Pt.slots] at X4 l4 y4 z4 st4 hQ4
  subst l4 y4 z4
  obtain ⟨⟨r4, rfl, hr4⟩, N4q, e4⟩ := hQ4
  have N4 := Fr.app N3 N4q
  refine own_st st4 ?_
  show own_G p.tables e below _ (T4.setTop (mkF m 24 #[.val (.int i0), .val (.long i1), .second, .val (.long i2), .second, .val (.long i3), .second, .val (.long i4), .second, .val (.long i5), .second, .val (.long r1), .second, .val (.long r2), .second, .val (.long r3), .second, .unset, .unset, .unset, .unset, .unset, .unset, .unset, .unset, .unset, .unset, .unset, .unset, .unset, .unset, .unset] [(.long r4)]))
  refine own_st (fun _ k => XS.lstore X4.here hx rfl (hb hby at_24) rfl (l' := #[.val (.int i0), .val (.long i1), .second, .val (.long i2), .second, .val (.long i3), .second, .val (.long i4), .second, .val (.long i5), .second, .val (.long r1), .second, .val (.long r2), .second, .val (.long r3), .second, .val (.long r4), .second, .unset, .unset, .unset, .unset, .unset, .unset, .unset, .unset, .unset, .unset, .unset, .unset, .unset]) rfl k) ?_
  show own_G p.tables e below _ (T4.setTop (mkF m 26 #[.val (.int i0), .val (.long i1), .second, .val (.long i2), .second, .val (.long i3), .second, .val (.long i4), .second, .val (.long i5), .second, .val (.long r1), .second, .val (.long r2), .second, .val (.long r3), .second, .val (.long r4), .second, .unset, .unset, .unset, .unset, .unset, .unset, .unset, .unset, .unset, .unset, .unset, .unset, .unset] []))
  refine own_st (fun _ k => XS.lload X4.here hx rfl (hb hby at_26) rfl k) ?_
  show own_G p.tables e below _ (T4.setTop (mkF m 28 #[.val (.int i0), .val (.long i1), .second, .val (.long i2), .second, .val (.long i3), .second, .val (.long i4), .second, .val (.long i5), .second, .val (.long r1), .second, .val (.long r2), .second, .val (.long r3), .second, .val (.long r4), .second, .unset, .unset, .unset, .unset, .unset, .unset, .unset, .unset, .unset, .unset, .unset, .unset, .unset] [(.long i5)]))
  obtain ⟨_, _, ⟨T5, L5, k5, n5⟩, -, X5, ⟨Lc5, hQ5, l5, y5, z5⟩, st5⟩ := Jvm.LawKit.callS X4 hx (y := (⟨"com/example/funnel/funnel/relay/BacklogFoundPinLaw", "t", "(J)J"⟩ : MethodName)) hown (mvT hZ (hw _ (List.mem_of_getElem? (i := 0) rfl))) (mvT hZ (hw _ (List.mem_of_getElem? (i := 1) rfl))) (mvT hZ (hw _ (List.mem_of_getElem? (i := 2) rfl))) (mvT hZ (hw _ (List.mem_of_getElem? (i := 3) rfl))) (by decide) (backOf (W := 0) (rm1 l Z a0 hw [] i5 h0 n0 Z0 ) hZ (hw _ (List.mem_of_getElem? (i := 3) rfl)) (hw _ (List.mem_of_getElem? (i := 2) rfl)) (by decide) (by decide)) (g := (mkF m 28 #[.val (.int i0), .val (.long i1), .second, .val (.long i2), .second, .val (.long i3), .second, .val (.long i4), .second, .val (.long i5), .second, .val (.long r1), .second, .val (.long r2), .second, .val (.long r3), .second, .val (.long r4), .second, .unset, .unset, .unset, .unset, .unset, .unset, .unset, .unset, .unset, .unset, .unset, .unset, .unset] [(.long i5)])) rfl (by rw [hml]; rfl) (argsL := [(.long i5)]) (rest := []) (lenOf pd_3 rfl) rfl (by show 2 * 0 + _ ≤ _; exact Nat.le_of_eq rfl) (hb hby at_28) (fun _ _ => ⟨rfl, e4, (by decide : 0 + 0 ≤ _), (by decide : 0 + 0 ≤ _)⟩)
  dsimp only [Pt.U, Pt.locs, Pt.cells, Pt.slots] at X5 l5 y5 z5 st5 hQ5
  subst l5 y5 z5
  obtain ⟨⟨r5, rfl, hr5⟩, N5q, e5⟩ := hQ5
  have N5 := Fr.app N4 N5q
  refine own_st st5 ?_
  show own_G p.tables e below _ (T5.setTop (mkF m 31 #[.val (.int i0), .val (.long i1), .second, .val (.long i2), .second, .val (.long i3), .second, .val (.long i4), .second, .val (.long i5), .second, .val (.long r1), .second, .val (.long r2), .second, .val (.long r3), .second, .val (.long r4), .second, .unset, .unset, .unset, .unset, .unset, .unset, .unset, .unset, .unset, .unset, .unset, .unset, .unset] [(.long r5)]))
  refine own_st (fun _ k => XS.lstore X5.here hx rfl (hb hby at_31) rfl (l' := #[.val (.int i0), .val (.long i1), .second, .val (.long i2), .second, .val (.long i3), .second, .val (.long i4), .second, .val (.long i5), .second, .val (.long r1), .second, .val (.long r2), .second, .val (.long r3), .second, .val (.long r4), .second, .val (.long r5), .second, .unset, .unset, .unset, .unset, .unset, .unset, .unset, .unset, .unset, .unset, .unset]) rfl k) ?_
  show own_G p.tables e below _ (T5.setTop (mkF m 33 #[.val (.int i0), .val (.long i1), .second, .val (.long i2), .second, .val (.long i3), .second, .val (.long i4), .second, .val (.long i5), .second, .val (.long r1), .second, .val (.long r2), .second, .val (.long r3), .second, .val (.long r4), .second, .val (.long r5), .second, .unset, .unset, .unset, .unset, .unset, .unset, .unset, .unset, .unset, .unset, .unset] []))
  refine own_st (fun _ k => XS.iloadN X5.here hx rfl (hb hby at_33) rfl k) ?_
  show own_G p.tables e below _ (T5.setTop (mkF m 34 #[.val (.int i0), .val (.long i1), .second, .val (.long i2), .second, .val (.long i3), .second, .val (.long i4), .second, .val (.long i5), .second, .val (.long r1), .second, .val (.long r2), .second, .val (.long r3), .second, .val (.long r4), .second, .val (.long r5), .second, .unset, .unset, .unset, .unset, .unset, .unset, .unset, .unset, .unset, .unset, .unset] [(.int i0)]))
  refine own_st (fun _ k => XS.iconst X5.here hx rfl (hb hby at_34) k) ?_
  show own_G p.tables e below _ (T5.setTop (mkF m 35 #[.val (.int i0), .val (.long i1), .second, .val (.long i2), .second, .val (.long i3), .second, .val (.long i4), .second, .val (.long i5), .second, .val (.long r1), .second, .val (.long r2), .second, .val (.long r3), .second, .val (.long r4), .second, .val (.long r5), .second, .unset, .unset, .unset, .unset, .unset, .unset, .unset, .unset, .unset, .unset, .unset] [(.int (1 : Int32)), (.int i0)]))
  refine own_st (fun _ k => XS.iand X5.here hx rfl (hb hby at_35) rfl k) ?_
  show own_G p.tables e below _ (T5.setTop (mkF m 36 #[.val (.int i0), .val (.long i1), .second, .val (.long i2), .second, .val (.long i3), .second, .val (.long i4), .second, .val (.long i5), .second, .val (.long r1), .second, .val (.long r2), .second, .val (.long r3), .second, .val (.long r4), .second, .val (.long r5), .second, .unset, .unset, .unset, .unset, .unset, .unset, .unset, .unset, .unset, .unset, .unset] [(.int (i0 &&& (1 : Int32)))]))
  have J44_7 : ∀ (z8 : Int32) (hz8 : z8 = (own_b (¬ ((i0 &&& (1 : Int32)) = (0 : Int32))))), own_G p.tables e below (own_P s (Q0 n0) 16 128) (T5.setTop (mkF m 44 #[.val (.int i0), .val (.long i1), .second, .val (.long i2), .second, .val (.long i3), .second, .val (.long i4), .second, .val (.long i5), .second, .val (.long r1), .second, .val (.long r2), .second, .val (.long r3), .second, .val (.long r4), .second, .val (.long r5), .second, .unset, .unset, .unset, .unset, .unset, .unset, .unset, .unset, .unset, .unset, .unset] [(.int z8)])) := by
    intro z8 hz8
    refine own_st (fun _ k => XS.istore X5.here hx rfl (hb hby at_44) rfl (l' := #[.val (.int i0), .val (.long i1), .second, .val (.long i2), .second, .val (.long i3), .second, .val (.long i4), .second, .val (.long i5), .second, .val (.long r1), .second, .val (.long r2), .second, .val (.long r3), .second, .val (.long r4), .second, .val (.long r5), .second, .val (.int z8), .unset, .unset, .unset, .unset, .unset, .unset, .unset, .unset, .unset, .unset]) rfl k) ?_
    show own_G p.tables e below _ (T5.setTop (mkF m 46 #[.val (.int i0), .val (.long i1), .second, .val (.long i2), .second, .val (.long i3), .second, .val (.long i4), .second, .val (.long i5), .second, .val (.long r1), .second, .val (.long r2), .second, .val (.long r3), .second, .val (.long r4), .second, .val (.long r5), .second, .val (.int z8), .unset, .unset, .unset, .unset, .unset, .unset, .unset, .unset, .unset, .unset] []))
    refine own_st (fun _ k => XS.iloadN X5.here hx rfl (hb hby at_46) rfl k) ?_
    show own_G p.tables e below _ (T5.setTop (mkF m 47 #[.val (.int i0), .val (.long i1), .second, .val (.long i2), .second, .val (.long i3), .second, .val (.long i4), .second, .val (.long i5), .second, .val (.long r1), .second, .val (.long r2), .second, .val (.long r3), .second, .val (.long r4), .second, .val (.long r5), .second, .val (.int z8), .unset, .unset, .unset, .unset, .unset, .unset, .unset, .unset, .unset, .unset] [(.int i0)]))
    refine own_st (fun _ k => XS.iconst X5.here hx rfl (hb hby at_47) k) ?_
    show own_G p.tables e below _ (T5.setTop (mkF m 48 #[.val (.int i0), .val (.long i1), .second, .val (.long i2), .second, .val (.long i3), .second, .val (.long i4), .second, .val (.long i5), .second, .val (.long r1), .second, .val (.long r2), .second, .val (.long r3), .second, .val (.long r4), .second, .val (.long r5), .second, .val (.int z8), .unset, .unset, .unset, .unset, .unset, .unset, .unset, .unset, .unset, .unset] [(.int (2 : Int32)), (.int i0)]))
    refine own_st (fun _ k => XS.iand X5.here hx rfl (hb hby at_48) rfl k) ?_
    show own_G p.tables e below _ (T5.setTop (mkF m 49 #[.val (.int i0), .val (.long i1), .second, .val (.long i2), .second, .val (.long i3), .second, .val (.long i4), .second, .val (.long i5), .second, .val (.long r1), .second, .val (.long r2), .second, .val (.long r3), .second, .val (.long r4), .second, .val (.long r5), .second, .val (.int z8), .unset, .unset, .unset, .unset, .unset, .unset, .unset, .unset, .unset, .unset] [(.int (i0 &&& (2 : Int32)))]))
    have J57_10 : ∀ (z11 : Int32) (hz11 : z11 = (own_b (¬ ((i0 &&& (2 : Int32)) = (0 : Int32))))), own_G p.tables e below (own_P s (Q0 n0) 16 128) (T5.setTop (mkF m 57 #[.val (.int i0), .val (.long i1), .second, .val (.long i2), .second, .val (.long i3), .second, .val (.long i4), .second, .val (.long i5), .second, .val (.long r1), .second, .val (.long r2), .second, .val (.long r3), .second, .val (.long r4), .second, .val (.long r5), .second, .val (.int z8), .unset, .unset, .unset, .unset, .unset, .unset, .unset, .unset, .unset, .unset] [(.int z11)])) := by
      intro z11 hz11
      refine own_st (fun _ k => XS.istore X5.here hx rfl (hb hby at_57) rfl (l' := #[.val (.int i0), .val (.long i1), .second, .val (.long i2), .second, .val (.long i3), .second, .val (.long i4), .second, .val (.long i5), .second, .val (.long r1), .second, .val (.long r2), .second, .val (.long r3), .second, .val (.long r4), .second, .val (.long r5), .second, .val (.int z8), .val (.int z11), .unset, .unset, .unset, .unset, .unset, .unset, .unset, .unset, .unset]) rfl k) ?_
      show own_G p.tables e below _ (T5.setTop (mkF m 59 #[.val (.int i0), .val (.long i1), .second, .val (.long i2), .second, .val (.long i3), .second, .val (.long i4), .second, .val (.long i5), .second, .val (.long r1), .second, .val (.long r2), .second, .val (.long r3), .second, .val (.long r4), .second, .val (.long r5), .second, .val (.int z8), .val (.int z11), .unset, .unset, .unset, .unset, .unset, .unset, .unset, .unset, .unset] []))
      refine own_st (fun _ k => XS.iloadN X5.here hx rfl (hb hby at_59) rfl k) ?_
      show own_G p.tables e below _ (T5.setTop (mkF m 60 #[.val (.int i0), .val (.long i1), .second, .val (.long i2), .second, .val (.long i3), .second, .val (.long i4), .second, .val (.long i5), .second, .val (.long r1), .second, .val (.long r2), .second, .val (.long r3), .second, .val (.long r4), .second, .val (.long r5), .second, .val (.int z8), .val (.int z11), .unset, .unset, .unset, .unset, .unset, .unset, .unset, .unset, .unset] [(.int i0)]))
      refine own_st (fun _ k => XS.iconst X5.here hx rfl (hb hby at_60) k) ?_
      show own_G p.tables e below _ (T5.setTop (mkF m 61 #[.val (.int i0), .val (.long i1), .second, .val (.long i2), .second, .val (.long i3), .second, .val (.long i4), .second, .val (.long i5), .second, .val (.long r1), .second, .val (.long r2), .second, .val (.long r3), .second, .val (.long r4), .second, .val (.long r5), .second, .val (.int z8), .val (.int z11), .unset, .unset, .unset, .unset, .unset, .unset, .unset, .unset, .unset] [(.int (4 : Int32)), (.int i0)]))
      refine own_st (fun _ k => XS.iand X5.here hx rfl (hb hby at_61) rfl k) ?_
      show own_G p.tables e below _ (T5.setTop (mkF m 62 #[.val (.int i0), .val (.long i1), .second, .val (.long i2), .second, .val (.long i3), .second, .val (.long i4), .second, .val (.long i5), .second, .val (.long r1), .second, .val (.long r2), .second, .val (.long r3), .second, .val (.long r4), .second, .val (.long r5), .second, .val (.int z8), .val (.int z11), .unset, .unset, .unset, .unset, .unset, .unset, .unset, .unset, .unset] [(.int (i0 &&& (4 : Int32)))]))
      have J70_13 : ∀ (z14 : Int32) (hz14 : z14 = (own_b (¬ ((i0 &&& (4 : Int32)) = (0 : Int32))))), own_G p.tables e below (own_P s (Q0 n0) 16 128) (T5.setTop (mkF m 70 #[.val (.int i0), .val (.long i1), .second, .val (.long i2), .second, .val (.long i3), .second, .val (.long i4), .second, .val (.long i5), .second, .val (.long r1), .second, .val (.long r2), .second, .val (.long r3), .second, .val (.long r4), .second, .val (.long r5), .second, .val (.int z8), .val (.int z11), .unset, .unset, .unset, .unset, .unset, .unset, .unset, .unset, .unset] [(.int z14)])) := by
        intro z14 hz14
        refine own_st (fun _ k => XS.istore X5.here hx rfl (hb hby at_70) rfl (l' := #[.val (.int i0), .val (.long i1), .second, .val (.long i2), .second, .val (.long i3), .second, .val (.long i4), .second, .val (.long i5), .second, .val (.long r1), .second, .val (.long r2), .second, .val (.long r3), .second, .val (.long r4), .second, .val (.long r5), .second, .val (.int z8), .val (.int z11), .val (.int z14), .unset, .unset, .unset, .unset, .unset, .unset, .unset, .unset]) rfl k) ?_
        show own_G p.tables e below _ (T5.setTop (mkF m 72 #[.val (.int i0), .val (.long i1), .second, .val (.long i2), .second, .val (.long i3), .second, .val (.long i4), .second, .val (.long i5), .second, .val (.long r1), .second, .val (.long r2), .second, .val (.long r3), .second, .val (.long r4), .second, .val (.long r5), .second, .val (.int z8), .val (.int z11), .val (.int z14), .unset, .unset, .unset, .unset, .unset, .unset, .unset, .unset] []))
        refine own_st (fun _ k => XS.iloadN X5.here hx rfl (hb hby at_72) rfl k) ?_
        show own_G p.tables e below _ (T5.setTop (mkF m 73 #[.val (.int i0), .val (.long i1), .second, .val (.long i2), .second, .val (.long i3), .second, .val (.long i4), .second, .val (.long i5), .second, .val (.long r1), .second, .val (.long r2), .second, .val (.long r3), .second, .val (.long r4), .second, .val (.long r5), .second, .val (.int z8), .val (.int z11), .val (.int z14), .unset, .unset, .unset, .unset, .unset, .unset, .unset, .unset] [(.int i0)]))
        refine own_st (fun _ k => XS.bipush X5.here hx rfl (hb hby at_73) k) ?_
        show own_G p.tables e below _ (T5.setTop (mkF m 75 #[.val (.int i0), .val (.long i1), .second, .val (.long i2), .second, .val (.long i3), .second, .val (.long i4), .second, .val (.long i5), .second, .val (.long r1), .second, .val (.long r2), .second, .val (.long r3), .second, .val (.long r4), .second, .val (.long r5), .second, .val (.int z8), .val (.int z11), .val (.int z14), .unset, .unset, .unset, .unset, .unset, .unset, .unset, .unset] [(.int (8 : Int32)), (.int i0)]))
        refine own_st (fun _ k => XS.iand X5.here hx rfl (hb hby at_75) rfl k) ?_
        show own_G p.tables e below _ (T5.setTop (mkF m 76 #[.val (.int i0), .val (.long i1), .second, .val (.long i2), .second, .val (.long i3), .second, .val (.long i4), .second, .val (.long i5), .second, .val (.long r1), .second, .val (.long r2), .second, .val (.long r3), .second, .val (.long r4), .second, .val (.long r5), .second, .val (.int z8), .val (.int z11), .val (.int z14), .unset, .unset, .unset, .unset, .unset, .unset, .unset, .unset] [(.int (i0 &&& (8 : Int32)))]))
        have J84_16 : ∀ (z17 : Int32) (hz17 : z17 = (own_b (¬ ((i0 &&& (8 : Int32)) = (0 : Int32))))), own_G p.tables e below (own_P s (Q0 n0) 16 128) (T5.setTop (mkF m 84 #[.val (.int i0), .val (.long i1), .second, .val (.long i2), .second, .val (.long i3), .second, .val (.long i4), .second, .val (.long i5), .second, .val (.long r1), .second, .val (.long r2), .second, .val (.long r3), .second, .val (.long r4), .second, .val (.long r5), .second, .val (.int z8), .val (.int z11), .val (.int z14), .unset, .unset, .unset, .unset, .unset, .unset, .unset, .unset] [(.int z17)])) := by
          intro z17 hz17
          refine own_st (fun _ k => XS.istore X5.here hx rfl (hb hby at_84) rfl (l' := #[.val (.int i0), .val (.long i1), .second, .val (.long i2), .second, .val (.long i3), .second, .val (.long i4), .second, .val (.long i5), .second, .val (.long r1), .second, .val (.long r2), .second, .val (.long r3), .second, .val (.long r4), .second, .val (.long r5), .second, .val (.int z8), .val (.int z11), .val (.int z14), .val (.int z17), .unset, .unset, .unset, .unset, .unset, .unset, .unset]) rfl k) ?_
          show own_G p.tables e below _ (T5.setTop (mkF m 86 #[.val (.int i0), .val (.long i1), .second, .val (.long i2), .second, .val (.long i3), .second, .val (.long i4), .second, .val (.long i5), .second, .val (.long r1), .second, .val (.long r2), .second, .val (.long r3), .second, .val (.long r4), .second, .val (.long r5), .second, .val (.int z8), .val (.int z11), .val (.int z14), .val (.int z17), .unset, .unset, .unset, .unset, .unset, .unset, .unset] []))
          obtain ⟨T18, h18, X18, e18, E18, A18, D18, -, st18⟩ := newO X5 hx hZ hown (hw _ (List.mem_of_getElem? (i := 5) rfl)) (hw _ (List.mem_of_getElem? (i := 6) rfl)) (hw _ (List.mem_of_getElem? (i := 7) rfl)) e5 (g := (mkF m 86 #[.val (.int i0), .val (.long i1), .second, .val (.long i2), .second, .val (.long i3), .second, .val (.long i4), .second, .val (.long i5), .second, .val (.long r1), .second, .val (.long r2), .second, .val (.long r3), .second, .val (.long r4), .second, .val (.long r5), .second, .val (.int z8), .val (.int z11), .val (.int z14), .val (.int z17), .unset, .unset, .unset, .unset, .unset, .unset, .unset] [])) rfl (hb hby at_86) (by decide) (by decide)
          obtain ⟨b18, g18⟩ : ∃ z, z = h0.size := ⟨_, rfl⟩
          rw [← g18] at A18 D18 st18
          have ge_b18 : n0 ≤ b18 := Nat.le_trans Z0 (Nat.le_of_eq g18.symm)
          have Z19 := Nat.le_trans Z0 E18.1
          have F20 : Fld Z h18 b18 "com/example/funnel/funnel/relay/Backlog" "since" "J" (.long (0 : Int64)) := D18 (Or.inl (hw _ (List.mem_of_getElem? (i := 16) rfl))) (ty := .long) (by decide)
          have F21 : Fld Z h18 b18 "com/example/funnel/funnel/relay/Backlog" "firstFoundAt" "J" (.long (0 : Int64)) := D18 (Or.inl (hw _ (List.mem_of_getElem? (i := 18) rfl))) (ty := .long) (by decide)
          have F22 : Fld Z h18 b18 "com/example/funnel/funnel/relay/Backlog" "acceptStarts" "[J" .null := D18 (Or.inr (hw _ (List.mem_of_getElem? (i := 21) rfl))) (ty := (.array .long)) (by decide)
          have F23 : Fld Z h18 b18 "com/example/funnel/funnel/relay/Backlog" "unwatched" "Z" (.int (0 : Int32)) := D18 (Or.inl (hw _ (List.mem_of_getElem? (i := 28) rfl))) (ty := .boolean) (by decide)
          have F24 : Fld Z h18 b18 "com/example/funnel/funnel/relay/Backlog" "foundAt" "J" (.long (0 : Int64)) := D18 (Or.inl (hw _ (List.mem_of_getElem? (i := 30) rfl))) (ty := .long) (by decide)
          have F25 : Fld Z h18 b18 "com/example/funnel/funnel/relay/Backlog" "accepts" "J" (.long (0 : Int64)) := D18 (Or.inl (hw _ (List.mem_of_getElem? (i := 38) rfl))) (ty := .long) (by decide)
          refine own_st st18 ?_
          show own_G p.tables e below _ (T18.setTop (mkF m 89 #[.val (.int i0), .val (.long i1), .second, .val (.long i2), .second, .val (.long i3), .second, .val (.long i4), .second, .val (.long i5), .second, .val (.long r1), .second, .val (.long r2), .second, .val (.long r3), .second, .val (.long r4), .second, .val (.long r5), .second, .val (.int z8), .val (.int z11), .val (.int z14), .val (.int z17), .unset, .unset, .unset, .unset, .unset, .unset, .unset] [(.ref b18)]))
          refine own_st (fun _ k => XS.dup X18.here hx rfl (hb hby at_89) rfl rfl k) ?_
          show own_G p.tables e below _ (T18.setTop (mkF m 90 #[.val (.int i0), .val (.long i1), .second, .val (.long i2), .second, .val (.long i3), .second, .val (.long i4), .second, .val (.long i5), .second, .val (.long r1), .second, .val (.long r2), .second, .val (.long r3), .second, .val (.long r4), .second, .val (.long r5), .second, .val (.int z8), .val (.int z11), .val (.int z14), .val (.int z17), .unset, .unset, .unset, .unset, .unset, .unset, .unset] [(.ref b18), (.ref b18)]))
          refine own_st (fun _ k => XS.iconst X18.here hx rfl (hb hby at_90) k) ?_
          show own_G p.tables e below _ (T18.setTop (mkF m 91 #[.val (.int i0), .val (.long i1), .second, .val (.long i2), .second, .val (.long i3), .second, .val (.long i4), .second, .val (.long i5), .second, .val (.long r1), .second, .val (.long r2), .second, .val (.long r3), .second, .val (.long r4), .second, .val (.long r5), .second, .val (.int z8), .val (.int z11), .val (.int z14), .val (.int z17), .unset, .unset, .unset, .unset, .unset, .unset, .unset] [(.int (1 : Int32)), (.ref b18), (.ref b18)]))
          obtain ⟨_, _, ⟨T26, L26, k26, n26⟩, -, X26, ⟨Lc26, hQ26, l26, y26, z26⟩, st26⟩ := X18.specialBack hx (y := (⟨"com/example/funnel/funnel/relay/Backlog", "<init>", "(I)V"⟩ : MethodName)) rfl hown (mvT hZ (hw _ (List.mem_of_getElem? (i := 8) rfl))) (mvT hZ (hw _ (List.mem_of_getElem? (i := 9) rfl))) (mvT hZ (hw _ (List.mem_of_getElem? (i := 10) rfl))) (by decide) (backOf (W := 1) (rm2 l Z a0 hw [] b18 (0 : Int64) (0 : Int64) .null (0 : Int32) (0 : Int64) (0 : Int64) h18 n0 Z19 F20 F21 F22 F23 F24 F25 A18 ge_b18) hZ (hw _ (List.mem_of_getElem? (i := 10) rfl)) (hw _ (List.mem_of_getElem? (i := 7) rfl)) (by decide) (by decide)) (g := (mkF m 91 #[.val (.int i0), .val (.long i1), .second, .val (.long i2), .second, .val (.long i3), .second, .val (.long i4), .second, .val (.long i5), .second, .val (.long r1), .second, .val (.long r2), .second, .val (.long r3), .second, .val (.long r4), .second, .val (.long r5), .second, .val (.int z8), .val (.int z11), .val (.int z14), .val (.int z17), .unset, .unset, .unset, .unset, .unset, .unset, .unset] [(.int (1 : Int32)), (.ref b18), (.ref b18)])) rfl (by rw [hml]; rfl) (Steps.refl _) (a := b18) (argsL := [(.int (1 : Int32))]) (rest := [(.ref b18)]) (lenOf pd_4 rfl) rfl (by show 2 * 0 + _ ≤ _; exact Nat.le_of_eq rfl) (hb hby at_91) (fun _ _ => ⟨rfl, e18, (by decide : 1 + 1 ≤ _), (by decide : 6 + 1 ≤ _)⟩)
          dsimp only [Pt.U, Pt.locs, Pt.cells, Pt.slots] at X26 l26 y26 z26 st26 hQ26
          subst l26 y26 z26
          obtain ⟨rfl, N26q, K26q, E27, F28, F29, ⟨nb30, nk31, sq32, F33, V34⟩, F35, F36, F37⟩ := hQ26
          have N26 := Fr.app N5 N26q
          have ge_nb30 : n0 ≤ nb30 := Nat.le_trans Z19 sq32
          have ne_b18_nb30 : b18 ≠ nb30 := fun q => Nat.lt_irrefl _ (Nat.lt_of_lt_of_le A18.lt (Nat.le_trans sq32 (Nat.le_of_eq q.symm)))
          have Z39 := Nat.le_trans Z19 K26q.1
          refine own_st (fun _ k => st26.trans k) ?_
          show own_G p.tables e below _ (T26.setTop (mkF m 94 #[.val (.int i0), .val (.long i1), .second, .val (.long i2), .second, .val (.long i3), .second, .val (.long i4), .second, .val (.long i5), .second, .val (.long r1), .second, .val (.long r2), .second, .val (.long r3), .second, .val (.long r4), .second, .val (.long r5), .second, .val (.int z8), .val (.int z11), .val (.int z14), .val (.int z17), .unset, .unset, .unset, .unset, .unset, .unset, .unset] [(.ref b18)]))
          refine own_st (fun _ k => XS.astore X26.here hx rfl (hb hby at_94) rfl rfl (l' := #[.val (.int i0), .val (.long i1), .second, .val (.long i2), .second, .val (.long i3), .second, .val (.long i4), .second, .val (.long i5), .second, .val (.long r1), .second, .val (.long r2), .second, .val (.long r3), .second, .val (.long r4), .second, .val (.long r5), .second, .val (.int z8), .val (.int z11), .val (.int z14), .val (.int z17), .val (.ref b18), .unset, .unset, .unset, .unset, .unset, .unset]) rfl k) ?_
          show own_G p.tables e below _ (T26.setTop (mkF m 96 #[.val (.int i0), .val (.long i1), .second, .val (.long i2), .second, .val (.long i3), .second, .val (.long i4), .second, .val (.long i5), .second, .val (.long r1), .second, .val (.long r2), .second, .val (.long r3), .second, .val (.long r4), .second, .val (.long r5), .second, .val (.int z8), .val (.int z11), .val (.int z14), .val (.int z17), .val (.ref b18), .unset, .unset, .unset, .unset, .unset, .unset] []))
          refine own_st (fun _ k => XS.iload X26.here hx rfl (hb hby at_96) rfl k) ?_
          show own_G p.tables e below _ (T26.setTop (mkF m 98 #[.val (.int i0), .val (.long i1), .second, .val (.long i2), .second, .val (.long i3), .second, .val (.long i4), .second, .val (.long i5), .second, .val (.long r1), .second, .val (.long r2), .second, .val (.long r3), .second, .val (.long r4), .second, .val (.long r5), .second, .val (.int z8), .val (.int z11), .val (.int z14), .val (.int z17), .val (.ref b18), .unset, .unset, .unset, .unset, .unset, .unset] [(.int z8)]))
          have J110_44 : ∀ (z48 : Int64) (hz48 : z48 = (if ¬ ((i0 &&& (1 : Int32)) = (0 : Int32)) then ((if ¬ ((-9223372036854775808 : Int64) = (-9223372036854775808 : Int64)) ∧ (¬ ((0 : Int32) = (0 : Int32)) ∨ (¬ ((0 : Int64) < r1))) then (-9223372036854775808 : Int64) else r1)) else (-9223372036854775808 : Int64))) (z50 : Int64) (hz50 : z50 = (if ¬ ((i0 &&& (1 : Int32)) = (0 : Int32)) then ((if (-9223372036854775808 : Int64) = (-9223372036854775808 : Int64) then r2 else (-9223372036854775808 : Int64))) else (-9223372036854775808 : Int64))) (z54 : Int64) (hz54 : z54 = (if ¬ ((i0 &&& (1 : Int32)) = (0 : Int32)) then r2 else (0 : Int64))) (T45 : State) (L45 : List Loc) (X45 : Stand p l e room_1 s m #[(.int i0), (.long i1), (.long i2), (.long i3), (.long i4), (.long i5)] below meth c T45 L45 2 7) (N45 : Fr n0 L45) (Z46 : n0 ≤ T45.heap.size) (E47 : Exa Z T45.heap b18 "com/example/funnel/funnel/relay/Backlog") (F49 : Fld Z T45.heap b18 "com/example/funnel/funnel/relay/Backlog" "since" "J" (.long z48)) (F51 : Fld Z T45.heap b18 "com/example/funnel/funnel/relay/Backlog" "firstFoundAt" "J" (.long z50)) (F52 : Fld Z T45.heap b18 "com/example/funnel/funnel/relay/Backlog" "acceptStarts" "[J" (.ref nb30)) (F53 : Fld Z T45.heap b18 "com/example/funnel/funnel/relay/Backlog" "unwatched" "Z" (.int (0 : Int32))) (F55 : Fld Z T45.heap b18 "com/example/funnel/funnel/relay/Backlog" "foundAt" "J" (.long z54)) (F56 : Fld Z T45.heap b18 "com/example/funnel/funnel/relay/Backlog" "accepts" "J" (.long (0 : Int64))) (V57 : Arv Z T45.heap nb30 nk31 .long (1 : Int32) [(.long (0 : Int64))] (.long (0 : Int64))), own_G p.tables e below (own_P s (Q0 n0) 16 128) (T45.setTop (mkF m 110 #[.val (.int i0), .val (.long i1), .second, .val (.long i2), .second, .val (.long i3), .second, .val (.long i4), .second, .val (.long i5), .second, .val (.long r1), .second, .val (.long r2), .second, .val (.long r3), .second, .val (.long r4), .second, .val (.long r5), .second, .val (.int z8), .val (.int z11), .val (.int z14), .val (.int z17), .val (.ref b18), .unset, .unset, .unset, .unset, .unset, .unset] [])) := by
            intro z48 hz48 z50 hz50 z54 hz54 T45 L45 X45 N45 Z46 E47 F49 F51 F52 F53 F55 F56 V57
            refine own_st (fun _ k => XS.iload X45.here hx rfl (hb hby at_110) rfl k) ?_
            show own_G p.tables e below _ (T45.setTop (mkF m 112 #[.val (.int i0), .val (.long i1), .second, .val (.long i2), .second, .val (.long i3), .second, .val (.long i4), .second, .val (.long i5), .second, .val (.long r1), .second, .val (.long r2), .second, .val (.long r3), .second, .val (.long r4), .second, .val (.long r5), .second, .val (.int z8), .val (.int z11), .val (.int z14), .val (.int z17), .val (.ref b18), .unset, .unset, .unset, .unset, .unset, .unset] [(.int z11)]))
            have J120_59 : ∀ (z66 : Int32) (hz66 : z66 = (own_b (¬ ((i0 &&& (2 : Int32)) = (0 : Int32))))) (T60 : State) (L60 : List Loc) (X60 : Stand p l e room_1 s m #[(.int i0), (.long i1), (.long i2), (.long i3), (.long i4), (.long i5)] below meth c T60 L60 2 7) (N60 : Fr n0 L60) (Z61 : n0 ≤ T60.heap.size) (E62 : Exa Z T60.heap b18 "com/example/funnel/funnel/relay/Backlog") (F63 : Fld Z T60.heap b18 "com/example/funnel/funnel/relay/Backlog" "since" "J" (.long z48)) (F64 : Fld Z T60.heap b18 "com/example/funnel/funnel/relay/Backlog" "firstFoundAt" "J" (.long z50)) (F65 : Fld Z T60.heap b18 "com/example/funnel/funnel/relay/Backlog" "acceptStarts" "[J" (.ref nb30)) (F67 : Fld Z T60.heap b18 "com/example/funnel/funnel/relay/Backlog" "unwatched" "Z" (.int z66)) (F68 : Fld Z T60.heap b18 "com/example/funnel/funnel/relay/Backlog" "foundAt" "J" (.long z54)) (F69 : Fld Z T60.heap b18 "com/example/funnel/funnel/relay/Backlog" "accepts" "J" (.long (0 : Int64))) (V70 : Arv Z T60.heap nb30 nk31 .long (1 : Int32) [(.long (0 : Int64))] (.long (0 : Int64))), own_G p.tables e below (own_P s (Q0 n0) 16 128) (T60.setTop (mkF m 120 #[.val (.int i0), .val (.long i1), .second, .val (.long i2), .second, .val (.long i3), .second, .val (.long i4), .second, .val (.long i5), .second, .val (.long r1), .second, .val (.long r2), .second, .val (.long r3), .second, .val (.long r4), .second, .val (.long r5), .second, .val (.int z8), .val (.int z11), .val (.int z14), .val (.int z17), .val (.ref b18), .unset, .unset, .unset, .unset, .unset, .unset] [])) := by
              intro z66 hz66 T60 L60 X60 N60 Z61 E62 F63 F64 F65 F67 F68 F69 V70
              refine own_st (fun _ k => XS.iload X60.here hx rfl (hb hby at_120) rfl k) ?_
              show own_G p.tables e below _ (T60.setTop (mkF m 122 #[.val (.int i0), .val (.long i1), .second, .val (.long i2), .second, .val (.long i3), .second, .val (.long i4), .second, .val (.long i5), .second, .val (.long r1), .second, .val (.long r2), .second, .val (.long r3), .second, .val (.long r4), .second, .val (.long r5), .second, .val (.int z8), .val (.int z11), .val (.int z14), .val (.int z17), .val (.ref b18), .unset, .unset, .unset, .unset, .unset, .unset] [(.int z14)]))
              have J130_72 : ∀ (z76 : Int64) (hz76 : z76 = (if ¬ ((i0 &&& (4 : Int32)) = (0 : Int32)) then (-9223372036854775808 : Int64) else z48)) (z78 : Int64) (hz78 : z78 = (if ¬ ((i0 &&& (4 : Int32)) = (0 : Int32)) then (-9223372036854775808 : Int64) else z50)) (T73 : State) (L73 : List Loc) (X73 : Stand p l e room_1 s m #[(.int i0), (.long i1), (.long i2), (.long i3), (.long i4), (.long i5)] below meth c T73 L73 2 7) (N73 : Fr n0 L73) (Z74 : n0 ≤ T73.heap.size) (E75 : Exa Z T73.heap b18 "com/example/funnel/funnel/relay/Backlog") (F77 : Fld Z T73.heap b18 "com/example/funnel/funnel/relay/Backlog" "since" "J" (.long z76)) (F79 : Fld Z T73.heap b18 "com/example/funnel/funnel/relay/Backlog" "firstFoundAt" "J" (.long z78)) (F80 : Fld Z T73.heap b18 "com/example/funnel/funnel/relay/Backlog" "acceptStarts" "[J" (.ref nb30)) (F81 : Fld Z T73.heap b18 "com/example/funnel/funnel/relay/Backlog" "unwatched" "Z" (.int z66)) (F82 : Fld Z T73.heap b18 "com/example/funnel/funnel/relay/Backlog" "foundAt" "J" (.long z54)) (F83 : Fld Z T73.heap b18 "com/example/funnel/funnel/relay/Backlog" "accepts" "J" (.long (0 : Int64))) (V84 : Arv Z T73.heap nb30 nk31 .long (1 : Int32) [(.long (0 : Int64))] (.long (0 : Int64))), own_G p.tables e below (own_P s (Q0 n0) 16 128) (T73.setTop (mkF m 130 #[.val (.int i0), .val (.long i1), .second, .val (.long i2), .second, .val (.long i3), .second, .val (.long i4), .second, .val (.long i5), .second, .val (.long r1), .second, .val (.long r2), .second, .val (.long r3), .second, .val (.long r4), .second, .val (.long r5), .second, .val (.int z8), .val (.int z11), .val (.int z14), .val (.int z17), .val (.ref b18), .unset, .unset, .unset, .unset, .unset, .unset] [])) := by
                intro z76 hz76 z78 hz78 T73 L73 X73 N73 Z74 E75 F77 F79 F80 F81 F82 F83 V84
                refine own_st (fun _ k => XS.aload X73.here hx rfl (hb hby at_130) rfl rfl k) ?_
                show own_G p.tables e below _ (T73.setTop (mkF m 132 #[.val (.int i0), .val (.long i1), .second, .val (.long i2), .second, .val (.long i3), .second, .val (.long i4), .second, .val (.long i5), .second, .val (.long r1), .second, .val (.long r2), .second, .val (.long r3), .second, .val (.long r4), .second, .val (.long r5), .second, .val (.int z8), .val (.int z11), .val (.int z14), .val (.int z17), .val (.ref b18), .unset, .unset, .unset, .unset, .unset, .unset] [(.ref b18)]))
                refine own_st (fun _ k => XS.lload X73.here hx rfl (hb hby at_132) rfl k) ?_
                show own_G p.tables e below _ (T73.setTop (mkF m 134 #[.val (.int i0), .val (.long i1), .second, .val (.long i2), .second, .val (.long i3), .second, .val (.long i4), .second, .val (.long i5), .second, .val (.long r1), .second, .val (.long r2), .second, .val (.long r3), .second, .val (.long r4), .second, .val (.long r5), .second, .val (.int z8), .val (.int z11), .val (.int z14), .val (.int z17), .val (.ref b18), .unset, .unset, .unset, .unset, .unset, .unset] [(.long r3), (.ref b18)]))
                refine own_st (fun _ k => XS.lload X73.here hx rfl (hb hby at_134) rfl k) ?_
                show own_G p.tables e below _ (T73.setTop (mkF m 136 #[.val (.int i0), .val (.long i1), .second, .val (.long i2), .second, .val (.long i3), .second, .val (.long i4), .second, .val (.long i5), .second, .val (.long r1), .second, .val (.long r2), .second, .val (.long r3), .second, .val (.long r4), .second, .val (.long r5), .second, .val (.int z8), .val (.int z11), .val (.int z14), .val (.int z17), .val (.ref b18), .unset, .unset, .unset, .unset, .unset, .unset] [(.long r4), (.long r3), (.ref b18)]))
                obtain ⟨cq85, kq85, q85a, q85b, q85c⟩ := isOf hZ rfl E75
                obtain ⟨_, _, ⟨T85, L85, k85, n85⟩, -, X85, ⟨Lc85, hQ85, l85, y85, z85⟩, st85⟩ := X73.virtualBack hx (y := (⟨"com/example/funnel/funnel/relay/Backlog", "found", "(JJ)V"⟩ : MethodName)) (z := (⟨"com/example/funnel/funnel/relay/Backlog", "found", "(JJ)V"⟩ : MethodName)) hown (mvT hZ (hw _ (List.mem_of_getElem? (i := 22) rfl))) (mvT hZ (hw _ (List.mem_of_getElem? (i := 23) rfl))) (notFace_of_selects (args := #[]) (mvT hZ (hw _ (List.mem_of_getElem? (i := 25) rfl)))) (mvT hZ (hw _ (List.mem_of_getElem? (i := 25) rfl))) (mvT hZ (hw _ (List.mem_of_getElem? (i := 24) rfl))) (by decide) (backOf (W := 0) (rm4 l Z a0 hw [] b18 r3 r4 z76 z78 (.ref nb30) z66 z54 (0 : Int64) T73.heap n0 Z74 F77 F79 F80 F81 F82 F83 E75 ge_b18) hZ (hw _ (List.mem_of_getElem? (i := 26) rfl)) (hw _ (List.mem_of_getElem? (i := 7) rfl)) (by decide) (by decide)) q85a q85c (g := (mkF m 136 #[.val (.int i0), .val (.long i1), .second, .val (.long i2), .second, .val (.long i3), .second, .val (.long i4), .second, .val (.long i5), .second, .val (.long r1), .second, .val (.long r2), .second, .val (.long r3), .second, .val (.long r4), .second, .val (.long r5), .second, .val (.int z8), .val (.int z11), .val (.int z14), .val (.int z17), .val (.ref b18), .unset, .unset, .unset, .unset, .unset, .unset] [(.long r4), (.long r3), (.ref b18)])) rfl (by rw [hml]; rfl) (Steps.refl _) (argsL := [(.long r3), (.long r4)]) (rest := []) (lenOf pd_2 rfl) rfl (by show 2 * 0 + _ ≤ _; exact Nat.le_of_eq rfl) (hb hby at_136) (fun _ _ => ⟨rfl, rfl, (by decide : 2 + 0 ≤ _), (by decide : 7 + 0 ≤ _)⟩)
                dsimp only [Pt.U, Pt.locs, Pt.cells, Pt.slots] at X85 l85 y85 z85 st85 hQ85
                subst l85 y85 z85
                obtain ⟨rfl, N85q, K85q, E86, F87, F88, F89, F90, F91, F92⟩ := hQ85
                have N85 := Fr.app N73 N85q
                have V94 := V84.keep K85q (ninS (Ne.symm ne_b18_nb30) nin0)
                have Z95 := Nat.le_trans Z74 K85q.1
                obtain ⟨v96, hv96⟩ : ∃ z : Int64, z = (if ¬ (z76 = (-9223372036854775808 : Int64)) ∧ (¬ (z66 = (0 : Int32)) ∨ (¬ (z54 < r3))) then z76 else r3) := ⟨_, rfl⟩
                rw [← hv96] at F87
                obtain ⟨v97, hv97⟩ : ∃ z : Int64, z = (if z78 = (-9223372036854775808 : Int64) then r4 else z78) := ⟨_, rfl⟩
                rw [← hv97] at F88
                refine own_st (fun _ k => st85.trans k) ?_
                show own_G p.tables e below _ (T85.setTop (mkF m 139 #[.val (.int i0), .val (.long i1), .second, .val (.long i2), .second, .val (.long i3), .second, .val (.long i4), .second, .val (.long i5), .second, .val (.long r1), .second, .val (.long r2), .second, .val (.long r3), .second, .val (.long r4), .second, .val (.long r5), .second, .val (.int z8), .val (.int z11), .val (.int z14), .val (.int z17), .val (.ref b18), .unset, .unset, .unset, .unset, .unset, .unset] []))
                refine own_st (fun _ k => XS.iload X85.here hx rfl (hb hby at_139) rfl k) ?_
                show own_G p.tables e below _ (T85.setTop (mkF m 141 #[.val (.int i0), .val (.long i1), .second, .val (.long i2), .second, .val (.long i3), .second, .val (.long i4), .second, .val (.long i5), .second, .val (.long r1), .second, .val (.long r2), .second, .val (.long r3), .second, .val (.long r4), .second, .val (.long r5), .second, .val (.int z8), .val (.int z11), .val (.int z14), .val (.int z17), .val (.ref b18), .unset, .unset, .unset, .unset, .unset, .unset] [(.int z17)]))
                have J153_101 : ∀ (z105 : Int64) (hz105 : z105 = (if ¬ ((i0 &&& (8 : Int32)) = (0 : Int32)) then ((if ¬ (v96 = (-9223372036854775808 : Int64)) ∧ (¬ ((0 : Int32) = (0 : Int32)) ∨ (¬ (r4 < r5))) then v96 else r5)) else v96)) (z107 : Int64) (hz107 : z107 = (if ¬ ((i0 &&& (8 : Int32)) = (0 : Int32)) then ((if v97 = (-9223372036854775808 : Int64) then r2 else v97)) else v97)) (z111 : Int64) (hz111 : z111 = (if ¬ ((i0 &&& (8 : Int32)) = (0 : Int32)) then r2 else r4)) (T102 : State) (L102 : List Loc) (X102 : Stand p l e room_1 s m #[(.int i0), (.long i1), (.long i2), (.long i3), (.long i4), (.long i5)] below meth c T102 L102 2 7) (N102 : Fr n0 L102) (Z103 : n0 ≤ T102.heap.size) (E104 : Exa Z T102.heap b18 "com/example/funnel/funnel/relay/Backlog") (F106 : Fld Z T102.heap b18 "com/example/funnel/funnel/relay/Backlog" "since" "J" (.long z105)) (F108 : Fld Z T102.heap b18 "com/example/funnel/funnel/relay/Backlog" "firstFoundAt" "J" (.long z107)) (F109 : Fld Z T102.heap b18 "com/example/funnel/funnel/relay/Backlog" "acceptStarts" "[J" (.ref nb30)) (F110 : Fld Z T102.heap b18 "com/example/funnel/funnel/relay/Backlog" "unwatched" "Z" (.int (0 : Int32))) (F112 : Fld Z T102.heap b18 "com/example/funnel/funnel/relay/Backlog" "foundAt" "J" (.long z111)) (F113 : Fld Z T102.heap b18 "com/example/funnel/funnel/relay/Backlog" "accepts" "J" (.long (0 : Int64))) (V114 : Arv Z T102.heap nb30 nk31 .long (1 : Int32) [(.long (0 : Int64))] (.long (0 : Int64))), own_G p.tables e below (own_P s (Q0 n0) 16 128) (T102.setTop (mkF m 153 #[.val (.int i0), .val (.long i1), .second, .val (.long i2), .second, .val (.long i3), .second, .val (.long i4), .second, .val (.long i5), .second, .val (.long r1), .second, .val (.long r2), .second, .val (.long r3), .second, .val (.long r4), .second, .val (.long r5), .second, .val (.int z8), .val (.int z11), .val (.int z14), .val (.int z17), .val (.ref b18), .unset, .unset, .unset, .unset, .unset, .unset] [])) := by
                  intro z105 hz105 z107 hz107 z111 hz111 T102 L102 X102 N102 Z103 E104 F106 F108 F109 F110 F112 F113 V114
                  refine own_st (fun _ k => XS.aload X102.here hx rfl (hb hby at_153) rfl rfl k) ?_
                  show own_G p.tables e below _ (T102.setTop (mkF m 155 #[.val (.int i0), .val (.long i1), .second, .val (.long i2), .second, .val (.long i3), .second, .val (.long i4), .second, .val (.long i5), .second, .val (.long r1), .second, .val (.long r2), .second, .val (.long r3), .second, .val (.long r4), .second, .val (.long r5), .second, .val (.int z8), .val (.int z11), .val (.int z14), .val (.int z17), .val (.ref b18), .unset, .unset, .unset, .unset, .unset, .unset] [(.ref b18)]))
                  refine own_st (fun _ k => XS.lconst X102.here hx rfl (hb hby at_155) k) ?_
                  show own_G p.tables e below _ (T102.setTop (mkF m 156 #[.val (.int i0), .val (.long i1), .second, .val (.long i2), .second, .val (.long i3), .second, .val (.long i4), .second, .val (.long i5), .second, .val (.long r1), .second, .val (.long r2), .second, .val (.long r3), .second, .val (.long r4), .second, .val (.long r5), .second, .val (.int z8), .val (.int z11), .val (.int z14), .val (.int z17), .val (.ref b18), .unset, .unset, .unset, .unset, .unset, .unset] [(.long (0 : Int64)), (.ref b18)]))
                  refine own_st (X102.ldc2Long hx hown (mvT hZ (hw _ (List.mem_of_getElem? (i := 31) rfl))) (g := (mkF m 156 #[.val (.int i0), .val (.long i1), .second, .val (.long i2), .second, .val (.long i3), .second, .val (.long i4), .second, .val (.long i5), .second, .val (.long r1), .second, .val (.long r2), .second, .val (.long r3), .second, .val (.long r4), .second, .val (.long r5), .second, .val (.int z8), .val (.int z11), .val (.int z14), .val (.int z17), .val (.ref b18), .unset, .unset, .unset, .unset, .unset, .unset] [(.long (0 : Int64)), (.ref b18)])) rfl (hb hby at_156)) ?_
                  show own_G p.tables e below _ (T102.setTop (mkF m 159 #[.val (.int i0), .val (.long i1), .second, .val (.long i2), .second, .val (.long i3), .second, .val (.long i4), .second, .val (.long i5), .second, .val (.long r1), .second, .val (.long r2), .second, .val (.long r3), .second, .val (.long r4), .second, .val (.long r5), .second, .val (.int z8), .val (.int z11), .val (.int z14), .val (.int z17), .val (.ref b18), .unset, .unset, .unset, .unset, .unset, .unset] [(.long (7 : Int64)), (.long (0 : Int64)), (.ref b18)]))
                  obtain ⟨cq115, kq115, q115a, q115b, q115c⟩ := isOf hZ rfl E104
                  obtain ⟨_, _, ⟨T115, L115, k115, n115⟩, -, X115, ⟨Lc115, hQ115, l115, y115, z115⟩, st115⟩ := X102.virtualBack hx (y := (⟨"com/example/funnel/funnel/relay/Backlog", "accepted", "(JJ)Lcom/example/funnel/funnel/relay/Backlog$Wait;"⟩ : MethodName)) (z := (⟨"com/example/funnel/funnel/relay/Backlog", "accepted", "(JJ)Lcom/example/funnel/funnel/relay/Backlog$Wait;"⟩ : MethodName)) hown (mvT hZ (hw _ (List.mem_of_getElem? (i := 32) rfl))) (mvT hZ (hw _ (List.mem_of_getElem? (i := 33) rfl))) (notFace_of_selects (args := #[]) (mvT hZ (hw _ (List.mem_of_getElem? (i := 35) rfl)))) (mvT hZ (hw _ (List.mem_of_getElem? (i := 35) rfl))) (mvT hZ (hw _ (List.mem_of_getElem? (i := 34) rfl))) (by decide) (backOf (W := 0) (rm5 l Z a0 hw [] b18 (0 : Int64) (7 : Int64) z105 z107 nb30 nk31 (0 : Int32) z111 T102.heap n0 Z103 F106 F108 F109 V114 ne_b18_nb30 F110 F112 F113 E104 ge_b18 ge_nb30) hZ (hw _ (List.mem_of_getElem? (i := 36) rfl)) (hw _ (List.mem_of_getElem? (i := 7) rfl)) (by decide) (by decide)) q115a q115c (g := (mkF m 159 #[.val (.int i0), .val (.long i1), .second, .val (.long i2), .second, .val (.long i3), .second, .val (.long i4), .second, .val (.long i5), .second, .val (.long r1), .second, .val (.long r2), .second, .val (.long r3), .second, .val (.long r4), .second, .val (.long r5), .second, .val (.int z8), .val (.int z11), .val (.int z14), .val (.int z17), .val (.ref b18), .unset, .unset, .unset, .unset, .unset, .unset] [(.long (7 : Int64)), (.long (0 : Int64)), (.ref b18)])) rfl (by rw [hml]; rfl) (Steps.refl _) (argsL := [(.long (0 : Int64)), (.long (7 : Int64))]) (rest := []) (lenOf pd_5 rfl) rfl (by show 2 * 0 + _ ≤ _; exact Nat.le_of_eq rfl) (hb hby at_159) (fun _ _ => ⟨rfl, rfl, (by decide : 2 + 1 ≤ _), (by decide : 7 + 2 ≤ _)⟩)
                  dsimp only [Pt.U, Pt.locs, Pt.cells, Pt.slots] at X115 l115 y115 z115 st115 hQ115
                  subst l115 y115 z115
                  obtain ⟨⟨nr115, rfl, Exnr115, sqnr115, Fxearliest_nr115, Fxsurely_nr115⟩, N115q, K115q, E116, F117, F118, F119, F120, F121, F122⟩ := hQ115
                  have N115 := Fr.app N102 N115q
                  have ge_nr115 : n0 ≤ nr115 := Nat.le_trans Z103 sqnr115
                  have ne_b18_nr115 : b18 ≠ nr115 := fun q => Nat.lt_irrefl _ (Nat.lt_of_lt_of_le E104.lt (Nat.le_trans sqnr115 (Nat.le_of_eq q.symm)))
                  have ne_nb30_nr115 : nb30 ≠ nr115 := fun q => Nat.lt_irrefl _ (Nat.lt_of_lt_of_le V114.lt (Nat.le_trans sqnr115 (Nat.le_of_eq q.symm)))
                  have Z125 := Nat.le_trans Z103 K115q.1
                  obtain ⟨v126, hv126⟩ : ∃ z : Int64, z = (if z105 < (-9223372036854775808 : Int64) then (-9223372036854775808 : Int64) else z105) := ⟨_, rfl⟩
                  rw [← hv126] at Fxearliest_nr115
                  obtain ⟨v127, hv127⟩ : ∃ z : Int64, z = (if z107 = (-9223372036854775808 : Int64) then (7 : Int64) else z107) := ⟨_, rfl⟩
                  rw [← hv127] at Fxsurely_nr115
                  refine own_st (fun _ k => st115.trans k) ?_
                  show own_G p.tables e below _ (T115.setTop (mkF m 162 #[.val (.int i0), .val (.long i1), .second, .val (.long i2), .second, .val (.long i3), .second, .val (.long i4), .second, .val (.long i5), .second, .val (.long r1), .second, .val (.long r2), .second, .val (.long r3), .second, .val (.long r4), .second, .val (.long r5), .second, .val (.int z8), .val (.int z11), .val (.int z14), .val (.int z17), .val (.ref b18), .unset, .unset, .unset, .unset, .unset, .unset] [(.ref nr115)]))
                  refine own_st (fun _ k => XS.astore X115.here hx rfl (hb hby at_162) rfl rfl (l' := #[.val (.int i0), .val (.long i1), .second, .val (.long i2), .second, .val (.long i3), .second, .val (.long i4), .second, .val (.long i5), .second, .val (.long r1), .second, .val (.long r2), .second, .val (.long r3), .second, .val (.long r4), .second, .val (.long r5), .second, .val (.int z8), .val (.int z11), .val (.int z14), .val (.int z17), .val (.ref b18), .val (.ref nr115), .unset, .unset, .unset, .unset, .unset]) rfl k) ?_
                  show own_G p.tables e below _ (T115.setTop (mkF m 164 #[.val (.int i0), .val (.long i1), .second, .val (.long i2), .second, .val (.long i3), .second, .val (.long i4), .second, .val (.long i5), .second, .val (.long r1), .second, .val (.long r2), .second, .val (.long r3), .second, .val (.long r4), .second, .val (.long r5), .second, .val (.int z8), .val (.int z11), .val (.int z14), .val (.int z17), .val (.ref b18), .val (.ref nr115), .unset, .unset, .unset, .unset, .unset] []))
                  refine own_st (fun _ k => XS.iload X115.here hx rfl (hb hby at_164) rfl k) ?_
                  show own_G p.tables e below _ (T115.setTop (mkF m 166 #[.val (.int i0), .val (.long i1), .second, .val (.long i2), .second, .val (.long i3), .second, .val (.long i4), .second, .val (.long i5), .second, .val (.long r1), .second, .val (.long r2), .second, .val (.long r3), .second, .val (.long r4), .second, .val (.long r5), .second, .val (.int z8), .val (.int z11), .val (.int z14), .val (.int z17), .val (.ref b18), .val (.ref nr115), .unset, .unset, .unset, .unset, .unset] [(.int z8)]))
                  have J192_132 : ∀ (z133 : Int32) (hz133 : z133 = (own_b ((¬ ((i0 &&& (1 : Int32)) = (0 : Int32))) ∧ (¬ (¬ ((i0 &&& (4 : Int32)) = (0 : Int32))) ∧ ((¬ ((i0 &&& (2 : Int32)) = (0 : Int32))) ∨ (¬ (r2 < r3))))))), own_G p.tables e below (own_P s (Q0 n0) 16 128) (T115.setTop (mkF m 192 #[.val (.int i0), .val (.long i1), .second, .val (.long i2), .second, .val (.long i3), .second, .val (.long i4), .second, .val (.long i5), .second, .val (.long r1), .second, .val (.long r2), .second, .val (.long r3), .second, .val (.long r4), .second, .val (.long r5), .second, .val (.int z8), .val (.int z11), .val (.int z14), .val (.int z17), .val (.ref b18), .val (.ref nr115), .unset, .unset, .unset, .unset, .unset] [(.int z133)])) := by
                    intro z133 hz133
                    refine own_st (fun _ k => XS.istore X115.here hx rfl (hb hby at_192) rfl (l' := #[.val (.int i0), .val (.long i1), .second, .val (.long i2), .second, .val (.long i3), .second, .val (.long i4), .second, .val (.long i5), .second, .val (.long r1), .second, .val (.long r2), .second, .val (.long r3), .second, .val (.long r4), .second, .val (.long r5), .second, .val (.int z8), .val (.int z11), .val (.int z14), .val (.int z17), .val (.ref b18), .val (.ref nr115), .val (.int z133), .unset, .unset, .unset, .unset]) rfl k) ?_
                    show own_G p.tables e below _ (T115.setTop (mkF m 194 #[.val (.int i0), .val (.long i1), .second, .val (.long i2), .second, .val (.long i3), .second, .val (.long i4), .second, .val (.long i5), .second, .val (.long r1), .second, .val (.long r2), .second, .val (.long r3), .second, .val (.long r4), .second, .val (.long r5), .second, .val (.int z8), .val (.int z11), .val (.int z14), .val (.int z17), .val (.ref b18), .val (.ref nr115), .val (.int z133), .unset, .unset, .unset, .unset] []))
                    refine own_st (fun _ k => XS.iload X115.here hx rfl (hb hby at_194) rfl k) ?_
                    show own_G p.tables e below _ (T115.setTop (mkF m 196 #[.val (.int i0), .val (.long i1), .second, .val (.long i2), .second, .val (.long i3), .second, .val (.long i4), .second, .val (.long i5), .second, .val (.long r1), .second, .val (.long r2), .second, .val (.long r3), .second, .val (.long r4), .second, .val (.long r5), .second, .val (.int z8), .val (.int z11), .val (.int z14), .val (.int z17), .val (.ref b18), .val (.ref nr115), .val (.int z133), .unset, .unset, .unset, .unset] [(.int z133)]))
                    have J206_135 : ∀ (z136 : Int64) (hz136 : z136 = (if (¬ ((i0 &&& (1 : Int32)) = (0 : Int32))) ∧ (¬ (¬ ((i0 &&& (4 : Int32)) = (0 : Int32))) ∧ ((¬ ((i0 &&& (2 : Int32)) = (0 : Int32))) ∨ (¬ (r2 < r3)))) then r1 else r3)), own_G p.tables e below (own_P s (Q0 n0) 16 128) (T115.setTop (mkF m 206 #[.val (.int i0), .val (.long i1), .second, .val (.long i2), .second, .val (.long i3), .second, .val (.long i4), .second, .val (.long i5), .second, .val (.long r1), .second, .val (.long r2), .second, .val (.long r3), .second, .val (.long r4), .second, .val (.long r5), .second, .val (.int z8), .val (.int z11), .val (.int z14), .val (.int z17), .val (.ref b18), .val (.ref nr115), .val (.int z133), .unset, .unset, .unset, .unset] [(.long z136)])) := by
                      intro z136 hz136
                      refine own_st (fun _ k => XS.lstore X115.here hx rfl (hb hby at_206) rfl (l' := #[.val (.int i0), .val (.long i1), .second, .val (.long i2), .second, .val (.long i3), .second, .val (.long i4), .second, .val (.long i5), .second, .val (.long r1), .second, .val (.long r2), .second, .val (.long r3), .second, .val (.long r4), .second, .val (.long r5), .second, .val (.int z8), .val (.int z11), .val (.int z14), .val (.int z17), .val (.ref b18), .val (.ref nr115), .val (.int z133), .val (.long z136), .second, .unset, .unset]) rfl k) ?_
                      show own_G p.tables e below _ (T115.setTop (mkF m 208 #[.val (.int i0), .val (.long i1), .second, .val (.long i2), .second, .val (.long i3), .second, .val (.long i4), .second, .val (.long i5), .second, .val (.long r1), .second, .val (.long r2), .second, .val (.long r3), .second, .val (.long r4), .second, .val (.long r5), .second, .val (.int z8), .val (.int z11), .val (.int z14), .val (.int z17), .val (.ref b18), .val (.ref nr115), .val (.int z133), .val (.long z136), .second, .unset, .unset] []))
                      refine own_st (fun _ k => XS.iload X115.here hx rfl (hb hby at_208) rfl k) ?_
                      show own_G p.tables e below _ (T115.setTop (mkF m 210 #[.val (.int i0), .val (.long i1), .second, .val (.long i2), .second, .val (.long i3), .second, .val (.long i4), .second, .val (.long i5), .second, .val (.long r1), .second, .val (.long r2), .second, .val (.long r3), .second, .val (.long r4), .second, .val (.long r5), .second, .val (.int z8), .val (.int z11), .val (.int z14), .val (.int z17), .val (.ref b18), .val (.ref nr115), .val (.int z133), .val (.long z136), .second, .unset, .unset] [(.int z17)]))
                      have J225_138 : ∀ (z139 : Int64) (hz139 : z139 = (if ¬ ((i0 &&& (8 : Int32)) = (0 : Int32)) then (if r4 < r5 then r5 else z136) else z136)), own_G p.tables e below (own_P s (Q0 n0) 16 128) (T115.setTop (mkF m 225 #[.val (.int i0), .val (.long i1), .second, .val (.long i2), .second, .val (.long i3), .second, .val (.long i4), .second, .val (.long i5), .second, .val (.long r1), .second, .val (.long r2), .second, .val (.long r3), .second, .val (.long r4), .second, .val (.long r5), .second, .val (.int z8), .val (.int z11), .val (.int z14), .val (.int z17), .val (.ref b18), .val (.ref nr115), .val (.int z133), .val (.long z139), .second, .unset, .unset] [])) := by
                        intro z139 hz139
                        refine own_st (fun _ k => XS.iload X115.here hx rfl (hb hby at_225) rfl k) ?_
                        show own_G p.tables e below _ (T115.setTop (mkF m 227 #[.val (.int i0), .val (.long i1), .second, .val (.long i2), .second, .val (.long i3), .second, .val (.long i4), .second, .val (.long i5), .second, .val (.long r1), .second, .val (.long r2), .second, .val (.long r3), .second, .val (.long r4), .second, .val (.long r5), .second, .val (.int z8), .val (.int z11), .val (.int z14), .val (.int z17), .val (.ref b18), .val (.ref nr115), .val (.int z133), .val (.long z139), .second, .unset, .unset] [(.int z8)]))
                        have J242_141 : ∀ (z142 : Int64) (hz142 : z142 = (if ¬ ((i0 &&& (1 : Int32)) = (0 : Int32)) then (if ¬ ((i0 &&& (4 : Int32)) = (0 : Int32)) then r4 else r2) else r4)), own_G p.tables e below (own_P s (Q0 n0) 16 128) (T115.setTop (mkF m 242 #[.val (.int i0), .val (.long i1), .second, .val (.long i2), .second, .val (.long i3), .second, .val (.long i4), .second, .val (.long i5), .second, .val (.long r1), .second, .val (.long r2), .second, .val (.long r3), .second, .val (.long r4), .second, .val (.long r5), .second, .val (.int z8), .val (.int z11), .val (.int z14), .val (.int z17), .val (.ref b18), .val (.ref nr115), .val (.int z133), .val (.long z139), .second, .unset, .unset] [(.long z142)])) := by
                          intro z142 hz142
                          refine own_st (fun _ k => XS.lstore X115.here hx rfl (hb hby at_242) rfl (l' := #[.val (.int i0), .val (.long i1), .second, .val (.long i2), .second, .val (.long i3), .second, .val (.long i4), .second, .val (.long i5), .second, .val (.long r1), .second, .val (.long r2), .second, .val (.long r3), .second, .val (.long r4), .second, .val (.long r5), .second, .val (.int z8), .val (.int z11), .val (.int z14), .val (.int z17), .val (.ref b18), .val (.ref nr115), .val (.int z133), .val (.long z139), .second, .val (.long z142), .second]) rfl k) ?_
                          show own_G p.tables e below _ (T115.setTop (mkF m 244 #[.val (.int i0), .val (.long i1), .second, .val (.long i2), .second, .val (.long i3), .second, .val (.long i4), .second, .val (.long i5), .second, .val (.long r1), .second, .val (.long r2), .second, .val (.long r3), .second, .val (.long r4), .second, .val (.long r5), .second, .val (.int z8), .val (.int z11), .val (.int z14), .val (.int z17), .val (.ref b18), .val (.ref nr115), .val (.int z133), .val (.long z139), .second, .val (.long z142), .second] []))
                          refine own_st (fun _ k => XS.aload X115.here hx rfl (hb hby at_244) rfl rfl k) ?_
                          show own_G p.tables e below _ (T115.setTop (mkF m 246 #[.val (.int i0), .val (.long i1), .second, .val (.long i2), .second, .val (.long i3), .second, .val (.long i4), .second, .val (.long i5), .second, .val (.long r1), .second, .val (.long r2), .second, .val (.long r3), .second, .val (.long r4), .second, .val (.long r5), .second, .val (.int z8), .val (.int z11), .val (.int z14), .val (.int z17), .val (.ref b18), .val (.ref nr115), .val (.int z133), .val (.long z139), .second, .val (.long z142), .second] [(.ref nr115)]))
                          obtain ⟨cq143, kq143, q143a, q143b, q143c⟩ := isOf hZ rfl Exnr115
                          obtain ⟨_, _, ⟨T143, L143, k143, n143⟩, -, X143, ⟨Lc143, hQ143, l143, y143, z143⟩, st143⟩ := X115.virtualBack hx (y := (⟨"com/example/funnel/funnel/relay/Backlog$Wait", "earliest", "()J"⟩ : MethodName)) (z := (⟨"com/example/funnel/funnel/relay/Backlog$Wait", "earliest", "()J"⟩ : MethodName)) hown (mvT hZ (hw _ (List.mem_of_getElem? (i := 59) rfl))) (mvT hZ (hw _ (List.mem_of_getElem? (i := 60) rfl))) (notFace_of_selects (args := #[]) (mvT hZ (hw _ (List.mem_of_getElem? (i := 62) rfl)))) (mvT hZ (hw _ (List.mem_of_getElem? (i := 62) rfl))) (mvT hZ (hw _ (List.mem_of_getElem? (i := 61) rfl))) (by decide) (backOf (W := 0) (rm9 l Z a0 hw [] nr115 v126 v127 T115.heap n0 Z125 Fxearliest_nr115 Fxsurely_nr115 Exnr115) hZ (hw _ (List.mem_of_getElem? (i := 63) rfl)) (hw _ (List.mem_of_getElem? (i := 41) rfl)) (by decide) (by decide)) q143a q143c (g := (mkF m 246 #[.val (.int i0), .val (.long i1), .second, .val (.long i2), .second, .val (.long i3), .second, .val (.long i4), .second, .val (.long i5), .second, .val (.long r1), .second, .val (.long r2), .second, .val (.long r3), .second, .val (.long r4), .second, .val (.long r5), .second, .val (.int z8), .val (.int z11), .val (.int z14), .val (.int z17), .val (.ref b18), .val (.ref nr115), .val (.int z133), .val (.long z139), .second, .val (.long z142), .second] [(.ref nr115)])) rfl (by rw [hml]; rfl) (Steps.refl _) (argsL := []) (rest := []) (lenOf pd_6 rfl) rfl (by show 2 * 0 + _ ≤ _; exact Nat.le_of_eq rfl) (hb hby at_246) (fun _ _ => ⟨rfl, rfl, (by decide : 3 + 0 ≤ _), (by decide : 9 + 0 ≤ _)⟩)
                          dsimp only [Pt.U, Pt.locs, Pt.cells, Pt.slots] at X143 l143 y143 z143 st143 hQ143
                          subst l143 y143 z143
                          obtain ⟨⟨r143, rfl, hr143⟩, N143q, e143⟩ := hQ143
                          have N143 := Fr.app N115 N143q
                          refine own_st (fun _ k => st143.trans k) ?_
                          show own_G p.tables e below _ (T143.setTop (mkF m 249 #[.val (.int i0), .val (.long i1), .second, .val (.long i2), .second, .val (.long i3), .second, .val (.long i4), .second, .val (.long i5), .second, .val (.long r1), .second, .val (.long r2), .second, .val (.long r3), .second, .val (.long r4), .second, .val (.long r5), .second, .val (.int z8), .val (.int z11), .val (.int z14), .val (.int z17), .val (.ref b18), .val (.ref nr115), .val (.int z133), .val (.long z139), .second, .val (.long z142), .second] [(.long r143)]))
                          refine own_st (fun _ k => XS.lload X143.here hx rfl (hb hby at_249) rfl k) ?_
                          show own_G p.tables e below _ (T143.setTop (mkF m 251 #[.val (.int i0), .val (.long i1), .second, .val (.long i2), .second, .val (.long i3), .second, .val (.long i4), .second, .val (.long i5), .second, .val (.long r1), .second, .val (.long r2), .second, .val (.long r3), .second, .val (.long r4), .second, .val (.long r5), .second, .val (.int z8), .val (.int z11), .val (.int z14), .val (.int z17), .val (.ref b18), .val (.ref nr115), .val (.int z133), .val (.long z139), .second, .val (.long z142), .second] [(.long z139), (.long r143)]))
                          refine own_st (fun _ k => XS.lcmp X143.here hx rfl (hb hby at_251) rfl k) ?_
                          show own_G p.tables e below _ (T143.setTop (mkF m 252 #[.val (.int i0), .val (.long i1), .second, .val (.long i2), .second, .val (.long i3), .second, .val (.long i4), .second, .val (.long i5), .second, .val (.long r1), .second, .val (.long r2), .second, .val (.long r3), .second, .val (.long r4), .second, .val (.long r5), .second, .val (.int z8), .val (.int z11), .val (.int z14), .val (.int z17), .val (.ref b18), .val (.ref nr115), .val (.int z133), .val (.long z139), .second, .val (.long z142), .second] [(.int (lcmpW r143 z139))]))
                          have hf144 : r143 = z139 := own_e hr1 hr2 hr3 hr4 hr5 hz8 hz11 hz14 hz17 hz48 hz50 hz54 hz66 hz76 hz78 hv96 hv97 hz105 hz107 hz111 hv126 hv127 hz133 hz136 hz139 hz142 hr143
                          refine own_st (fun _ k => XS.ifNo X143.here hx rfl (hb hby at_252) rfl ((if0 _ _).trans (teq ((lw_eq r143 z139).mpr hf144)).2) k) ?_
                          show own_G p.tables e below _ (T143.setTop (mkF m 255 #[.val (.int i0), .val (.long i1), .second, .val (.long i2), .second, .val (.long i3), .second, .val (.long i4), .second, .val (.long i5), .second, .val (.long r1), .second, .val (.long r2), .second, .val (.long r3), .second, .val (.long r4), .second, .val (.long r5), .second, .val (.int z8), .val (.int z11), .val (.int z14), .val (.int z17), .val (.ref b18), .val (.ref nr115), .val (.int z133), .val (.long z139), .second, .val (.long z142), .second] []))
                          refine own_st (fun _ k => XS.aload X143.here hx rfl (hb hby at_255) rfl rfl k) ?_
                          show own_G p.tables e below _ (T143.setTop (mkF m 257 #[.val (.int i0), .val (.long i1), .second, .val (.long i2), .second, .val (.long i3), .second, .val (.long i4), .second, .val (.long i5), .second, .val (.long r1), .second, .val (.long r2), .second, .val (.long r3), .second, .val (.long r4), .second, .val (.long r5), .second, .val (.int z8), .val (.int z11), .val (.int z14), .val (.int z17), .val (.ref b18), .val (.ref nr115), .val (.int z133), .val (.long z139), .second, .val (.long z142), .second] [(.ref nr115)]))
                          obtain ⟨cq145, kq145, q145a, q145b, q145c⟩ := isOf hZ e143 Exnr115
                          obtain ⟨_, _, ⟨T145, L145, k145, n145⟩, -, X145, ⟨Lc145, hQ145, l145, y145, z145⟩, st145⟩ := X143.virtualBack hx (y := (⟨"com/example/funnel/funnel/relay/Backlog$Wait", "surely", "()J"⟩ : MethodName)) (z := (⟨"com/example/funnel/funnel/relay/Backlog$Wait", "surely", "()J"⟩ : MethodName)) hown (mvT hZ (hw _ (List.mem_of_getElem? (i := 64) rfl))) (mvT hZ (hw _ (List.mem_of_getElem? (i := 65) rfl))) (notFace_of_selects (args := #[]) (mvT hZ (hw _ (List.mem_of_getElem? (i := 67) rfl)))) (mvT hZ (hw _ (List.mem_of_getElem? (i := 67) rfl))) (mvT hZ (hw _ (List.mem_of_getElem? (i := 66) rfl))) (by decide) (backOf (W := 0) (rm10 l Z a0 hw [] nr115 v126 v127 T115.heap n0 Z125 Fxearliest_nr115 Fxsurely_nr115 Exnr115) hZ (hw _ (List.mem_of_getElem? (i := 68) rfl)) (hw _ (List.mem_of_getElem? (i := 41) rfl)) (by decide) (by decide)) q145a q145c (g := (mkF m 257 #[.val (.int i0), .val (.long i1), .second, .val (.long i2), .second, .val (.long i3), .second, .val (.long i4), .second, .val (.long i5), .second, .val (.long r1), .second, .val (.long r2), .second, .val (.long r3), .second, .val (.long r4), .second, .val (.long r5), .second, .val (.int z8), .val (.int z11), .val (.int z14), .val (.int z17), .val (.ref b18), .val (.ref nr115), .val (.int z133), .val (.long z139), .second, .val (.long z142), .second] [(.ref nr115)])) rfl (by rw [hml]; rfl) (Steps.refl _) (argsL := []) (rest := []) (lenOf pd_6 rfl) rfl (by show 2 * 0 + _ ≤ _; exact Nat.le_of_eq rfl) (hb hby at_257) (fun _ _ => ⟨rfl, e143, (by decide : 3 + 0 ≤ _), (by decide : 9 + 0 ≤ _)⟩)
                          dsimp only [Pt.U, Pt.locs, Pt.cells, Pt.slots] at X145 l145 y145 z145 st145 hQ145
                          subst l145 y145 z145
                          obtain ⟨⟨r145, rfl, hr145⟩, N145q, e145⟩ := hQ145
                          have N145 := Fr.app N143 N145q
                          refine own_st (fun _ k => st145.trans k) ?_
                          show own_G p.tables e below _ (T145.setTop (mkF m 260 #[.val (.int i0), .val (.long i1), .second, .val (.long i2), .second, .val (.long i3), .second, .val (.long i4), .second, .val (.long i5), .second, .val (.long r1), .second, .val (.long r2), .second, .val (.long r3), .second, .val (.long r4), .second, .val (.long r5), .second, .val (.int z8), .val (.int z11), .val (.int z14), .val (.int z17), .val (.ref b18), .val (.ref nr115), .val (.int z133), .val (.long z139), .second, .val (.long z142), .second] [(.long r145)]))
                          refine own_st (fun _ k => XS.lload X145.here hx rfl (hb hby at_260) rfl k) ?_
                          show own_G p.tables e below _ (T145.setTop (mkF m 262 #[.val (.int i0), .val (.long i1), .second, .val (.long i2), .second, .val (.long i3), .second, .val (.long i4), .second, .val (.long i5), .second, .val (.long r1), .second, .val (.long r2), .second, .val (.long r3), .second, .val (.long r4), .second, .val (.long r5), .second, .val (.int z8), .val (.int z11), .val (.int z14), .val (.int z17), .val (.ref b18), .val (.ref nr115), .val (.int z133), .val (.long z139), .second, .val (.long z142), .second] [(.long z142), (.long r145)]))
                          refine own_st (fun _ k => XS.lcmp X145.here hx rfl (hb hby at_262) rfl k) ?_
                          show own_G p.tables e below _ (T145.setTop (mkF m 263 #[.val (.int i0), .val (.long i1), .second, .val (.long i2), .second, .val (.long i3), .second, .val (.long i4), .second, .val (.long i5), .second, .val (.long r1), .second, .val (.long r2), .second, .val (.long r3), .second, .val (.long r4), .second, .val (.long r5), .second, .val (.int z8), .val (.int z11), .val (.int z14), .val (.int z17), .val (.ref b18), .val (.ref nr115), .val (.int z133), .val (.long z139), .second, .val (.long z142), .second] [(.int (lcmpW r145 z142))]))
                          have hf146 : r145 = z142 := own_s hr1 hr2 hr3 hr4 hr5 hz8 hz11 hz14 hz17 hz48 hz50 hz54 hz66 hz76 hz78 hv96 hv97 hz105 hz107 hz111 hv126 hv127 hz133 hz136 hz139 hz142 hr143 hr145
                          refine own_st (fun _ k => XS.ifNo X145.here hx rfl (hb hby at_263) rfl ((if0 _ _).trans (teq ((lw_eq r145 z142).mpr hf146)).2) k) ?_
                          show own_G p.tables e below _ (T145.setTop (mkF m 266 #[.val (.int i0), .val (.long i1), .second, .val (.long i2), .second, .val (.long i3), .second, .val (.long i4), .second, .val (.long i5), .second, .val (.long r1), .second, .val (.long r2), .second, .val (.long r3), .second, .val (.long r4), .second, .val (.long r5), .second, .val (.int z8), .val (.int z11), .val (.int z14), .val (.int z17), .val (.ref b18), .val (.ref nr115), .val (.int z133), .val (.long z139), .second, .val (.long z142), .second] []))
                          refine own_st (fun _ k => XS.iconst X145.here hx rfl (hb hby at_266) k) ?_
                          show own_G p.tables e below _ (T145.setTop (mkF m 267 #[.val (.int i0), .val (.long i1), .second, .val (.long i2), .second, .val (.long i3), .second, .val (.long i4), .second, .val (.long i5), .second, .val (.long r1), .second, .val (.long r2), .second, .val (.long r3), .second, .val (.long r4), .second, .val (.long r5), .second, .val (.int z8), .val (.int z11), .val (.int z14), .val (.int z17), .val (.ref b18), .val (.ref nr115), .val (.int z133), .val (.long z139), .second, .val (.long z142), .second] [(.int (1 : Int32))]))
                          refine own_st (fun _ k => XS.goto X145.here hx rfl (pc0 := 267) (pc' := 271) rfl (hb hby at_267) (by decide) (by decide) k) ?_
                          show own_G p.tables e below _ (T145.setTop (mkF m 271 #[.val (.int i0), .val (.long i1), .second, .val (.long i2), .second, .val (.long i3), .second, .val (.long i4), .second, .val (.long i5), .second, .val (.long r1), .second, .val (.long r2), .second, .val (.long r3), .second, .val (.long r4), .second, .val (.long r5), .second, .val (.int z8), .val (.int z11), .val (.int z14), .val (.int z17), .val (.ref b18), .val (.ref nr115), .val (.int z133), .val (.long z139), .second, .val (.long z142), .second] [(.int (1 : Int32))]))
                          exact own_retZ X145 hx hlk Bd.returns (hb hby at_271) (by decide) ⟨rfl, N145⟩ (by decide) (by decide)
                        by_cases hc227_140 : ¬ ((i0 &&& (1 : Int32)) = (0 : Int32))
                        · refine own_st (fun _ k => XS.ifNo X115.here hx rfl (hb hby at_227) rfl ((if0 _ _).trans (feq (own_b1 hz8 hc227_140)).1) k) ?_
                          show own_G p.tables e below _ (T115.setTop (mkF m 230 #[.val (.int i0), .val (.long i1), .second, .val (.long i2), .second, .val (.long i3), .second, .val (.long i4), .second, .val (.long i5), .second, .val (.long r1), .second, .val (.long r2), .second, .val (.long r3), .second, .val (.long r4), .second, .val (.long r5), .second, .val (.int z8), .val (.int z11), .val (.int z14), .val (.int z17), .val (.ref b18), .val (.ref nr115), .val (.int z133), .val (.long z139), .second, .unset, .unset] []))
                          refine own_st (fun _ k => XS.iload X115.here hx rfl (hb hby at_230) rfl k) ?_
                          show own_G p.tables e below _ (T115.setTop (mkF m 232 #[.val (.int i0), .val (.long i1), .second, .val (.long i2), .second, .val (.long i3), .second, .val (.long i4), .second, .val (.long i5), .second, .val (.long r1), .second, .val (.long r2), .second, .val (.long r3), .second, .val (.long r4), .second, .val (.long r5), .second, .val (.int z8), .val (.int z11), .val (.int z14), .val (.int z17), .val (.ref b18), .val (.ref nr115), .val (.int z133), .val (.long z139), .second, .unset, .unset] [(.int z14)]))
                          by_cases hc232_147 : ¬ ((i0 &&& (4 : Int32)) = (0 : Int32))
                          · refine own_st (fun _ k => XS.ifYes X115.here hx rfl (pc0 := 232) (pc' := 240) rfl (hb hby at_232) rfl ((if0 _ _).trans (feq (own_b1 hz14 hc232_147)).2) (by decide) (by decide) k) ?_
                            show own_G p.tables e below _ (T115.setTop (mkF m 240 #[.val (.int i0), .val (.long i1), .second, .val (.long i2), .second, .val (.long i3), .second, .val (.long i4), .second, .val (.long i5), .second, .val (.long r1), .second, .val (.long r2), .second, .val (.long r3), .second, .val (.long r4), .second, .val (.long r5), .second, .val (.int z8), .val (.int z11), .val (.int z14), .val (.int z17), .val (.ref b18), .val (.ref nr115), .val (.int z133), .val (.long z139), .second, .unset, .unset] []))
                            refine own_st (fun _ k => XS.lload X115.here hx rfl (hb hby at_240) rfl k) ?_
                            show own_G p.tables e below _ (T115.setTop (mkF m 242 #[.val (.int i0), .val (.long i1), .second, .val (.long i2), .second, .val (.long i3), .second, .val (.long i4), .second, .val (.long i5), .second, .val (.long r1), .second, .val (.long r2), .second, .val (.long r3), .second, .val (.long r4), .second, .val (.long r5), .second, .val (.int z8), .val (.int z11), .val (.int z14), .val (.int z17), .val (.ref b18), .val (.ref nr115), .val (.int z133), .val (.long z139), .second, .unset, .unset] [(.long r4)]))
                            exact J242_141 r4 (((if_pos hc227_140).trans (if_pos hc232_147)).symm)
                          · refine own_st (fun _ k => XS.ifNo X115.here hx rfl (hb hby at_232) rfl ((if0 _ _).trans (teq (own_b0 hz14 hc232_147)).2) k) ?_
                            show own_G p.tables e below _ (T115.setTop (mkF m 235 #[.val (.int i0), .val (.long i1), .second, .val (.long i2), .second, .val (.long i3), .second, .val (.long i4), .second, .val (.long i5), .second, .val (.long r1), .second, .val (.long r2), .second, .val (.long r3), .second, .val (.long r4), .second, .val (.long r5), .second, .val (.int z8), .val (.int z11), .val (.int z14), .val (.int z17), .val (.ref b18), .val (.ref nr115), .val (.int z133), .val (.long z139), .second, .unset, .unset] []))
                            refine own_st (fun _ k => XS.lload X115.here hx rfl (hb hby at_235) rfl k) ?_
                            show own_G p.tables e below _ (T115.setTop (mkF m 237 #[.val (.int i0), .val (.long i1), .second, .val (.long i2), .second, .val (.long i3), .second, .val (.long i4), .second, .val (.long i5), .second, .val (.long r1), .second, .val (.long r2), .second, .val (.long r3), .second, .val (.long r4), .second, .val (.long r5), .second, .val (.int z8), .val (.int z11), .val (.int z14), .val (.int z17), .val (.ref b18), .val (.ref nr115), .val (.int z133), .val (.long z139), .second, .unset, .unset] [(.long r2)]))
                            refine own_st (fun _ k => XS.goto X115.here hx rfl (pc0 := 237) (pc' := 242) rfl (hb hby at_237) (by decide) (by decide) k) ?_
                            show own_G p.tables e below _ (T115.setTop (mkF m 242 #[.val (.int i0), .val (.long i1), .second, .val (.long i2), .second, .val (.long i3), .second, .val (.long i4), .second, .val (.long i5), .second, .val (.long r1), .second, .val (.long r2), .second, .val (.long r3), .second, .val (.long r4), .second, .val (.long r5), .second, .val (.int z8), .val (.int z11), .val (.int z14), .val (.int z17), .val (.ref b18), .val (.ref nr115), .val (.int z133), .val (.long z139), .second, .unset, .unset] [(.long r2)]))
                            exact J242_141 r2 (((if_pos hc227_140).trans (if_neg hc232_147)).symm)
                        · refine own_st (fun _ k => XS.ifYes X115.here hx rfl (pc0 := 227) (pc' := 240) rfl (hb hby at_227) rfl ((if0 _ _).trans (teq (own_b0 hz8 hc227_140)).1) (by decide) (by decide) k) ?_
                          show own_G p.tables e below _ (T115.setTop (mkF m 240 #[.val (.int i0), .val (.long i1), .second, .val (.long i2), .second, .val (.long i3), .second, .val (.long i4), .second, .val (.long i5), .second, .val (.long r1), .second, .val (.long r2), .second, .val (.long r3), .second, .val (.long r4), .second, .val (.long r5), .second, .val (.int z8), .val (.int z11), .val (.int z14), .val (.int z17), .val (.ref b18), .val (.ref nr115), .val (.int z133), .val (.long z139), .second, .unset, .unset] []))
                          refine own_st (fun _ k => XS.lload X115.here hx rfl (hb hby at_240) rfl k) ?_
                          show own_G p.tables e below _ (T115.setTop (mkF m 242 #[.val (.int i0), .val (.long i1), .second, .val (.long i2), .second, .val (.long i3), .second, .val (.long i4), .second, .val (.long i5), .second, .val (.long r1), .second, .val (.long r2), .second, .val (.long r3), .second, .val (.long r4), .second, .val (.long r5), .second, .val (.int z8), .val (.int z11), .val (.int z14), .val (.int z17), .val (.ref b18), .val (.ref nr115), .val (.int z133), .val (.long z139), .second, .unset, .unset] [(.long r4)]))
                          exact J242_141 r4 ((if_neg hc227_140).symm)
                      by_cases hc210_137 : ¬ ((i0 &&& (8 : Int32)) = (0 : Int32))
                      · refine own_st (fun _ k => XS.ifNo X115.here hx rfl (hb hby at_210) rfl ((if0 _ _).trans (feq (own_b1 hz17 hc210_137)).1) k) ?_
                        show own_G p.tables e below _ (T115.setTop (mkF m 213 #[.val (.int i0), .val (.long i1), .second, .val (.long i2), .second, .val (.long i3), .second, .val (.long i4), .second, .val (.long i5), .second, .val (.long r1), .second, .val (.long r2), .second, .val (.long r3), .second, .val (.long r4), .second, .val (.long r5), .second, .val (.int z8), .val (.int z11), .val (.int z14), .val (.int z17), .val (.ref b18), .val (.ref nr115), .val (.int z133), .val (.long z136), .second, .unset, .unset] []))
                        refine own_st (fun _ k => XS.lload X115.here hx rfl (hb hby at_213) rfl k) ?_
                        show own_G p.tables e below _ (T115.setTop (mkF m 215 #[.val (.int i0), .val (.long i1), .second, .val (.long i2), .second, .val (.long i3), .second, .val (.long i4), .second, .val (.long i5), .second, .val (.long r1), .second, .val (.long r2), .second, .val (.long r3), .second, .val (.long r4), .second, .val (.long r5), .second, .val (.int z8), .val (.int z11), .val (.int z14), .val (.int z17), .val (.ref b18), .val (.ref nr115), .val (.int z133), .val (.long z136), .second, .unset, .unset] [(.long r5)]))
                        refine own_st (fun _ k => XS.lload X115.here hx rfl (hb hby at_215) rfl k) ?_
                        show own_G p.tables e below _ (T115.setTop (mkF m 217 #[.val (.int i0), .val (.long i1), .second, .val (.long i2), .second, .val (.long i3), .second, .val (.long i4), .second, .val (.long i5), .second, .val (.long r1), .second, .val (.long r2), .second, .val (.long r3), .second, .val (.long r4), .second, .val (.long r5), .second, .val (.int z8), .val (.int z11), .val (.int z14), .val (.int z17), .val (.ref b18), .val (.ref nr115), .val (.int z133), .val (.long z136), .second, .unset, .unset] [(.long r4), (.long r5)]))
                        refine own_st (fun _ k => XS.lcmp X115.here hx rfl (hb hby at_217) rfl k) ?_
                        show own_G p.tables e below _ (T115.setTop (mkF m 218 #[.val (.int i0), .val (.long i1), .second, .val (.long i2), .second, .val (.long i3), .second, .val (.long i4), .second, .val (.long i5), .second, .val (.long r1), .second, .val (.long r2), .second, .val (.long r3), .second, .val (.long r4), .second, .val (.long r5), .second, .val (.int z8), .val (.int z11), .val (.int z14), .val (.int z17), .val (.ref b18), .val (.ref nr115), .val (.int z133), .val (.long z136), .second, .unset, .unset] [(.int (lcmpW r5 r4))]))
                        by_cases hc218_148 : r4 < r5
                        · refine own_st (fun _ k => XS.ifNo X115.here hx rfl (hb hby at_218) rfl ((if0 _ _).trans (tlt ((lw_gt r5 r4).mpr hc218_148)).2.2.2) k) ?_
                          show own_G p.tables e below _ (T115.setTop (mkF m 221 #[.val (.int i0), .val (.long i1), .second, .val (.long i2), .second, .val (.long i3), .second, .val (.long i4), .second, .val (.long i5), .second, .val (.long r1), .second, .val (.long r2), .second, .val (.long r3), .second, .val (.long r4), .second, .val (.long r5), .second, .val (.int z8), .val (.int z11), .val (.int z14), .val (.int z17), .val (.ref b18), .val (.ref nr115), .val (.int z133), .val (.long z136), .second, .unset, .unset] []))
                          refine own_st (fun _ k => XS.lload X115.here hx rfl (hb hby at_221) rfl k) ?_
                          show own_G p.tables e below _ (T115.setTop (mkF m 223 #[.val (.int i0), .val (.long i1), .second, .val (.long i2), .second, .val (.long i3), .second, .val (.long i4), .second, .val (.long i5), .second, .val (.long r1), .second, .val (.long r2), .second, .val (.long r3), .second, .val (.long r4), .second, .val (.long r5), .second, .val (.int z8), .val (.int z11), .val (.int z14), .val (.int z17), .val (.ref b18), .val (.ref nr115), .val (.int z133), .val (.long z136), .second, .unset, .unset] [(.long r5)]))
                          refine own_st (fun _ k => XS.lstore X115.here hx rfl (hb hby at_223) rfl (l' := #[.val (.int i0), .val (.long i1), .second, .val (.long i2), .second, .val (.long i3), .second, .val (.long i4), .second, .val (.long i5), .second, .val (.long r1), .second, .val (.long r2), .second, .val (.long r3), .second, .val (.long r4), .second, .val (.long r5), .second, .val (.int z8), .val (.int z11), .val (.int z14), .val (.int z17), .val (.ref b18), .val (.ref nr115), .val (.int z133), .val (.long r5), .second, .unset, .unset]) rfl k) ?_
                          show own_G p.tables e below _ (T115.setTop (mkF m 225 #[.val (.int i0), .val (.long i1), .second, .val (.long i2), .second, .val (.long i3), .second, .val (.long i4), .second, .val (.long i5), .second, .val (.long r1), .second, .val (.long r2), .second, .val (.long r3), .second, .val (.long r4), .second, .val (.long r5), .second, .val (.int z8), .val (.int z11), .val (.int z14), .val (.int z17), .val (.ref b18), .val (.ref nr115), .val (.int z133), .val (.long r5), .second, .unset, .unset] []))
                          exact J225_138 r5 (((if_pos hc210_137).trans (if_pos hc218_148)).symm)
                        · refine own_st (fun _ k => XS.ifYes X115.here hx rfl (pc0 := 218) (pc' := 225) rfl (hb hby at_218) rfl ((if0 _ _).trans (flt (fun q => hc218_148 ((lw_gt r5 r4).mp q))).2.2.2) (by decide) (by decide) k) ?_
                          show own_G p.tables e below _ (T115.setTop (mkF m 225 #[.val (.int i0), .val (.long i1), .second, .val (.long i2), .second, .val (.long i3), .second, .val (.long i4), .second, .val (.long i5), .second, .val (.long r1), .second, .val (.long r2), .second, .val (.long r3), .second, .val (.long r4), .second, .val (.long r5), .second, .val (.int z8), .val (.int z11), .val (.int z14), .val (.int z17), .val (.ref b18), .val (.ref nr115), .val (.int z133), .val (.long z136), .second, .unset, .unset] []))
                          exact J225_138 z136 (((if_pos hc210_137).trans (if_neg hc218_148)).symm)
                      · refine own_st (fun _ k => XS.ifYes X115.here hx rfl (pc0 := 210) (pc' := 225) rfl (hb hby at_210) rfl ((if0 _ _).trans (teq (own_b0 hz17 hc210_137)).1) (by decide) (by decide) k) ?_
                        show own_G p.tables e below _ (T115.setTop (mkF m 225 #[.val (.int i0), .val (.long i1), .second, .val (.long i2), .second, .val (.long i3), .second, .val (.long i4), .second, .val (.long i5), .second, .val (.long r1), .second, .val (.long r2), .second, .val (.long r3), .second, .val (.long r4), .second, .val (.long r5), .second, .val (.int z8), .val (.int z11), .val (.int z14), .val (.int z17), .val (.ref b18), .val (.ref nr115), .val (.int z133), .val (.long z136), .second, .unset, .unset] []))
                        exact J225_138 z136 ((if_neg hc210_137).symm)
                    by_cases hc196_134 : (¬ ((i0 &&& (1 : Int32)) = (0 : Int32))) ∧ (¬ (¬ ((i0 &&& (4 : Int32)) = (0 : Int32))) ∧ ((¬ ((i0 &&& (2 : Int32)) = (0 : Int32))) ∨ (¬ (r2 < r3))))
                    · refine own_st (fun _ k => XS.ifNo X115.here hx rfl (hb hby at_196) rfl ((if0 _ _).trans (feq (own_b1 hz133 hc196_134)).1) k) ?_
                      show own_G p.tables e below _ (T115.setTop (mkF m 199 #[.val (.int i0), .val (.long i1), .second, .val (.long i2), .second, .val (.long i3), .second, .val (.long i4), .second, .val (.long i5), .second, .val (.long r1), .second, .val (.long r2), .second, .val (.long r3), .second, .val (.long r4), .second, .val (.long r5), .second, .val (.int z8), .val (.int z11), .val (.int z14), .val (.int z17), .val (.ref b18), .val (.ref nr115), .val (.int z133), .unset, .unset, .unset, .unset] []))
                      refine own_st (fun _ k => XS.lload X115.here hx rfl (hb hby at_199) rfl k) ?_
                      show own_G p.tables e below _ (T115.setTop (mkF m 201 #[.val (.int i0), .val (.long i1), .second, .val (.long i2), .second, .val (.long i3), .second, .val (.long i4), .second, .val (.long i5), .second, .val (.long r1), .second, .val (.long r2), .second, .val (.long r3), .second, .val (.long r4), .second, .val (.long r5), .second, .val (.int z8), .val (.int z11), .val (.int z14), .val (.int z17), .val (.ref b18), .val (.ref nr115), .val (.int z133), .unset, .unset, .unset, .unset] [(.long r1)]))
                      refine own_st (fun _ k => XS.goto X115.here hx rfl (pc0 := 201) (pc' := 206) rfl (hb hby at_201) (by decide) (by decide) k) ?_
                      show own_G p.tables e below _ (T115.setTop (mkF m 206 #[.val (.int i0), .val (.long i1), .second, .val (.long i2), .second, .val (.long i3), .second, .val (.long i4), .second, .val (.long i5), .second, .val (.long r1), .second, .val (.long r2), .second, .val (.long r3), .second, .val (.long r4), .second, .val (.long r5), .second, .val (.int z8), .val (.int z11), .val (.int z14), .val (.int z17), .val (.ref b18), .val (.ref nr115), .val (.int z133), .unset, .unset, .unset, .unset] [(.long r1)]))
                      exact J206_135 r1 ((if_pos hc196_134).symm)
                    · refine own_st (fun _ k => XS.ifYes X115.here hx rfl (pc0 := 196) (pc' := 204) rfl (hb hby at_196) rfl ((if0 _ _).trans (teq (own_b0 hz133 hc196_134)).1) (by decide) (by decide) k) ?_
                      show own_G p.tables e below _ (T115.setTop (mkF m 204 #[.val (.int i0), .val (.long i1), .second, .val (.long i2), .second, .val (.long i3), .second, .val (.long i4), .second, .val (.long i5), .second, .val (.long r1), .second, .val (.long r2), .second, .val (.long r3), .second, .val (.long r4), .second, .val (.long r5), .second, .val (.int z8), .val (.int z11), .val (.int z14), .val (.int z17), .val (.ref b18), .val (.ref nr115), .val (.int z133), .unset, .unset, .unset, .unset] []))
                      refine own_st (fun _ k => XS.lload X115.here hx rfl (hb hby at_204) rfl k) ?_
                      show own_G p.tables e below _ (T115.setTop (mkF m 206 #[.val (.int i0), .val (.long i1), .second, .val (.long i2), .second, .val (.long i3), .second, .val (.long i4), .second, .val (.long i5), .second, .val (.long r1), .second, .val (.long r2), .second, .val (.long r3), .second, .val (.long r4), .second, .val (.long r5), .second, .val (.int z8), .val (.int z11), .val (.int z14), .val (.int z17), .val (.ref b18), .val (.ref nr115), .val (.int z133), .unset, .unset, .unset, .unset] [(.long r3)]))
                      exact J206_135 r3 ((if_neg hc196_134).symm)
                  by_cases hc166_131 : ¬ ((i0 &&& (1 : Int32)) = (0 : Int32))
                  · refine own_st (fun _ k => XS.ifNo X115.here hx rfl (hb hby at_166) rfl ((if0 _ _).trans (feq (own_b1 hz8 hc166_131)).1) k) ?_
                    show own_G p.tables e below _ (T115.setTop (mkF m 169 #[.val (.int i0), .val (.long i1), .second, .val (.long i2), .second, .val (.long i3), .second, .val (.long i4), .second, .val (.long i5), .second, .val (.long r1), .second, .val (.long r2), .second, .val (.long r3), .second, .val (.long r4), .second, .val (.long r5), .second, .val (.int z8), .val (.int z11), .val (.int z14), .val (.int z17), .val (.ref b18), .val (.ref nr115), .unset, .unset, .unset, .unset, .unset] []))
                    refine own_st (fun _ k => XS.iload X115.here hx rfl (hb hby at_169) rfl k) ?_
                    show own_G p.tables e below _ (T115.setTop (mkF m 171 #[.val (.int i0), .val (.long i1), .second, .val (.long i2), .second, .val (.long i3), .second, .val (.long i4), .second, .val (.long i5), .second, .val (.long r1), .second, .val (.long r2), .second, .val (.long r3), .second, .val (.long r4), .second, .val (.long r5), .second, .val (.int z8), .val (.int z11), .val (.int z14), .val (.int z17), .val (.ref b18), .val (.ref nr115), .unset, .unset, .unset, .unset, .unset] [(.int z14)]))
                    by_cases hc171_149 : ¬ ((i0 &&& (4 : Int32)) = (0 : Int32))
                    · refine own_st (fun _ k => XS.ifYes X115.here hx rfl (pc0 := 171) (pc' := 191) rfl (hb hby at_171) rfl ((if0 _ _).trans (feq (own_b1 hz14 hc171_149)).2) (by decide) (by decide) k) ?_
                      show own_G p.tables e below _ (T115.setTop (mkF m 191 #[.val (.int i0), .val (.long i1), .second, .val (.long i2), .second, .val (.long i3), .second, .val (.long i4), .second, .val (.long i5), .second, .val (.long r1), .second, .val (.long r2), .second, .val (.long r3), .second, .val (.long r4), .second, .val (.long r5), .second, .val (.int z8), .val (.int z11), .val (.int z14), .val (.int z17), .val (.ref b18), .val (.ref nr115), .unset, .unset, .unset, .unset, .unset] []))
                      refine own_st (fun _ k => XS.iconst X115.here hx rfl (hb hby at_191) k) ?_
                      show own_G p.tables e below _ (T115.setTop (mkF m 192 #[.val (.int i0), .val (.long i1), .second, .val (.long i2), .second, .val (.long i3), .second, .val (.long i4), .second, .val (.long i5), .second, .val (.long r1), .second, .val (.long r2), .second, .val (.long r3), .second, .val (.long r4), .second, .val (.long r5), .second, .val (.int z8), .val (.int z11), .val (.int z14), .val (.int z17), .val (.ref b18), .val (.ref nr115), .unset, .unset, .unset, .unset, .unset] [(.int (0 : Int32))]))
                      exact J192_132 (0 : Int32) ((own_bf (fun q => (fun q => q.1 hc171_149) q.2)).symm)
                    · refine own_st (fun _ k => XS.ifNo X115.here hx rfl (hb hby at_171) rfl ((if0 _ _).trans (teq (own_b0 hz14 hc171_149)).2) k) ?_
                      show own_G p.tables e below _ (T115.setTop (mkF m 174 #[.val (.int i0), .val (.long i1), .second, .val (.long i2), .second, .val (.long i3), .second, .val (.long i4), .second, .val (.long i5), .second, .val (.long r1), .second, .val (.long r2), .second, .val (.long r3), .second, .val (.long r4), .second, .val (.long r5), .second, .val (.int z8), .val (.int z11), .val (.int z14), .val (.int z17), .val (.ref b18), .val (.ref nr115), .unset, .unset, .unset, .unset, .unset] []))
                      refine own_st (fun _ k => XS.iload X115.here hx rfl (hb hby at_174) rfl k) ?_
                      show own_G p.tables e below _ (T115.setTop (mkF m 176 #[.val (.int i0), .val (.long i1), .second, .val (.long i2), .second, .val (.long i3), .second, .val (.long i4), .second, .val (.long i5), .second, .val (.long r1), .second, .val (.long r2), .second, .val (.long r3), .second, .val (.long r4), .second, .val (.long r5), .second, .val (.int z8), .val (.int z11), .val (.int z14), .val (.int z17), .val (.ref b18), .val (.ref nr115), .unset, .unset, .unset, .unset, .unset] [(.int z11)]))
                      by_cases hc176_150 : ¬ ((i0 &&& (2 : Int32)) = (0 : Int32))
                      · refine own_st (fun _ k => XS.ifYes X115.here hx rfl (pc0 := 176) (pc' := 187) rfl (hb hby at_176) rfl ((if0 _ _).trans (feq (own_b1 hz11 hc176_150)).2) (by decide) (by decide) k) ?_
                        show own_G p.tables e below _ (T115.setTop (mkF m 187 #[.val (.int i0), .val (.long i1), .second, .val (.long i2), .second, .val (.long i3), .second, .val (.long i4), .second, .val (.long i5), .second, .val (.long r1), .second, .val (.long r2), .second, .val (.long r3), .second, .val (.long r4), .second, .val (.long r5), .second, .val (.int z8), .val (.int z11), .val (.int z14), .val (.int z17), .val (.ref b18), .val (.ref nr115), .unset, .unset, .unset, .unset, .unset] []))
                        refine own_st (fun _ k => XS.iconst X115.here hx rfl (hb hby at_187) k) ?_
                        show own_G p.tables e below _ (T115.setTop (mkF m 188 #[.val (.int i0), .val (.long i1), .second, .val (.long i2), .second, .val (.long i3), .second, .val (.long i4), .second, .val (.long i5), .second, .val (.long r1), .second, .val (.long r2), .second, .val (.long r3), .second, .val (.long r4), .second, .val (.long r5), .second, .val (.int z8), .val (.int z11), .val (.int z14), .val (.int z17), .val (.ref b18), .val (.ref nr115), .unset, .unset, .unset, .unset, .unset] [(.int (1 : Int32))]))
                        refine own_st (fun _ k => XS.goto X115.here hx rfl (pc0 := 188) (pc' := 192) rfl (hb hby at_188) (by decide) (by decide) k) ?_
                        show own_G p.tables e below _ (T115.setTop (mkF m 192 #[.val (.int i0), .val (.long i1), .second, .val (.long i2), .second, .val (.long i3), .second, .val (.long i4), .second, .val (.long i5), .second, .val (.long r1), .second, .val (.long r2), .second, .val (.long r3), .second, .val (.long r4), .second, .val (.long r5), .second, .val (.int z8), .val (.int z11), .val (.int z14), .val (.int z17), .val (.ref b18), .val (.ref nr115), .unset, .unset, .unset, .unset, .unset] [(.int (1 : Int32))]))
                        exact J192_132 (1 : Int32) ((own_bt ⟨hc166_131, ⟨hc171_149, (Or.inl hc176_150)⟩⟩).symm)
                      · refine own_st (fun _ k => XS.ifNo X115.here hx rfl (hb hby at_176) rfl ((if0 _ _).trans (teq (own_b0 hz11 hc176_150)).2) k) ?_
                        show own_G p.tables e below _ (T115.setTop (mkF m 179 #[.val (.int i0), .val (.long i1), .second, .val (.long i2), .second, .val (.long i3), .second, .val (.long i4), .second, .val (.long i5), .second, .val (.long r1), .second, .val (.long r2), .second, .val (.long r3), .second, .val (.long r4), .second, .val (.long r5), .second, .val (.int z8), .val (.int z11), .val (.int z14), .val (.int z17), .val (.ref b18), .val (.ref nr115), .unset, .unset, .unset, .unset, .unset] []))
                        refine own_st (fun _ k => XS.lload X115.here hx rfl (hb hby at_179) rfl k) ?_
                        show own_G p.tables e below _ (T115.setTop (mkF m 181 #[.val (.int i0), .val (.long i1), .second, .val (.long i2), .second, .val (.long i3), .second, .val (.long i4), .second, .val (.long i5), .second, .val (.long r1), .second, .val (.long r2), .second, .val (.long r3), .second, .val (.long r4), .second, .val (.long r5), .second, .val (.int z8), .val (.int z11), .val (.int z14), .val (.int z17), .val (.ref b18), .val (.ref nr115), .unset, .unset, .unset, .unset, .unset] [(.long r3)]))
                        refine own_st (fun _ k => XS.lload X115.here hx rfl (hb hby at_181) rfl k) ?_
                        show own_G p.tables e below _ (T115.setTop (mkF m 183 #[.val (.int i0), .val (.long i1), .second, .val (.long i2), .second, .val (.long i3), .second, .val (.long i4), .second, .val (.long i5), .second, .val (.long r1), .second, .val (.long r2), .second, .val (.long r3), .second, .val (.long r4), .second, .val (.long r5), .second, .val (.int z8), .val (.int z11), .val (.int z14), .val (.int z17), .val (.ref b18), .val (.ref nr115), .unset, .unset, .unset, .unset, .unset] [(.long r2), (.long r3)]))
                        refine own_st (fun _ k => XS.lcmp X115.here hx rfl (hb hby at_183) rfl k) ?_
                        show own_G p.tables e below _ (T115.setTop (mkF m 184 #[.val (.int i0), .val (.long i1), .second, .val (.long i2), .second, .val (.long i3), .second, .val (.long i4), .second, .val (.long i5), .second, .val (.long r1), .second, .val (.long r2), .second, .val (.long r3), .second, .val (.long r4), .second, .val (.long r5), .second, .val (.int z8), .val (.int z11), .val (.int z14), .val (.int z17), .val (.ref b18), .val (.ref nr115), .unset, .unset, .unset, .unset, .unset] [(.int (lcmpW r3 r2))]))
                        by_cases hc184_151 : r2 < r3
                        · refine own_st (fun _ k => XS.ifYes X115.here hx rfl (pc0 := 184) (pc' := 191) rfl (hb hby at_184) rfl ((if0 _ _).trans (tlt ((lw_gt r3 r2).mpr hc184_151)).2.2.1) (by decide) (by decide) k) ?_
                          show own_G p.tables e below _ (T115.setTop (mkF m 191 #[.val (.int i0), .val (.long i1), .second, .val (.long i2), .second, .val (.long i3), .second, .val (.long i4), .second, .val (.long i5), .second, .val (.long r1), .second, .val (.long r2), .second, .val (.long r3), .second, .val (.long r4), .second, .val (.long r5), .second, .val (.int z8), .val (.int z11), .val (.int z14), .val (.int z17), .val (.ref b18), .val (.ref nr115), .unset, .unset, .unset, .unset, .unset] []))
                          refine own_st (fun _ k => XS.iconst X115.here hx rfl (hb hby at_191) k) ?_
                          show own_G p.tables e below _ (T115.setTop (mkF m 192 #[.val (.int i0), .val (.long i1), .second, .val (.long i2), .second, .val (.long i3), .second, .val (.long i4), .second, .val (.long i5), .second, .val (.long r1), .second, .val (.long r2), .second, .val (.long r3), .second, .val (.long r4), .second, .val (.long r5), .second, .val (.int z8), .val (.int z11), .val (.int z14), .val (.int z17), .val (.ref b18), .val (.ref nr115), .unset, .unset, .unset, .unset, .unset] [(.int (0 : Int32))]))
                          exact J192_132 (0 : Int32) ((own_bf (fun q => (fun q => (fun q => q.elim hc176_150 (fun q => q hc184_151)) q.2) q.2)).symm)
                        · refine own_st (fun _ k => XS.ifNo X115.here hx rfl (hb hby at_184) rfl ((if0 _ _).trans (flt (fun q => hc184_151 ((lw_gt r3 r2).mp q))).2.2.1) k) ?_
                          show own_G p.tables e below _ (T115.setTop (mkF m 187 #[.val (.int i0), .val (.long i1), .second, .val (.long i2), .second, .val (.long i3), .second, .val (.long i4), .second, .val (.long i5), .second, .val (.long r1), .second, .val (.long r2), .second, .val (.long r3), .second, .val (.long r4), .second, .val (.long r5), .second, .val (.int z8), .val (.int z11), .val (.int z14), .val (.int z17), .val (.ref b18), .val (.ref nr115), .unset, .unset, .unset, .unset, .unset] []))
                          refine own_st (fun _ k => XS.iconst X115.here hx rfl (hb hby at_187) k) ?_
                          show own_G p.tables e below _ (T115.setTop (mkF m 188 #[.val (.int i0), .val (.long i1), .second, .val (.long i2), .second, .val (.long i3), .second, .val (.long i4), .second, .val (.long i5), .second, .val (.long r1), .second, .val (.long r2), .second, .val (.long r3), .second, .val (.long r4), .second, .val (.long r5), .second, .val (.int z8), .val (.int z11), .val (.int z14), .val (.int z17), .val (.ref b18), .val (.ref nr115), .unset, .unset, .unset, .unset, .unset] [(.int (1 : Int32))]))
                          refine own_st (fun _ k => XS.goto X115.here hx rfl (pc0 := 188) (pc' := 192) rfl (hb hby at_188) (by decide) (by decide) k) ?_
                          show own_G p.tables e below _ (T115.setTop (mkF m 192 #[.val (.int i0), .val (.long i1), .second, .val (.long i2), .second, .val (.long i3), .second, .val (.long i4), .second, .val (.long i5), .second, .val (.long r1), .second, .val (.long r2), .second, .val (.long r3), .second, .val (.long r4), .second, .val (.long r5), .second, .val (.int z8), .val (.int z11), .val (.int z14), .val (.int z17), .val (.ref b18), .val (.ref nr115), .unset, .unset, .unset, .unset, .unset] [(.int (1 : Int32))]))
                          exact J192_132 (1 : Int32) ((own_bt ⟨hc166_131, ⟨hc171_149, (Or.inr hc184_151)⟩⟩).symm)
                  · refine own_st (fun _ k => XS.ifYes X115.here hx rfl (pc0 := 166) (pc' := 191) rfl (hb hby at_166) rfl ((if0 _ _).trans (teq (own_b0 hz8 hc166_131)).1) (by decide) (by decide) k) ?_
                    show own_G p.tables e below _ (T115.setTop (mkF m 191 #[.val (.int i0), .val (.long i1), .second, .val (.long i2), .second, .val (.long i3), .second, .val (.long i4), .second, .val (.long i5), .second, .val (.long r1), .second, .val (.long r2), .second, .val (.long r3), .second, .val (.long r4), .second, .val (.long r5), .second, .val (.int z8), .val (.int z11), .val (.int z14), .val (.int z17), .val (.ref b18), .val (.ref nr115), .unset, .unset, .unset, .unset, .unset] []))
                    refine own_st (fun _ k => XS.iconst X115.here hx rfl (hb hby at_191) k) ?_
                    show own_G p.tables e below _ (T115.setTop (mkF m 192 #[.val (.int i0), .val (.long i1), .second, .val (.long i2), .second, .val (.long i3), .second, .val (.long i4), .second, .val (.long i5), .second, .val (.long r1), .second, .val (.long r2), .second, .val (.long r3), .second, .val (.long r4), .second, .val (.long r5), .second, .val (.int z8), .val (.int z11), .val (.int z14), .val (.int z17), .val (.ref b18), .val (.ref nr115), .unset, .unset, .unset, .unset, .unset] [(.int (0 : Int32))]))
                    exact J192_132 (0 : Int32) ((own_bf (fun q => hc166_131 q.1)).symm)
                by_cases hc141_100 : ¬ ((i0 &&& (8 : Int32)) = (0 : Int32))
                · refine own_st (fun _ k => XS.ifNo X85.here hx rfl (hb hby at_141) rfl ((if0 _ _).trans (feq (own_b1 hz17 hc141_100)).1) k) ?_
                  show own_G p.tables e below _ (T85.setTop (mkF m 144 #[.val (.int i0), .val (.long i1), .second, .val (.long i2), .second, .val (.long i3), .second, .val (.long i4), .second, .val (.long i5), .second, .val (.long r1), .second, .val (.long r2), .second, .val (.long r3), .second, .val (.long r4), .second, .val (.long r5), .second, .val (.int z8), .val (.int z11), .val (.int z14), .val (.int z17), .val (.ref b18), .unset, .unset, .unset, .unset, .unset, .unset] []))
                  refine own_st (fun _ k => XS.aload X85.here hx rfl (hb hby at_144) rfl rfl k) ?_
                  show own_G p.tables e below _ (T85.setTop (mkF m 146 #[.val (.int i0), .val (.long i1), .second, .val (.long i2), .second, .val (.long i3), .second, .val (.long i4), .second, .val (.long i5), .second, .val (.long r1), .second, .val (.long r2), .second, .val (.long r3), .second, .val (.long r4), .second, .val (.long r5), .second, .val (.int z8), .val (.int z11), .val (.int z14), .val (.int z17), .val (.ref b18), .unset, .unset, .unset, .unset, .unset, .unset] [(.ref b18)]))
                  refine own_st (fun _ k => XS.lload X85.here hx rfl (hb hby at_146) rfl k) ?_
                  show own_G p.tables e below _ (T85.setTop (mkF m 148 #[.val (.int i0), .val (.long i1), .second, .val (.long i2), .second, .val (.long i3), .second, .val (.long i4), .second, .val (.long i5), .second, .val (.long r1), .second, .val (.long r2), .second, .val (.long r3), .second, .val (.long r4), .second, .val (.long r5), .second, .val (.int z8), .val (.int z11), .val (.int z14), .val (.int z17), .val (.ref b18), .unset, .unset, .unset, .unset, .unset, .unset] [(.long r5), (.ref b18)]))
                  refine own_st (fun _ k => XS.lload X85.here hx rfl (hb hby at_148) rfl k) ?_
                  show own_G p.tables e below _ (T85.setTop (mkF m 150 #[.val (.int i0), .val (.long i1), .second, .val (.long i2), .second, .val (.long i3), .second, .val (.long i4), .second, .val (.long i5), .second, .val (.long r1), .second, .val (.long r2), .second, .val (.long r3), .second, .val (.long r4), .second, .val (.long r5), .second, .val (.int z8), .val (.int z11), .val (.int z14), .val (.int z17), .val (.ref b18), .unset, .unset, .unset, .unset, .unset, .unset] [(.long r2), (.long r5), (.ref b18)]))
                  obtain ⟨cq152, kq152, q152a, q152b, q152c⟩ := isOf hZ rfl E86
                  obtain ⟨_, _, ⟨T152, L152, k152, n152⟩, -, X152, ⟨Lc152, hQ152, l152, y152, z152⟩, st152⟩ := X85.virtualBack hx (y := (⟨"com/example/funnel/funnel/relay/Backlog", "found", "(JJ)V"⟩ : MethodName)) (z := (⟨"com/example/funnel/funnel/relay/Backlog", "found", "(JJ)V"⟩ : MethodName)) hown (mvT hZ (hw _ (List.mem_of_getElem? (i := 22) rfl))) (mvT hZ (hw _ (List.mem_of_getElem? (i := 23) rfl))) (notFace_of_selects (args := #[]) (mvT hZ (hw _ (List.mem_of_getElem? (i := 25) rfl)))) (mvT hZ (hw _ (List.mem_of_getElem? (i := 25) rfl))) (mvT hZ (hw _ (List.mem_of_getElem? (i := 24) rfl))) (by decide) (backOf (W := 0) (rm4 l Z a0 hw [] b18 r5 r2 v96 v97 (.ref nb30) (0 : Int32) r4 (0 : Int64) T85.heap n0 Z95 F87 F88 F89 F90 F91 F92 E86 ge_b18) hZ (hw _ (List.mem_of_getElem? (i := 26) rfl)) (hw _ (List.mem_of_getElem? (i := 7) rfl)) (by decide) (by decide)) q152a q152c (g := (mkF m 150 #[.val (.int i0), .val (.long i1), .second, .val (.long i2), .second, .val (.long i3), .second, .val (.long i4), .second, .val (.long i5), .second, .val (.long r1), .second, .val (.long r2), .second, .val (.long r3), .second, .val (.long r4), .second, .val (.long r5), .second, .val (.int z8), .val (.int z11), .val (.int z14), .val (.int z17), .val (.ref b18), .unset, .unset, .unset, .unset, .unset, .unset] [(.long r2), (.long r5), (.ref b18)])) rfl (by rw [hml]; rfl) (Steps.refl _) (argsL := [(.long r5), (.long r2)]) (rest := []) (lenOf pd_2 rfl) rfl (by show 2 * 0 + _ ≤ _; exact Nat.le_of_eq rfl) (hb hby at_150) (fun _ _ => ⟨rfl, rfl, (by decide : 2 + 0 ≤ _), (by decide : 7 + 0 ≤ _)⟩)
                  dsimp only [Pt.U, Pt.locs, Pt.cells, Pt.slots] at X152 l152 y152 z152 st152 hQ152
                  subst l152 y152 z152
                  obtain ⟨rfl, N152q, K152q, E153, F154, F155, F156, F157, F158, F159⟩ := hQ152
                  have N152 := Fr.app N85 N152q
                  have V161 := V94.keep K152q (ninS (Ne.symm ne_b18_nb30) nin0)
                  have Z162 := Nat.le_trans Z95 K152q.1
                  obtain ⟨v163, hv163⟩ : ∃ z : Int64, z = (if ¬ (v96 = (-9223372036854775808 : Int64)) ∧ (¬ ((0 : Int32) = (0 : Int32)) ∨ (¬ (r4 < r5))) then v96 else r5) := ⟨_, rfl⟩
                  rw [← hv163] at F154
                  obtain ⟨v164, hv164⟩ : ∃ z : Int64, z = (if v97 = (-9223372036854775808 : Int64) then r2 else v97) := ⟨_, rfl⟩
                  rw [← hv164] at F155
                  refine own_st (fun _ k => st152.trans k) ?_
                  show own_G p.tables e below _ (T152.setTop (mkF m 153 #[.val (.int i0), .val (.long i1), .second, .val (.long i2), .second, .val (.long i3), .second, .val (.long i4), .second, .val (.long i5), .second, .val (.long r1), .second, .val (.long r2), .second, .val (.long r3), .second, .val (.long r4), .second, .val (.long r5), .second, .val (.int z8), .val (.int z11), .val (.int z14), .val (.int z17), .val (.ref b18), .unset, .unset, .unset, .unset, .unset, .unset] []))
                  exact J153_101 v163 (by subst hv164; subst hv163; exact (if_pos hc141_100).symm) v164 (by subst hv164; subst hv163; exact (if_pos hc141_100).symm) r2 (by subst hv164; subst hv163; exact (if_pos hc141_100).symm) _ _ X152 N152 Z162 E153 F154 F155 F156 F157 F158 F159 V161
                · refine own_st (fun _ k => XS.ifYes X85.here hx rfl (pc0 := 141) (pc' := 153) rfl (hb hby at_141) rfl ((if0 _ _).trans (teq (own_b0 hz17 hc141_100)).1) (by decide) (by decide) k) ?_
                  show own_G p.tables e below _ (T85.setTop (mkF m 153 #[.val (.int i0), .val (.long i1), .second, .val (.long i2), .second, .val (.long i3), .second, .val (.long i4), .second, .val (.long i5), .second, .val (.long r1), .second, .val (.long r2), .second, .val (.long r3), .second, .val (.long r4), .second, .val (.long r5), .second, .val (.int z8), .val (.int z11), .val (.int z14), .val (.int z17), .val (.ref b18), .unset, .unset, .unset, .unset, .unset, .unset] []))
                  exact J153_101 v96 ((if_neg hc141_100).symm) v97 ((if_neg hc141_100).symm) r4 ((if_neg hc141_100).symm) _ _ X85 N85 Z95 E86 F87 F88 F89 F90 F91 F92 V94
              by_cases hc122_71 : ¬ ((i0 &&& (4 : Int32)) = (0 : Int32))
              · refine own_st (fun _ k => XS.ifNo X60.here hx rfl (hb hby at_122) rfl ((if0 _ _).trans (feq (own_b1 hz14 hc122_71)).1) k) ?_
                show own_G p.tables e below _ (T60.setTop (mkF m 125 #[.val (.int i0), .val (.long i1), .second, .val (.long i2), .second, .val (.long i3), .second, .val (.long i4), .second, .val (.long i5), .second, .val (.long r1), .second, .val (.long r2), .second, .val (.long r3), .second, .val (.long r4), .second, .val (.long r5), .second, .val (.int z8), .val (.int z11), .val (.int z14), .val (.int z17), .val (.ref b18), .unset, .unset, .unset, .unset, .unset, .unset] []))
                refine own_st (fun _ k => XS.aload X60.here hx rfl (hb hby at_125) rfl rfl k) ?_
                show own_G p.tables e below _ (T60.setTop (mkF m 127 #[.val (.int i0), .val (.long i1), .second, .val (.long i2), .second, .val (.long i3), .second, .val (.long i4), .second, .val (.long i5), .second, .val (.long r1), .second, .val (.long r2), .second, .val (.long r3), .second, .val (.long r4), .second, .val (.long r5), .second, .val (.int z8), .val (.int z11), .val (.int z14), .val (.int z17), .val (.ref b18), .unset, .unset, .unset, .unset, .unset, .unset] [(.ref b18)]))
                obtain ⟨cq167, kq167, q167a, q167b, q167c⟩ := isOf hZ rfl E62
                obtain ⟨_, _, ⟨T167, L167, k167, n167⟩, -, X167, ⟨Lc167, hQ167, l167, y167, z167⟩, st167⟩ := X60.virtualBack hx (y := (⟨"com/example/funnel/funnel/relay/Backlog", "emptied", "()V"⟩ : MethodName)) (z := (⟨"com/example/funnel/funnel/relay/Backlog", "emptied", "()V"⟩ : MethodName)) hown (mvT hZ (hw _ (List.mem_of_getElem? (i := 74) rfl))) (mvT hZ (hw _ (List.mem_of_getElem? (i := 75) rfl))) (notFace_of_selects (args := #[]) (mvT hZ (hw _ (List.mem_of_getElem? (i := 77) rfl)))) (mvT hZ (hw _ (List.mem_of_getElem? (i := 77) rfl))) (mvT hZ (hw _ (List.mem_of_getElem? (i := 76) rfl))) (by decide) (backOf (W := 0) (rm12 l Z a0 hw [] b18 z48 z50 (.ref nb30) z66 z54 (0 : Int64) T60.heap n0 Z61 F63 F64 F65 F67 F68 F69 E62 ge_b18) hZ (hw _ (List.mem_of_getElem? (i := 78) rfl)) (hw _ (List.mem_of_getElem? (i := 7) rfl)) (by decide) (by decide)) q167a q167c (g := (mkF m 127 #[.val (.int i0), .val (.long i1), .second, .val (.long i2), .second, .val (.long i3), .second, .val (.long i4), .second, .val (.long i5), .second, .val (.long r1), .second, .val (.long r2), .second, .val (.long r3), .second, .val (.long r4), .second, .val (.long r5), .second, .val (.int z8), .val (.int z11), .val (.int z14), .val (.int z17), .val (.ref b18), .unset, .unset, .unset, .unset, .unset, .unset] [(.ref b18)])) rfl (by rw [hml]; rfl) (Steps.refl _) (argsL := []) (rest := []) (lenOf pd_0 rfl) rfl (by show 2 * 0 + _ ≤ _; exact Nat.le_of_eq rfl) (hb hby at_127) (fun _ _ => ⟨rfl, rfl, (by decide : 2 + 0 ≤ _), (by decide : 7 + 0 ≤ _)⟩)
                dsimp only [Pt.U, Pt.locs, Pt.cells, Pt.slots] at X167 l167 y167 z167 st167 hQ167
                subst l167 y167 z167
                obtain ⟨rfl, N167q, K167q, E168, F169, F170, F171, F172, F173, F174⟩ := hQ167
                have N167 := Fr.app N60 N167q
                have V176 := V70.keep K167q (ninS (Ne.symm ne_b18_nb30) nin0)
                have Z177 := Nat.le_trans Z61 K167q.1
                refine own_st (fun _ k => st167.trans k) ?_
                show own_G p.tables e below _ (T167.setTop (mkF m 130 #[.val (.int i0), .val (.long i1), .second, .val (.long i2), .second, .val (.long i3), .second, .val (.long i4), .second, .val (.long i5), .second, .val (.long r1), .second, .val (.long r2), .second, .val (.long r3), .second, .val (.long r4), .second, .val (.long r5), .second, .val (.int z8), .val (.int z11), .val (.int z14), .val (.int z17), .val (.ref b18), .unset, .unset, .unset, .unset, .unset, .unset] []))
                exact J130_72 (-9223372036854775808 : Int64) ((if_pos hc122_71).symm) (-9223372036854775808 : Int64) ((if_pos hc122_71).symm) _ _ X167 N167 Z177 E168 F169 F170 F171 F172 F173 F174 V176
              · refine own_st (fun _ k => XS.ifYes X60.here hx rfl (pc0 := 122) (pc' := 130) rfl (hb hby at_122) rfl ((if0 _ _).trans (teq (own_b0 hz14 hc122_71)).1) (by decide) (by decide) k) ?_
                show own_G p.tables e below _ (T60.setTop (mkF m 130 #[.val (.int i0), .val (.long i1), .second, .val (.long i2), .second, .val (.long i3), .second, .val (.long i4), .second, .val (.long i5), .second, .val (.long r1), .second, .val (.long r2), .second, .val (.long r3), .second, .val (.long r4), .second, .val (.long r5), .second, .val (.int z8), .val (.int z11), .val (.int z14), .val (.int z17), .val (.ref b18), .unset, .unset, .unset, .unset, .unset, .unset] []))
                exact J130_72 z48 ((if_neg hc122_71).symm) z50 ((if_neg hc122_71).symm) _ _ X60 N60 Z61 E62 F63 F64 F65 F67 F68 F69 V70
            by_cases hc112_58 : ¬ ((i0 &&& (2 : Int32)) = (0 : Int32))
            · refine own_st (fun _ k => XS.ifNo X45.here hx rfl (hb hby at_112) rfl ((if0 _ _).trans (feq (own_b1 hz11 hc112_58)).1) k) ?_
              show own_G p.tables e below _ (T45.setTop (mkF m 115 #[.val (.int i0), .val (.long i1), .second, .val (.long i2), .second, .val (.long i3), .second, .val (.long i4), .second, .val (.long i5), .second, .val (.long r1), .second, .val (.long r2), .second, .val (.long r3), .second, .val (.long r4), .second, .val (.long r5), .second, .val (.int z8), .val (.int z11), .val (.int z14), .val (.int z17), .val (.ref b18), .unset, .unset, .unset, .unset, .unset, .unset] []))
              refine own_st (fun _ k => XS.aload X45.here hx rfl (hb hby at_115) rfl rfl k) ?_
              show own_G p.tables e below _ (T45.setTop (mkF m 117 #[.val (.int i0), .val (.long i1), .second, .val (.long i2), .second, .val (.long i3), .second, .val (.long i4), .second, .val (.long i5), .second, .val (.long r1), .second, .val (.long r2), .second, .val (.long r3), .second, .val (.long r4), .second, .val (.long r5), .second, .val (.int z8), .val (.int z11), .val (.int z14), .val (.int z17), .val (.ref b18), .unset, .unset, .unset, .unset, .unset, .unset] [(.ref b18)]))
              obtain ⟨cq181, kq181, q181a, q181b, q181c⟩ := isOf hZ rfl E47
              obtain ⟨_, _, ⟨T181, L181, k181, n181⟩, -, X181, ⟨Lc181, hQ181, l181, y181, z181⟩, st181⟩ := X45.virtualBack hx (y := (⟨"com/example/funnel/funnel/relay/Backlog", "unwatched", "()V"⟩ : MethodName)) (z := (⟨"com/example/funnel/funnel/relay/Backlog", "unwatched", "()V"⟩ : MethodName)) hown (mvT hZ (hw _ (List.mem_of_getElem? (i := 69) rfl))) (mvT hZ (hw _ (List.mem_of_getElem? (i := 70) rfl))) (notFace_of_selects (args := #[]) (mvT hZ (hw _ (List.mem_of_getElem? (i := 72) rfl)))) (mvT hZ (hw _ (List.mem_of_getElem? (i := 72) rfl))) (mvT hZ (hw _ (List.mem_of_getElem? (i := 71) rfl))) (by decide) (backOf (W := 0) (rm11 l Z a0 hw [] b18 z48 z50 (.ref nb30) (0 : Int32) z54 (0 : Int64) T45.heap n0 Z46 F49 F51 F52 F53 F55 F56 E47 ge_b18) hZ (hw _ (List.mem_of_getElem? (i := 73) rfl)) (hw _ (List.mem_of_getElem? (i := 7) rfl)) (by decide) (by decide)) q181a q181c (g := (mkF m 117 #[.val (.int i0), .val (.long i1), .second, .val (.long i2), .second, .val (.long i3), .second, .val (.long i4), .second, .val (.long i5), .second, .val (.long r1), .second, .val (.long r2), .second, .val (.long r3), .second, .val (.long r4), .second, .val (.long r5), .second, .val (.int z8), .val (.int z11), .val (.int z14), .val (.int z17), .val (.ref b18), .unset, .unset, .unset, .unset, .unset, .unset] [(.ref b18)])) rfl (by rw [hml]; rfl) (Steps.refl _) (argsL := []) (rest := []) (lenOf pd_0 rfl) rfl (by show 2 * 0 + _ ≤ _; exact Nat.le_of_eq rfl) (hb hby at_117) (fun _ _ => ⟨rfl, rfl, (by decide : 2 + 0 ≤ _), (by decide : 7 + 0 ≤ _)⟩)
              dsimp only [Pt.U, Pt.locs, Pt.cells, Pt.slots] at X181 l181 y181 z181 st181 hQ181
              subst l181 y181 z181
              obtain ⟨rfl, N181q, K181q, E182, F183, F184, F185, F186, F187, F188⟩ := hQ181
              have N181 := Fr.app N45 N181q
              have V190 := V57.keep K181q (ninS (Ne.symm ne_b18_nb30) nin0)
              have Z191 := Nat.le_trans Z46 K181q.1
              refine own_st (fun _ k => st181.trans k) ?_
              show own_G p.tables e below _ (T181.setTop (mkF m 120 #[.val (.int i0), .val (.long i1), .second, .val (.long i2), .second, .val (.long i3), .second, .val (.long i4), .second, .val (.long i5), .second, .val (.long r1), .second, .val (.long r2), .second, .val (.long r3), .second, .val (.long r4), .second, .val (.long r5), .second, .val (.int z8), .val (.int z11), .val (.int z14), .val (.int z17), .val (.ref b18), .unset, .unset, .unset, .unset, .unset, .unset] []))
              exact J120_59 (1 : Int32) ((own_bt hc112_58).symm) _ _ X181 N181 Z191 E182 F183 F184 F185 F186 F187 F188 V190
            · refine own_st (fun _ k => XS.ifYes X45.here hx rfl (pc0 := 112) (pc' := 120) rfl (hb hby at_112) rfl ((if0 _ _).trans (teq (own_b0 hz11 hc112_58)).1) (by decide) (by decide) k) ?_
              show own_G p.tables e below _ (T45.setTop (mkF m 120 #[.val (.int i0), .val (.long i1), .second, .val (.long i2), .second, .val (.long i3), .second, .val (.long i4), .second, .val (.long i5), .second, .val (.long r1), .second, .val (.long r2), .second, .val (.long r3), .second, .val (.long r4), .second, .val (.long r5), .second, .val (.int z8), .val (.int z11), .val (.int z14), .val (.int z17), .val (.ref b18), .unset, .unset, .unset, .unset, .unset, .unset] []))
              exact J120_59 (0 : Int32) ((own_bf hc112_58).symm) _ _ X45 N45 Z46 E47 F49 F51 F52 F53 F55 F56 V57
          by_cases hc98_43 : ¬ ((i0 &&& (1 : Int32)) = (0 : Int32))
          · refine own_st (fun _ k => XS.ifNo X26.here hx rfl (hb hby at_98) rfl ((if0 _ _).trans (feq (own_b1 hz8 hc98_43)).1) k) ?_
            show own_G p.tables e below _ (T26.setTop (mkF m 101 #[.val (.int i0), .val (.long i1), .second, .val (.long i2), .second, .val (.long i3), .second, .val (.long i4), .second, .val (.long i5), .second, .val (.long r1), .second, .val (.long r2), .second, .val (.long r3), .second, .val (.long r4), .second, .val (.long r5), .second, .val (.int z8), .val (.int z11), .val (.int z14), .val (.int z17), .val (.ref b18), .unset, .unset, .unset, .unset, .unset, .unset] []))
            refine own_st (fun _ k => XS.aload X26.here hx rfl (hb hby at_101) rfl rfl k) ?_
            show own_G p.tables e below _ (T26.setTop (mkF m 103 #[.val (.int i0), .val (.long i1), .second, .val (.long i2), .second, .val (.long i3), .second, .val (.long i4), .second, .val (.long i5), .second, .val (.long r1), .second, .val (.long r2), .second, .val (.long r3), .second, .val (.long r4), .second, .val (.long r5), .second, .val (.int z8), .val (.int z11), .val (.int z14), .val (.int z17), .val (.ref b18), .unset, .unset, .unset, .unset, .unset, .unset] [(.ref b18)]))
            refine own_st (fun _ k => XS.lload X26.here hx rfl (hb hby at_103) rfl k) ?_
            show own_G p.tables e below _ (T26.setTop (mkF m 105 #[.val (.int i0), .val (.long i1), .second, .val (.long i2), .second, .val (.long i3), .second, .val (.long i4), .second, .val (.long i5), .second, .val (.long r1), .second, .val (.long r2), .second, .val (.long r3), .second, .val (.long r4), .second, .val (.long r5), .second, .val (.int z8), .val (.int z11), .val (.int z14), .val (.int z17), .val (.ref b18), .unset, .unset, .unset, .unset, .unset, .unset] [(.long r1), (.ref b18)]))
            refine own_st (fun _ k => XS.lload X26.here hx rfl (hb hby at_105) rfl k) ?_
            show own_G p.tables e below _ (T26.setTop (mkF m 107 #[.val (.int i0), .val (.long i1), .second, .val (.long i2), .second, .val (.long i3), .second, .val (.long i4), .second, .val (.long i5), .second, .val (.long r1), .second, .val (.long r2), .second, .val (.long r3), .second, .val (.long r4), .second, .val (.long r5), .second, .val (.int z8), .val (.int z11), .val (.int z14), .val (.int z17), .val (.ref b18), .unset, .unset, .unset, .unset, .unset, .unset] [(.long r2), (.long r1), (.ref b18)]))
            obtain ⟨cq196, kq196, q196a, q196b, q196c⟩ := isOf hZ rfl E27
            obtain ⟨_, _, ⟨T196, L196, k196, n196⟩, -, X196, ⟨Lc196, hQ196, l196, y196, z196⟩, st196⟩ := X26.virtualBack hx (y := (⟨"com/example/funnel/funnel/relay/Backlog", "found", "(JJ)V"⟩ : MethodName)) (z := (⟨"com/example/funnel/funnel/relay/Backlog", "found", "(JJ)V"⟩ : MethodName)) hown (mvT hZ (hw _ (List.mem_of_getElem? (i := 22) rfl))) (mvT hZ (hw _ (List.mem_of_getElem? (i := 23) rfl))) (notFace_of_selects (args := #[]) (mvT hZ (hw _ (List.mem_of_getElem? (i := 25) rfl)))) (mvT hZ (hw _ (List.mem_of_getElem? (i := 25) rfl))) (mvT hZ (hw _ (List.mem_of_getElem? (i := 24) rfl))) (by decide) (backOf (W := 0) (rm4 l Z a0 hw [] b18 r1 r2 (-9223372036854775808 : Int64) (-9223372036854775808 : Int64) (.ref nb30) (0 : Int32) (0 : Int64) (0 : Int64) T26.heap n0 Z39 F28 F29 F33 F35 F36 F37 E27 ge_b18) hZ (hw _ (List.mem_of_getElem? (i := 26) rfl)) (hw _ (List.mem_of_getElem? (i := 7) rfl)) (by decide) (by decide)) q196a q196c (g := (mkF m 107 #[.val (.int i0), .val (.long i1), .second, .val (.long i2), .second, .val (.long i3), .second, .val (.long i4), .second, .val (.long i5), .second, .val (.long r1), .second, .val (.long r2), .second, .val (.long r3), .second, .val (.long r4), .second, .val (.long r5), .second, .val (.int z8), .val (.int z11), .val (.int z14), .val (.int z17), .val (.ref b18), .unset, .unset, .unset, .unset, .unset, .unset] [(.long r2), (.long r1), (.ref b18)])) rfl (by rw [hml]; rfl) (Steps.refl _) (argsL := [(.long r1), (.long r2)]) (rest := []) (lenOf pd_2 rfl) rfl (by show 2 * 0 + _ ≤ _; exact Nat.le_of_eq rfl) (hb hby at_107) (fun _ _ => ⟨rfl, rfl, (by decide : 2 + 0 ≤ _), (by decide : 7 + 0 ≤ _)⟩)
            dsimp only [Pt.U, Pt.locs, Pt.cells, Pt.slots] at X196 l196 y196 z196 st196 hQ196
            subst l196 y196 z196
            obtain ⟨rfl, N196q, K196q, E197, F198, F199, F200, F201, F202, F203⟩ := hQ196
            have N196 := Fr.app N26 N196q
            have V205 := V34.keep K196q (ninS (Ne.symm ne_b18_nb30) nin0)
            have Z206 := Nat.le_trans Z39 K196q.1
            obtain ⟨v207, hv207⟩ : ∃ z : Int64, z = (if ¬ ((-9223372036854775808 : Int64) = (-9223372036854775808 : Int64)) ∧ (¬ ((0 : Int32) = (0 : Int32)) ∨ (¬ ((0 : Int64) < r1))) then (-9223372036854775808 : Int64) else r1) := ⟨_, rfl⟩
            rw [← hv207] at F198
            obtain ⟨v208, hv208⟩ : ∃ z : Int64, z = (if (-9223372036854775808 : Int64) = (-9223372036854775808 : Int64) then r2 else (-9223372036854775808 : Int64)) := ⟨_, rfl⟩
            rw [← hv208] at F199
            refine own_st (fun _ k => st196.trans k) ?_
            show own_G p.tables e below _ (T196.setTop (mkF m 110 #[.val (.int i0), .val (.long i1), .second, .val (.long i2), .second, .val (.long i3), .second, .val (.long i4), .second, .val (.long i5), .second, .val (.long r1), .second, .val (.long r2), .second, .val (.long r3), .second, .val (.long r4), .second, .val (.long r5), .second, .val (.int z8), .val (.int z11), .val (.int z14), .val (.int z17), .val (.ref b18), .unset, .unset, .unset, .unset, .unset, .unset] []))
            exact J110_44 v207 (by subst hv208; subst hv207; exact (if_pos hc98_43).symm) v208 (by subst hv208; subst hv207; exact (if_pos hc98_43).symm) r2 (by subst hv208; subst hv207; exact (if_pos hc98_43).symm) _ _ X196 N196 Z206 E197 F198 F199 F200 F201 F202 F203 V205
          · refine own_st (fun _ k => XS.ifYes X26.here hx rfl (pc0 := 98) (pc' := 110) rfl (hb hby at_98) rfl ((if0 _ _).trans (teq (own_b0 hz8 hc98_43)).1) (by decide) (by decide) k) ?_
            show own_G p.tables e below _ (T26.setTop (mkF m 110 #[.val (.int i0), .val (.long i1), .second, .val (.long i2), .second, .val (.long i3), .second, .val (.long i4), .second, .val (.long i5), .second, .val (.long r1), .second, .val (.long r2), .second, .val (.long r3), .second, .val (.long r4), .second, .val (.long r5), .second, .val (.int z8), .val (.int z11), .val (.int z14), .val (.int z17), .val (.ref b18), .unset, .unset, .unset, .unset, .unset, .unset] []))
            exact J110_44 (-9223372036854775808 : Int64) ((if_neg hc98_43).symm) (-9223372036854775808 : Int64) ((if_neg hc98_43).symm) (0 : Int64) ((if_neg hc98_43).symm) _ _ X26 N26 Z39 E27 F28 F29 F33 F35 F36 F37 V34
        by_cases hc76_15 : (i0 &&& (8 : Int32)) = (0 : Int32)
        · refine own_st (fun _ k => XS.ifYes X5.here hx rfl (pc0 := 76) (pc' := 83) rfl (hb hby at_76) rfl ((if0 _ _).trans (teq hc76_15).1) (by decide) (by decide) k) ?_
          show own_G p.tables e below _ (T5.setTop (mkF m 83 #[.val (.int i0), .val (.long i1), .second, .val (.long i2), .second, .val (.long i3), .second, .val (.long i4), .second, .val (.long i5), .second, .val (.long r1), .second, .val (.long r2), .second, .val (.long r3), .second, .val (.long r4), .second, .val (.long r5), .second, .val (.int z8), .val (.int z11), .val (.int z14), .unset, .unset, .unset, .unset, .unset, .unset, .unset, .unset] []))
          refine own_st (fun _ k => XS.iconst X5.here hx rfl (hb hby at_83) k) ?_
          show own_G p.tables e below _ (T5.setTop (mkF m 84 #[.val (.int i0), .val (.long i1), .second, .val (.long i2), .second, .val (.long i3), .second, .val (.long i4), .second, .val (.long i5), .second, .val (.long r1), .second, .val (.long r2), .second, .val (.long r3), .second, .val (.long r4), .second, .val (.long r5), .second, .val (.int z8), .val (.int z11), .val (.int z14), .unset, .unset, .unset, .unset, .unset, .unset, .unset, .unset] [(.int (0 : Int32))]))
          exact J84_16 (0 : Int32) ((own_bf (fun q => q hc76_15)).symm)
        · refine own_st (fun _ k => XS.ifNo X5.here hx rfl (hb hby at_76) rfl ((if0 _ _).trans (feq hc76_15).1) k) ?_
          show own_G p.tables e below _ (T5.setTop (mkF m 79 #[.val (.int i0), .val (.long i1), .second, .val (.long i2), .second, .val (.long i3), .second, .val (.long i4), .second, .val (.long i5), .second, .val (.long r1), .second, .val (.long r2), .second, .val (.long r3), .second, .val (.long r4), .second, .val (.long r5), .second, .val (.int z8), .val (.int z11), .val (.int z14), .unset, .unset, .unset, .unset, .unset, .unset, .unset, .unset] []))
          refine own_st (fun _ k => XS.iconst X5.here hx rfl (hb hby at_79) k) ?_
          show own_G p.tables e below _ (T5.setTop (mkF m 80 #[.val (.int i0), .val (.long i1), .second, .val (.long i2), .second, .val (.long i3), .second, .val (.long i4), .second, .val (.long i5), .second, .val (.long r1), .second, .val (.long r2), .second, .val (.long r3), .second, .val (.long r4), .second, .val (.long r5), .second, .val (.int z8), .val (.int z11), .val (.int z14), .unset, .unset, .unset, .unset, .unset, .unset, .unset, .unset] [(.int (1 : Int32))]))
          refine own_st (fun _ k => XS.goto X5.here hx rfl (pc0 := 80) (pc' := 84) rfl (hb hby at_80) (by decide) (by decide) k) ?_
          show own_G p.tables e below _ (T5.setTop (mkF m 84 #[.val (.int i0), .val (.long i1), .second, .val (.long i2), .second, .val (.long i3), .second, .val (.long i4), .second, .val (.long i5), .second, .val (.long r1), .second, .val (.long r2), .second, .val (.long r3), .second, .val (.long r4), .second, .val (.long r5), .second, .val (.int z8), .val (.int z11), .val (.int z14), .unset, .unset, .unset, .unset, .unset, .unset, .unset, .unset] [(.int (1 : Int32))]))
          exact J84_16 (1 : Int32) ((own_bt hc76_15).symm)
      by_cases hc62_12 : (i0 &&& (4 : Int32)) = (0 : Int32)
      · refine own_st (fun _ k => XS.ifYes X5.here hx rfl (pc0 := 62) (pc' := 69) rfl (hb hby at_62) rfl ((if0 _ _).trans (teq hc62_12).1) (by decide) (by decide) k) ?_
        show own_G p.tables e below _ (T5.setTop (mkF m 69 #[.val (.int i0), .val (.long i1), .second, .val (.long i2), .second, .val (.long i3), .second, .val (.long i4), .second, .val (.long i5), .second, .val (.long r1), .second, .val (.long r2), .second, .val (.long r3), .second, .val (.long r4), .second, .val (.long r5), .second, .val (.int z8), .val (.int z11), .unset, .unset, .unset, .unset, .unset, .unset, .unset, .unset, .unset] []))
        refine own_st (fun _ k => XS.iconst X5.here hx rfl (hb hby at_69) k) ?_
        show own_G p.tables e below _ (T5.setTop (mkF m 70 #[.val (.int i0), .val (.long i1), .second, .val (.long i2), .second, .val (.long i3), .second, .val (.long i4), .second, .val (.long i5), .second, .val (.long r1), .second, .val (.long r2), .second, .val (.long r3), .second, .val (.long r4), .second, .val (.long r5), .second, .val (.int z8), .val (.int z11), .unset, .unset, .unset, .unset, .unset, .unset, .unset, .unset, .unset] [(.int (0 : Int32))]))
        exact J70_13 (0 : Int32) ((own_bf (fun q => q hc62_12)).symm)
      · refine own_st (fun _ k => XS.ifNo X5.here hx rfl (hb hby at_62) rfl ((if0 _ _).trans (feq hc62_12).1) k) ?_
        show own_G p.tables e below _ (T5.setTop (mkF m 65 #[.val (.int i0), .val (.long i1), .second, .val (.long i2), .second, .val (.long i3), .second, .val (.long i4), .second, .val (.long i5), .second, .val (.long r1), .second, .val (.long r2), .second, .val (.long r3), .second, .val (.long r4), .second, .val (.long r5), .second, .val (.int z8), .val (.int z11), .unset, .unset, .unset, .unset, .unset, .unset, .unset, .unset, .unset] []))
        refine own_st (fun _ k => XS.iconst X5.here hx rfl (hb hby at_65) k) ?_
        show own_G p.tables e below _ (T5.setTop (mkF m 66 #[.val (.int i0), .val (.long i1), .second, .val (.long i2), .second, .val (.long i3), .second, .val (.long i4), .second, .val (.long i5), .second, .val (.long r1), .second, .val (.long r2), .second, .val (.long r3), .second, .val (.long r4), .second, .val (.long r5), .second, .val (.int z8), .val (.int z11), .unset, .unset, .unset, .unset, .unset, .unset, .unset, .unset, .unset] [(.int (1 : Int32))]))
        refine own_st (fun _ k => XS.goto X5.here hx rfl (pc0 := 66) (pc' := 70) rfl (hb hby at_66) (by decide) (by decide) k) ?_
        show own_G p.tables e below _ (T5.setTop (mkF m 70 #[.val (.int i0), .val (.long i1), .second, .val (.long i2), .second, .val (.long i3), .second, .val (.long i4), .second, .val (.long i5), .second, .val (.long r1), .second, .val (.long r2), .second, .val (.long r3), .second, .val (.long r4), .second, .val (.long r5), .second, .val (.int z8), .val (.int z11), .unset, .unset, .unset, .unset, .unset, .unset, .unset, .unset, .unset] [(.int (1 : Int32))]))
        exact J70_13 (1 : Int32) ((own_bt hc62_12).symm)
    by_cases hc49_9 : (i0 &&& (2 : Int32)) = (0 : Int32)
    · refine own_st (fun _ k => XS.ifYes X5.here hx rfl (pc0 := 49) (pc' := 56) rfl (hb hby at_49) rfl ((if0 _ _).trans (teq hc49_9).1) (by decide) (by decide) k) ?_
      show own_G p.tables e below _ (T5.setTop (mkF m 56 #[.val (.int i0), .val (.long i1), .second, .val (.long i2), .second, .val (.long i3), .second, .val (.long i4), .second, .val (.long i5), .second, .val (.long r1), .second, .val (.long r2), .second, .val (.long r3), .second, .val (.long r4), .second, .val (.long r5), .second, .val (.int z8), .unset, .unset, .unset, .unset, .unset, .unset, .unset, .unset, .unset, .unset] []))
      refine own_st (fun _ k => XS.iconst X5.here hx rfl (hb hby at_56) k) ?_
      show own_G p.tables e below _ (T5.setTop (mkF m 57 #[.val (.int i0), .val (.long i1), .second, .val (.long i2), .second, .val (.long i3), .second, .val (.long i4), .second, .val (.long i5), .second, .val (.long r1), .second, .val (.long r2), .second, .val (.long r3), .second, .val (.long r4), .second, .val (.long r5), .second, .val (.int z8), .unset, .unset, .unset, .unset, .unset, .unset, .unset, .unset, .unset, .unset] [(.int (0 : Int32))]))
      exact J57_10 (0 : Int32) ((own_bf (fun q => q hc49_9)).symm)
    · refine own_st (fun _ k => XS.ifNo X5.here hx rfl (hb hby at_49) rfl ((if0 _ _).trans (feq hc49_9).1) k) ?_
      show own_G p.tables e below _ (T5.setTop (mkF m 52 #[.val (.int i0), .val (.long i1), .second, .val (.long i2), .second, .val (.long i3), .second, .val (.long i4), .second, .val (.long i5), .second, .val (.long r1), .second, .val (.long r2), .second, .val (.long r3), .second, .val (.long r4), .second, .val (.long r5), .second, .val (.int z8), .unset, .unset, .unset, .unset, .unset, .unset, .unset, .unset, .unset, .unset] []))
      refine own_st (fun _ k => XS.iconst X5.here hx rfl (hb hby at_52) k) ?_
      show own_G p.tables e below _ (T5.setTop (mkF m 53 #[.val (.int i0), .val (.long i1), .second, .val (.long i2), .second, .val (.long i3), .second, .val (.long i4), .second, .val (.long i5), .second, .val (.long r1), .second, .val (.long r2), .second, .val (.long r3), .second, .val (.long r4), .second, .val (.long r5), .second, .val (.int z8), .unset, .unset, .unset, .unset, .unset, .unset, .unset, .unset, .unset, .unset] [(.int (1 : Int32))]))
      refine own_st (fun _ k => XS.goto X5.here hx rfl (pc0 := 53) (pc' := 57) rfl (hb hby at_53) (by decide) (by decide) k) ?_
      show own_G p.tables e below _ (T5.setTop (mkF m 57 #[.val (.int i0), .val (.long i1), .second, .val (.long i2), .second, .val (.long i3), .second, .val (.long i4), .second, .val (.long i5), .second, .val (.long r1), .second, .val (.long r2), .second, .val (.long r3), .second, .val (.long r4), .second, .val (.long r5), .second, .val (.int z8), .unset, .unset, .unset, .unset, .unset, .unset, .unset, .unset, .unset, .unset] [(.int (1 : Int32))]))
      exact J57_10 (1 : Int32) ((own_bt hc49_9).symm)
  by_cases hc36_6 : (i0 &&& (1 : Int32)) = (0 : Int32)
  · refine own_st (fun _ k => XS.ifYes X5.here hx rfl (pc0 := 36) (pc' := 43) rfl (hb hby at_36) rfl ((if0 _ _).trans (teq hc36_6).1) (by decide) (by decide) k) ?_
    show own_G p.tables e below _ (T5.setTop (mkF m 43 #[.val (.int i0), .val (.long i1), .second, .val (.long i2), .second, .val (.long i3), .second, .val (.long i4), .second, .val (.long i5), .second, .val (.long r1), .second, .val (.long r2), .second, .val (.long r3), .second, .val (.long r4), .second, .val (.long r5), .second, .unset, .unset, .unset, .unset, .unset, .unset, .unset, .unset, .unset, .unset, .unset] []))
    refine own_st (fun _ k => XS.iconst X5.here hx rfl (hb hby at_43) k) ?_
    show own_G p.tables e below _ (T5.setTop (mkF m 44 #[.val (.int i0), .val (.long i1), .second, .val (.long i2), .second, .val (.long i3), .second, .val (.long i4), .second, .val (.long i5), .second, .val (.long r1), .second, .val (.long r2), .second, .val (.long r3), .second, .val (.long r4), .second, .val (.long r5), .second, .unset, .unset, .unset, .unset, .unset, .unset, .unset, .unset, .unset, .unset, .unset] [(.int (0 : Int32))]))
    exact J44_7 (0 : Int32) ((own_bf (fun q => q hc36_6)).symm)
  · refine own_st (fun _ k => XS.ifNo X5.here hx rfl (hb hby at_36) rfl ((if0 _ _).trans (feq hc36_6).1) k) ?_
    show own_G p.tables e below _ (T5.setTop (mkF m 39 #[.val (.int i0), .val (.long i1), .second, .val (.long i2), .second, .val (.long i3), .second, .val (.long i4), .second, .val (.long i5), .second, .val (.long r1), .second, .val (.long r2), .second, .val (.long r3), .second, .val (.long r4), .second, .val (.long r5), .second, .unset, .unset, .unset, .unset, .unset, .unset, .unset, .unset, .unset, .unset, .unset] []))
    refine own_st (fun _ k => XS.iconst X5.here hx rfl (hb hby at_39) k) ?_
    show own_G p.tables e below _ (T5.setTop (mkF m 40 #[.val (.int i0), .val (.long i1), .second, .val (.long i2), .second, .val (.long i3), .second, .val (.long i4), .second, .val (.long i5), .second, .val (.long r1), .second, .val (.long r2), .second, .val (.long r3), .second, .val (.long r4), .second, .val (.long r5), .second, .unset, .unset, .unset, .unset, .unset, .unset, .unset, .unset, .unset, .unset, .unset] [(.int (1 : Int32))]))
    refine own_st (fun _ k => XS.goto X5.here hx rfl (pc0 := 40) (pc' := 44) rfl (hb hby at_40) (by decide) (by decide) k) ?_
    show own_G p.tables e below _ (T5.setTop (mkF m 44 #[.val (.int i0), .val (.long i1), .second, .val (.long i2), .second, .val (.long i3), .second, .val (.long i4), .second, .val (.long i5), .second, .val (.long r1), .second, .val (.long r2), .second, .val (.long r3), .second, .val (.long r4), .second, .val (.long r5), .second, .unset, .unset, .unset, .unset, .unset, .unset, .unset, .unset, .unset, .unset, .unset] [(.int (1 : Int32))]))
    exact J44_7 (1 : Int32) ((own_bt hc36_6).symm)
set_option maxRecDepth 65536 in
set_option maxHeartbeats 40000000 in
theorem comes_1 {Post : Tables → Env → Array Value → State → Outcome → State → Prop} (hpost : ∀ tb e args s v u, (limb_1_1.after args s (.returned v) u = true ∧ limb_1_2.after args s (.returned v) u = true ∧ True) → FrameEnd s (.returned v) u (Jvm.fieldLocs frame_1_writes args s ++ Jvm.arrayLocs frame_1_arrays args s ++ Jvm.staticLocs frame_1_statics s) 16 128 → Post tb e args s (.returned v) u) :
    ArmFor flags0 classFile x code maxLocals ret World_1 tables_1 room_1 Calls_1 rest_1 Pre_1 Post := by
  intro l hfl _ _ p e ha hc hk s m args below hf hA hF happ hP
  obtain ⟨hcalls, hrest, hpre⟩ := hP
  obtain ⟨-, -, -, hnamed, -, -, -, hat⟩ := (Spec.applies_iff hf).mp happ
  obtain ⟨hg, hn⟩ := and_e (Cond.before_iff.mp (show (Jvm.Cond.and given_1 narrow_1).before args s = true from hpre))
  obtain ⟨gc, g0⟩ := and_e hg
  obtain ⟨ga0, g1⟩ := and_e g0
  obtain ⟨ga1, g2⟩ := and_e g1
  obtain ⟨ga2, g3⟩ := and_e g2
  obtain ⟨ga3, g4⟩ := and_e g3
  obtain ⟨ga4, g5⟩ := and_e g4
  obtain ⟨w0, w1, w2, w3, w4, w5, rfl⟩ : ∃ w0 w1 w2 w3 w4 w5 : Value, args = #[w0, w1, w2, w3, w4, w5] := by
    have hs : args.size = 6 := by simpa [Cond.value, given_1] using gc
    obtain ⟨L⟩ := args
    match L, hs with
    | [w0, w1, w2, w3, w4, w5], _ => exact ⟨w0, w1, w2, w3, w4, w5, rfl⟩
  have hw := fun d (hd : d ∈ tables_1) => atoms_spec (ws := Jvm.Cond.code x code maxLocals ret :: tables_1) hat d (List.mem_cons_of_mem _ hd)
  have hfit : Fit s := fun {y c} hc i hi => by
    obtain ⟨ha, rfl⟩ := Array.getElem?_eq_some_iff.mp hc
    have q := List.all_eq_true.mp ((Array.all_eq_true_iff_forall_mem.mp hF) _ (Array.getElem_mem ha)) i (List.mem_range.mpr hi)
    simpa [Array.getElem?_eq_getElem hi] using q
  obtain ⟨i0, ei0⟩ := is_v ga0
  obtain rfl : w0 = (.int i0) := Option.some.inj ei0
  obtain ⟨i1, ei1⟩ := isL_v ga1
  obtain rfl : w1 = (.long i1) := Option.some.inj ei1
  obtain ⟨i2, ei2⟩ := isL_v ga2
  obtain rfl : w2 = (.long i2) := Option.some.inj ei2
  obtain ⟨i3, ei3⟩ := isL_v ga3
  obtain rfl : w3 = (.long i3) := Option.some.inj ei3
  obtain ⟨i4, ei4⟩ := isL_v ga4
  obtain rfl : w4 = (.long i4) := Option.some.inj ei4
  obtain ⟨i5, ei5⟩ := isL_v g5
  obtain rfl : w5 = (.long i5) := Option.some.inj ei5
  obtain ⟨n, o, h1, h2, h3, _, L, rfl, ⟨rfl, N⟩, hq⟩ := rm0 l s _ hw tables_1 i0 i1 i2 i3 i4 i5  s.heap s.heap.size (Nat.le_refl _)   p e ha hc hk s m _ below hf ((Spec.applies_iff_loose hf).mp happ).1 ⟨rfl, State.Warmed39.refl s, rfl⟩ trivial
  refine ⟨n, _, h1, h2, h3, hpost _ _ _ _ _ _ ⟨Cond.after_iff.mpr rfl, Cond.after_iff.mpr (eq_i res_at (Term.int_eval (1)) rfl), trivial⟩ ⟨hq.1, hq.2.1, (hq.2.2.sift fun y hy => Or.inr (N y hy)).mono (by decide) (by decide)⟩⟩
theorem main_1_1 : Claimed_1_1 := comes_1 fun _ _ _ _ _ _ h hF => ⟨h.1, hF⟩
theorem main_1_2 : Claimed_1_2 := comes_1 fun _ _ _ _ _ _ h hF => ⟨h.2.1, hF⟩
end Jvm.Pilot.@@N@@
namespace Jvm.Pilot.@@N@@
open Jvm Jvm.ClassFile Sem Op Lib Jvm.Free Jvm.Stand Jvm.Pilot.@@N@@.Jvm.D
/-! MADE BY PROGRAM (witnessworld.py) out of the Statement's table words and the real class files: 14 classes; the members and pool entries that the words name. The judged class is class 1, her method 2. -/
namespace start1
open Jvm.ClassFile
def u (s : String) : CpInfo := .utf8 (stringToUtf16 s)
/-- a pool by its gaps: so many unusable entries, then the entry; so many at the end -/
def gap : Nat → List CpInfo → List CpInfo
  | 0, r => r
  | n + 1, r => .unusable :: gap n r
def poolList (es : List (Nat × CpInfo)) (last : Nat) : List CpInfo := es.foldr (fun e r => gap e.1 (e.2 :: r)) (gap last [])
def pool (es : List (Nat × CpInfo)) (last : Nat) : Array CpInfo := ⟨poolList es last⟩
def fileOf (pool : Array CpInfo) (this : Nat) (attrs : Array Attribute := #[]) (ms : Array MethodInfo := #[]) (fl : Nat := 33) (sup : Nat := 0) (ifs : Array Nat := #[]) (fds : Array FieldInfo := #[]) : ClassFile where
  minorVersion := 0
  majorVersion := 65
  constantPool := pool
  accessFlags := fl
  thisClass := this
  superClass := sup
  interfaces := ifs
  fields := fds
  methods := ms
  attributes := attrs
def plain (name : String) (sup : Option ClassId) : Class where
  name := name
  kind := .ordinary
  loader := none
  accessFlags := 33
  super := sup
  interfaces := #[]
  cf := none
  fields := #[]
  methods := #[]
  instanceTypes := #[]
  staticTypes := #[]
  resolved := #[]
  callSites := []
  init := .initialized
  statics := none
  mirror := none

def pool0 : Array CpInfo := pool [(5, u "<init>"), (0, u "()V"), (1, .class_ 10), (1, u "java/lang/Object")] 113

def k0c0 : Code := { maxStack := 0, maxLocals := 1, code := object_method_1_code, exceptionTable := #[], attributes := #[] }
def k0m0 : Method := { name := "<init>", desc := "()V", sig := { parameters := [], returnType := none }, accessFlags := 1, code := some k0c0 }
/-- java/lang/Object -/
def k0 : Class := { plain "java/lang/Object" none with
  accessFlags := 33
  interfaces := #[]
  cf := some (fileOf pool0 8 #[] #[{ accessFlags := 1, nameIndex := 5, descriptorIndex := 6, attributes := #[] }] 33 0 #[] #[])
  fields := #[]
  methods := #[k0m0]
  instanceTypes := #[]
  staticTypes := #[]
  resolved := Array.replicate 124 none
  statics := none }

def pool1 : Array CpInfo := pool [(2, .class_ 4), (1, u "java/lang/Object"), (0, u "<init>"), (0, u "()V"), (2, .long 9223372036854775808), (1, .methodref 12 13), (0, .class_ 14), (0, .nameAndType 15 16), (0, u "com/example/funnel/funnel/relay/BacklogFoundPinLaw"), (0, u "t"), (0, u "(J)J"), (0, .class_ 18), (0, u "com/example/funnel/funnel/relay/Backlog"), (0, .methodref 17 20), (0, .nameAndType 5 21), (0, u "(I)V"), (0, .methodref 17 23), (0, .nameAndType 24 25), (0, u "found"), (0, u "(JJ)V"), (0, .methodref 17 27), (0, .nameAndType 28 6), (0, u "unwatched"), (0, .methodref 17 30), (0, .nameAndType 31 6), (0, u "emptied"), (0, .long 7), (1, .methodref 17 35), (0, .nameAndType 36 37), (0, u "accepted"), (0, u "(JJ)Lcom/example/funnel/funnel/relay/Backlog$Wait;"), (0, .methodref 39 40), (0, .class_ 41), (0, .nameAndType 42 43), (0, u "com/example/funnel/funnel/relay/Backlog$Wait"), (0, u "earliest"), (0, u "()J"), (0, .methodref 39 45), (0, .nameAndType 46 43), (0, u "surely"), (3, u "law"), (0, u "(IJJJJJ)Z")] 4

def k1m0 : Method := { name := "<init>", desc := "()V", sig := { parameters := [], returnType := none }, accessFlags := 1, code := none }
def k1c1 : Code := { maxStack := 4, maxLocals := 2, code := method_2_code, exceptionTable := #[], attributes := #[] }
def k1m1 : Method := { name := "t", desc := "(J)J", sig := { parameters := [.long], returnType := some .long }, accessFlags := 10, code := some k1c1 }
def k1c2 : Code := { maxStack := 5, maxLocals := 32, code := code, exceptionTable := #[], attributes := #[] }
def k1m2 : Method := { name := "law", desc := "(IJJJJJ)Z", sig := { parameters := [.int, .long, .long, .long, .long, .long], returnType := some .boolean }, accessFlags := 9, code := some k1c2 }
/-- com/example/funnel/funnel/relay/BacklogFoundPinLaw -/
def k1 : Class := { plain "com/example/funnel/funnel/relay/BacklogFoundPinLaw" (some 0) with
  accessFlags := 49
  interfaces := #[]
  cf := some (fileOf pool1 12 #[] #[{ accessFlags := 1, nameIndex := 5, descriptorIndex := 6, attributes := #[] }, { accessFlags := 10, nameIndex := 15, descriptorIndex := 16, attributes := #[] }, { accessFlags := 9, nameIndex := 50, descriptorIndex := 51, attributes := #[] }] 49 2 #[] #[])
  fields := #[]
  methods := #[k1m0, k1m1, k1m2]
  instanceTypes := #[]
  staticTypes := #[]
  resolved := Array.replicate 56 none
  statics := none }

def pool2 : Array CpInfo := pool [(3, .methodref 4 5), (0, .class_ 6), (0, .nameAndType 7 8), (0, u "java/lang/Object"), (0, u "<init>"), (0, u "()V"), (0, .class_ 10), (0, u "com/example/funnel/funnel/relay/Backlog"), (0, .long 9223372036854775808), (1, .fieldref 9 14), (0, .nameAndType 15 16), (0, u "since"), (0, u "J"), (0, .fieldref 9 18), (0, .nameAndType 19 16), (0, u "firstFoundAt"), (0, .fieldref 9 21), (0, .nameAndType 22 23), (0, u "acceptStarts"), (0, u "[J"), (0, .fieldref 9 25), (0, .nameAndType 26 27), (0, u "unwatched"), (0, u "Z"), (0, .fieldref 9 29), (0, .nameAndType 30 16), (0, u "foundAt"), (0, .fieldref 9 32), (0, .nameAndType 33 16), (0, u "accepts"), (0, .class_ 35), (0, u "com/example/funnel/funnel/relay/Backlog$Wait"), (0, .methodref 37 38), (0, .class_ 39), (0, .nameAndType 40 41), (0, u "java/lang/Math"), (0, u "max"), (0, u "(JJ)J"), (0, .methodref 34 43), (0, .nameAndType 7 44), (0, u "(JJ)V"), (0, u "NONE"), (1, u "(I)V"), (2, u "found"), (1, u "emptied"), (0, u "accepted"), (0, u "(JJ)Lcom/example/funnel/funnel/relay/Backlog$Wait;")] 5

def k2c0 : Code := { maxStack := 3, maxLocals := 2, code := prog_35_method_1_code, exceptionTable := #[], attributes := #[] }
def k2m0 : Method := { name := "<init>", desc := "(I)V", sig := { parameters := [.int], returnType := none }, accessFlags := 0, code := some k2c0 }
def k2c1 : Code := { maxStack := 4, maxLocals := 6, code := prog_35_method_2_code, exceptionTable := #[], attributes := #[] }
def k2m1 : Method := { name := "found", desc := "(JJ)V", sig := { parameters := [.long, .long], returnType := none }, accessFlags := 0, code := some k2c1 }
def k2c2 : Code := { maxStack := 2, maxLocals := 1, code := prog_35_method_3_code, exceptionTable := #[], attributes := #[] }
def k2m2 : Method := { name := "unwatched", desc := "()V", sig := { parameters := [], returnType := none }, accessFlags := 0, code := some k2c2 }
def k2c3 : Code := { maxStack := 3, maxLocals := 1, code := prog_35_method_4_code, exceptionTable := #[], attributes := #[] }
def k2m3 : Method := { name := "emptied", desc := "()V", sig := { parameters := [], returnType := none }, accessFlags := 0, code := some k2c3 }
def k2c4 : Code := { maxStack := 6, maxLocals := 10, code := prog_35_method_5_code, exceptionTable := #[], attributes := #[] }
def k2m4 : Method := { name := "accepted", desc := "(JJ)Lcom/example/funnel/funnel/relay/Backlog$Wait;", sig := { parameters := [.long, .long], returnType := some (.object "com/example/funnel/funnel/relay/Backlog$Wait") }, accessFlags := 0, code := some k2c4 }
/-- com/example/funnel/funnel/relay/Backlog -/
def k2 : Class := { plain "com/example/funnel/funnel/relay/Backlog" (some 0) with
  accessFlags := 48
  interfaces := #[]
  cf := some (fileOf pool2 9 #[.nestMembers #[34]] #[{ accessFlags := 0, nameIndex := 7, descriptorIndex := 47, attributes := #[] }, { accessFlags := 0, nameIndex := 50, descriptorIndex := 44, attributes := #[] }, { accessFlags := 0, nameIndex := 26, descriptorIndex := 8, attributes := #[] }, { accessFlags := 0, nameIndex := 52, descriptorIndex := 8, attributes := #[] }, { accessFlags := 0, nameIndex := 53, descriptorIndex := 54, attributes := #[] }] 48 4 #[] #[{ accessFlags := 26, nameIndex := 45, descriptorIndex := 16, attributes := #[] }, { accessFlags := 18, nameIndex := 22, descriptorIndex := 23, attributes := #[] }, { accessFlags := 2, nameIndex := 33, descriptorIndex := 16, attributes := #[] }, { accessFlags := 2, nameIndex := 15, descriptorIndex := 16, attributes := #[] }, { accessFlags := 2, nameIndex := 30, descriptorIndex := 16, attributes := #[] }, { accessFlags := 2, nameIndex := 26, descriptorIndex := 27, attributes := #[] }, { accessFlags := 2, nameIndex := 19, descriptorIndex := 16, attributes := #[] }])
  fields := #[{ name := "NONE", type := .long, accessFlags := 26, slot := 0, constantValue := 0 }, { name := "acceptStarts", type := (.array .long), accessFlags := 18, slot := 0, constantValue := 0 }, { name := "accepts", type := .long, accessFlags := 2, slot := 1, constantValue := 0 }, { name := "since", type := .long, accessFlags := 2, slot := 2, constantValue := 0 }, { name := "foundAt", type := .long, accessFlags := 2, slot := 3, constantValue := 0 }, { name := "unwatched", type := .boolean, accessFlags := 2, slot := 4, constantValue := 0 }, { name := "firstFoundAt", type := .long, accessFlags := 2, slot := 5, constantValue := 0 }]
  methods := #[k2m0, k2m1, k2m2, k2m3, k2m4]
  instanceTypes := #[(.array .long), .long, .long, .long, .boolean, .long]
  staticTypes := #[.long]
  resolved := Array.replicate 60 none
  statics := none }

def pool3 : Array CpInfo := pool [(1, .methodref 2 3), (0, .class_ 4), (0, .nameAndType 5 6), (0, u "java/lang/Object"), (0, u "<init>"), (0, u "()V"), (0, .class_ 8), (0, u "java/lang/Record")] 13

def k3c0 : Code := { maxStack := 1, maxLocals := 1, code := jdk_30_method_1_code, exceptionTable := #[], attributes := #[] }
def k3m0 : Method := { name := "<init>", desc := "()V", sig := { parameters := [], returnType := none }, accessFlags := 4, code := some k3c0 }
/-- java/lang/Record -/
def k3 : Class := { plain "java/lang/Record" (some 0) with
  accessFlags := 1057
  interfaces := #[]
  cf := some (fileOf pool3 7 #[] #[{ accessFlags := 4, nameIndex := 5, descriptorIndex := 6, attributes := #[] }] 1057 2 #[] #[])
  fields := #[]
  methods := #[k3m0]
  instanceTypes := #[]
  staticTypes := #[]
  resolved := Array.replicate 22 none
  statics := none }

def pool4 : Array CpInfo := pool [(1, .methodref 2 3), (0, .class_ 4), (0, .nameAndType 5 6), (0, u "java/lang/Record"), (0, u "<init>"), (0, u "()V"), (0, .fieldref 8 9), (0, .class_ 10), (0, .nameAndType 11 12), (0, u "com/example/funnel/funnel/relay/Backlog$Wait"), (0, u "earliest"), (0, u "J"), (0, .fieldref 8 14), (0, .nameAndType 15 12), (0, u "surely"), (12, u "(JJ)V"), (6, u "()J"), (3, .class_ 40), (0, u "com/example/funnel/funnel/relay/Backlog")] 20

def k4c0 : Code := { maxStack := 3, maxLocals := 5, code := prog_36_method_1_code, exceptionTable := #[], attributes := #[] }
def k4m0 : Method := { name := "<init>", desc := "(JJ)V", sig := { parameters := [.long, .long], returnType := none }, accessFlags := 0, code := some k4c0 }
def k4c1 : Code := { maxStack := 2, maxLocals := 1, code := prog_36_method_5_code, exceptionTable := #[], attributes := #[] }
def k4m1 : Method := { name := "earliest", desc := "()J", sig := { parameters := [], returnType := some .long }, accessFlags := 1, code := some k4c1 }
def k4c2 : Code := { maxStack := 2, maxLocals := 1, code := prog_36_method_6_code, exceptionTable := #[], attributes := #[] }
def k4m2 : Method := { name := "surely", desc := "()J", sig := { parameters := [], returnType := some .long }, accessFlags := 1, code := some k4c2 }
/-- com/example/funnel/funnel/relay/Backlog$Wait -/
def k4 : Class := { plain "com/example/funnel/funnel/relay/Backlog$Wait" (some 3) with
  accessFlags := 48
  interfaces := #[]
  cf := some (fileOf pool4 8 #[.nestHost 39] #[{ accessFlags := 0, nameIndex := 5, descriptorIndex := 28, attributes := #[] }, { accessFlags := 1, nameIndex := 11, descriptorIndex := 35, attributes := #[] }, { accessFlags := 1, nameIndex := 15, descriptorIndex := 35, attributes := #[] }] 48 2 #[] #[{ accessFlags := 18, nameIndex := 11, descriptorIndex := 12, attributes := #[] }, { accessFlags := 18, nameIndex := 15, descriptorIndex := 12, attributes := #[] }])
  fields := #[{ name := "earliest", type := .long, accessFlags := 18, slot := 0, constantValue := 0 }, { name := "surely", type := .long, accessFlags := 18, slot := 1, constantValue := 0 }]
  methods := #[k4m0, k4m1, k4m2]
  instanceTypes := #[.long, .long]
  staticTypes := #[]
  resolved := Array.replicate 61 none
  statics := none }

def pool5 : Array CpInfo := pool [(1, .class_ 2), (0, u "java/lang/Math"), (1, .class_ 6), (1, u "java/lang/Object"), (0, u "<init>"), (0, u "()V"), (89, .class_ 100), (1, u "java/lang/Math$RandomNumberGeneratorHolder"), (20, u "(JJ)J"), (50, u "negativeZeroFloatBits"), (0, u "J"), (2, u "negativeZeroDoubleBits"), (21, u "max"), (46, u "$assertionsDisabled"), (0, u "Z"), (91, u "twoToTheDoubleScaleDown"), (0, u "D"), (4, u "twoToTheDoubleScaleUp"), (9, u "E"), (3, u "PI"), (2, u "TAU"), (2, u "DEGREES_TO_RADIANS"), (0, u "RADIANS_TO_DEGREES")] 94

def k5m0 : Method := { name := "<init>", desc := "()V", sig := { parameters := [], returnType := none }, accessFlags := 2, code := none }
def k5c1 : Code := { maxStack := 4, maxLocals := 4, code := jdk_29_method_66_code, exceptionTable := #[], attributes := #[] }
def k5m1 : Method := { name := "max", desc := "(JJ)J", sig := { parameters := [.long, .long], returnType := some .long }, accessFlags := 9, code := some k5c1 }
/-- java/lang/Math -/
def k5 : Class := { plain "java/lang/Math" (some 0) with
  accessFlags := 49
  interfaces := #[]
  cf := some (fileOf pool5 1 #[.nestMembers #[98]] #[{ accessFlags := 2, nameIndex := 7, descriptorIndex := 8, attributes := #[] }, { accessFlags := 9, nameIndex := 198, descriptorIndex := 121, attributes := #[] }] 49 4 #[] #[{ accessFlags := 25, nameIndex := 354, descriptorIndex := 339, attributes := #[] }, { accessFlags := 25, nameIndex := 358, descriptorIndex := 339, attributes := #[] }, { accessFlags := 25, nameIndex := 361, descriptorIndex := 339, attributes := #[] }, { accessFlags := 26, nameIndex := 364, descriptorIndex := 339, attributes := #[] }, { accessFlags := 26, nameIndex := 365, descriptorIndex := 339, attributes := #[] }, { accessFlags := 26, nameIndex := 172, descriptorIndex := 173, attributes := #[] }, { accessFlags := 26, nameIndex := 176, descriptorIndex := 173, attributes := #[] }, { accessFlags := 8, nameIndex := 344, descriptorIndex := 339, attributes := #[] }, { accessFlags := 8, nameIndex := 338, descriptorIndex := 339, attributes := #[] }, { accessFlags := 4120, nameIndex := 245, descriptorIndex := 246, attributes := #[] }])
  fields := #[{ name := "E", type := .double, accessFlags := 25, slot := 0, constantValue := 0 }, { name := "PI", type := .double, accessFlags := 25, slot := 1, constantValue := 0 }, { name := "TAU", type := .double, accessFlags := 25, slot := 2, constantValue := 0 }, { name := "DEGREES_TO_RADIANS", type := .double, accessFlags := 26, slot := 3, constantValue := 0 }, { name := "RADIANS_TO_DEGREES", type := .double, accessFlags := 26, slot := 4, constantValue := 0 }, { name := "negativeZeroFloatBits", type := .long, accessFlags := 26, slot := 5, constantValue := 0 }, { name := "negativeZeroDoubleBits", type := .long, accessFlags := 26, slot := 6, constantValue := 0 }, { name := "twoToTheDoubleScaleUp", type := .double, accessFlags := 8, slot := 7, constantValue := 0 }, { name := "twoToTheDoubleScaleDown", type := .double, accessFlags := 8, slot := 8, constantValue := 0 }, { name := "$assertionsDisabled", type := .boolean, accessFlags := 4120, slot := 9, constantValue := 0 }]
  methods := #[k5m0, k5m1]
  instanceTypes := #[]
  staticTypes := #[.double, .double, .double, .double, .double, .long, .long, .double, .double, .boolean]
  resolved := Array.replicate 460 none
  statics := none }

def pool6 : Array CpInfo := pool [(1, u "java/lang/Cloneable"), (0, .class_ 1), (0, u "java/lang/Object"), (0, .class_ 3)] 3

/-- java/lang/Cloneable -/
def k6 : Class := { plain "java/lang/Cloneable" (some 0) with
  accessFlags := 1537
  interfaces := #[]
  cf := some (fileOf pool6 2 #[] #[] 1537 4 #[] #[])
  fields := #[]
  methods := #[]
  instanceTypes := #[]
  staticTypes := #[]
  resolved := Array.replicate 8 none
  statics := none }

def pool7 : Array CpInfo := pool [(1, u "java/io/Serializable"), (0, .class_ 1), (0, u "java/lang/Object"), (0, .class_ 3)] 3

/-- java/io/Serializable -/
def k7 : Class := { plain "java/io/Serializable" (some 0) with
  accessFlags := 1537
  interfaces := #[]
  cf := some (fileOf pool7 2 #[] #[] 1537 4 #[] #[])
  fields := #[]
  methods := #[]
  instanceTypes := #[]
  staticTypes := #[]
  resolved := Array.replicate 8 none
  statics := none }

/-- the primitive byte -/
def k8 : Class := { plain "byte" none with kind := .primitive 'B', accessFlags := 0x411 }
/-- [B -/
def k9 : Class := { plain "[B" (some 0) with kind := .array 8 .byte, interfaces := #[6, 7], accessFlags := 1041 }

/-- the primitive int -/
def k10 : Class := { plain "int" none with kind := .primitive 'I', accessFlags := 0x411 }
/-- [I -/
def k11 : Class := { plain "[I" (some 0) with kind := .array 10 .int, interfaces := #[6, 7], accessFlags := 1041 }

/-- the primitive long -/
def k12 : Class := { plain "long" none with kind := .primitive 'J', accessFlags := 0x411 }
/-- [J -/
def k13 : Class := { plain "[J" (some 0) with kind := .array 12 .long, interfaces := #[6, 7], accessFlags := 1041 }

def heap : Heap := #[]
def classes : Array Class := #[k0, k1, k2, k3, k4, k5, k6, k7, k8, k9, k10, k11, k12, k13]
def interned : List (Array UInt16 × Addr) := []
def slotsUsed : Nat := 0
def theMethod : MethodId := ⟨1, 2⟩
def args0 : Array Value := #[.int 5, .long 5, .long 5, .long 5, .long 5, .long 5]
def aboutOver (below : List Frame) : State where
  vm := { classes := classes, interned := interned.toArray }
  heap := heap
  slotsUsed := slotsUsed
  threads := #[{ frames := .invoking theMethod args0 :: below }]
def below0 : List Frame := [.native { method := ⟨0, 0⟩, args := #[] }]
def about1 : State := aboutOver below0
def p0 : Program := .bare "" "" ""
def e0 : Env := launch0.env 0 0 0
theorem w_frames : about1.frames = Frame.invoking theMethod args0 :: below0 := rfl
set_option maxRecDepth 65536 in
theorem w_args : argsFit about1.vm theMethod args0 = true := by decide +kernel
set_option maxRecDepth 65536 in
theorem w_heap : heapFits about1 = true := by decide +kernel
set_option maxRecDepth 65536 in
theorem w_runnable : about1.curStatus? = some .runnable := by decide +kernel
set_option maxRecDepth 65536 in
theorem w_alone : about1.alone = true := by decide +kernel
set_option maxRecDepth 65536 in
theorem w_named : about1.methodNamed? x = some theMethod := by decide +kernel
set_option maxRecDepth 65536 in
theorem w_hears : about1.hears theMethod below0 = true := by decide +kernel
set_option maxRecDepth 65536 in
theorem w_ripe : about1.ripe theMethod args0 below0 = true := by decide +kernel
theorem w_running : about1.status = .running := rfl
set_option maxRecDepth 65536 in
theorem w_room : about1.hasRoom e0.platform room_1 = true :=
  launch0.hasRoom_least _ room_1 (by decide +kernel) (by decide +kernel) (by decide +kernel) (by decide +kernel) (by decide +kernel) (by decide +kernel)
theorem allAtoms_all (ts : List Jvm.Cond) (a : Array Jvm.Value) (st : Jvm.State) : (allAtoms ts).before a st = ts.all (fun c => c.before a st) := by
  induction ts with
  | nil => rfl
  | cons c t ih =>
    show (Jvm.Cond.and c (allAtoms t)).before a st = _
    rw [Jvm.Cond.before_and, ih, List.all_cons]
def words1 : List Jvm.Cond := Jvm.Cond.code x code maxLocals ret :: tables_1
/-- a 'code' word, met by the world's own term for the bytes: nothing is compared byte by byte -/
theorem code_word {y : MethodName} {bytes : ByteArray} {mx : Nat} {rt : Option FieldType} {a : Array Value} {s : State} {m : MethodId} {meth : Method} {c : Code} (h1 : s.methodNamed? y = some m) (h2 : s.vm.method? m = some meth) (h3 : meth.code = some c) (h4 : c.code = bytes)
    (h5 : (c.maxLocals == mx && c.exceptionTable.isEmpty && decide (c.maxStack ≤ mostOperands) && decide (meth.sig.returnType = rt) && !meth.locks && decide (parseMethodDescriptor y.desc = some meth.sig)) = true) : (Jvm.Cond.code y bytes mx rt).before a s = true := by
  simp only [Bool.and_eq_true, beq_iff_eq, Bool.not_eq_true', decide_eq_true_eq] at h5
  obtain ⟨⟨⟨⟨⟨g1, g2⟩, g3⟩, g4⟩, g5⟩, g6⟩ := h5
  simp [Cond.before, Cond.holds, Cond.value, h1, h2, h3, h4, g1, g2, g3, g4, g5, g6]
def isCode : Jvm.Cond → Bool
  | .code _ _ _ _ => true
  | _ => false
theorem all_split {L : List Jvm.Cond} {P : Jvm.Cond → Bool} (h1 : L.all (fun c => isCode c || P c) = true) (h2 : ∀ c ∈ L.filter isCode, P c = true) : L.all P = true := by
  refine List.all_eq_true.mpr fun c hc => ?_
  have h := List.all_eq_true.mp h1 c hc
  rcases Bool.eq_false_or_eq_true (isCode c) with hi | hi
  · exact h2 c (List.mem_filter.mpr ⟨hc, hi⟩)
  · simpa [hi] using h
set_option maxRecDepth 65536 in
theorem w_c0 : (Jvm.Cond.code x code maxLocals ret).before args0 about1 = true := code_word (m := ⟨1, 2⟩) (meth := k1m2) (c := k1c2) (by decide +kernel) rfl rfl rfl (by decide +kernel)
set_option maxRecDepth 65536 in
theorem w_c1 : (Jvm.Cond.code ({ cls := "com/example/funnel/funnel/relay/BacklogFoundPinLaw", name := "t", desc := "(J)J" } : Jvm.MethodName) method_2_code (2 : Nat) (Option.some Jvm.ClassFile.FieldType.long)).before args0 about1 = true := code_word (m := ⟨1, 1⟩) (meth := k1m1) (c := k1c1) (by decide +kernel) rfl rfl rfl (by decide +kernel)
set_option maxRecDepth 65536 in
theorem w_c2 : (Jvm.Cond.code ({ cls := "com/example/funnel/funnel/relay/Backlog", name := "<init>", desc := "(I)V" } : Jvm.MethodName) prog_35_method_1_code (2 : Nat) (Option.none : Option Jvm.ClassFile.FieldType)).before args0 about1 = true := code_word (m := ⟨2, 0⟩) (meth := k2m0) (c := k2c0) (by decide +kernel) rfl rfl rfl (by decide +kernel)
set_option maxRecDepth 65536 in
theorem w_c3 : (Jvm.Cond.code ({ cls := "java/lang/Object", name := "<init>", desc := "()V" } : Jvm.MethodName) object_method_1_code (1 : Nat) (Option.none : Option Jvm.ClassFile.FieldType)).before args0 about1 = true := code_word (m := ⟨0, 0⟩) (meth := k0m0) (c := k0c0) (by decide +kernel) rfl rfl rfl (by decide +kernel)
set_option maxRecDepth 65536 in
theorem w_c4 : (Jvm.Cond.code ({ cls := "com/example/funnel/funnel/relay/Backlog", name := "found", desc := "(JJ)V" } : Jvm.MethodName) prog_35_method_2_code (6 : Nat) (Option.none : Option Jvm.ClassFile.FieldType)).before args0 about1 = true := code_word (m := ⟨2, 1⟩) (meth := k2m1) (c := k2c1) (by decide +kernel) rfl rfl rfl (by decide +kernel)
set_option maxRecDepth 65536 in
theorem w_c5 : (Jvm.Cond.code ({ cls := "com/example/funnel/funnel/relay/Backlog", name := "accepted", desc := "(JJ)Lcom/example/funnel/funnel/relay/Backlog$Wait;" } : Jvm.MethodName) prog_35_method_5_code (10 : Nat) (Option.some (Jvm.ClassFile.FieldType.object "com/example/funnel/funnel/relay/Backlog$Wait"))).before args0 about1 = true := code_word (m := ⟨2, 4⟩) (meth := k2m4) (c := k2c4) (by decide +kernel) rfl rfl rfl (by decide +kernel)
set_option maxRecDepth 65536 in
theorem w_c6 : (Jvm.Cond.code ({ cls := "java/lang/Math", name := "max", desc := "(JJ)J" } : Jvm.MethodName) jdk_29_method_66_code (4 : Nat) (Option.some Jvm.ClassFile.FieldType.long)).before args0 about1 = true := code_word (m := ⟨5, 1⟩) (meth := k5m1) (c := k5c1) (by decide +kernel) rfl rfl rfl (by decide +kernel)
set_option maxRecDepth 65536 in
theorem w_c7 : (Jvm.Cond.code ({ cls := "com/example/funnel/funnel/relay/Backlog$Wait", name := "<init>", desc := "(JJ)V" } : Jvm.MethodName) prog_36_method_1_code (5 : Nat) (Option.none : Option Jvm.ClassFile.FieldType)).before args0 about1 = true := code_word (m := ⟨4, 0⟩) (meth := k4m0) (c := k4c0) (by decide +kernel) rfl rfl rfl (by decide +kernel)
set_option maxRecDepth 65536 in
theorem w_c8 : (Jvm.Cond.code ({ cls := "java/lang/Record", name := "<init>", desc := "()V" } : Jvm.MethodName) jdk_30_method_1_code (1 : Nat) (Option.none : Option Jvm.ClassFile.FieldType)).before args0 about1 = true := code_word (m := ⟨3, 0⟩) (meth := k3m0) (c := k3c0) (by decide +kernel) rfl rfl rfl (by decide +kernel)
set_option maxRecDepth 65536 in
theorem w_c9 : (Jvm.Cond.code ({ cls := "com/example/funnel/funnel/relay/Backlog$Wait", name := "earliest", desc := "()J" } : Jvm.MethodName) prog_36_method_5_code (1 : Nat) (Option.some Jvm.ClassFile.FieldType.long)).before args0 about1 = true := code_word (m := ⟨4, 1⟩) (meth := k4m1) (c := k4c1) (by decide +kernel) rfl rfl rfl (by decide +kernel)
set_option maxRecDepth 65536 in
theorem w_c10 : (Jvm.Cond.code ({ cls := "com/example/funnel/funnel/relay/Backlog$Wait", name := "surely", desc := "()J" } : Jvm.MethodName) prog_36_method_6_code (1 : Nat) (Option.some Jvm.ClassFile.FieldType.long)).before args0 about1 = true := code_word (m := ⟨4, 2⟩) (meth := k4m2) (c := k4c2) (by decide +kernel) rfl rfl rfl (by decide +kernel)
set_option maxRecDepth 65536 in
theorem w_c11 : (Jvm.Cond.code ({ cls := "com/example/funnel/funnel/relay/Backlog", name := "unwatched", desc := "()V" } : Jvm.MethodName) prog_35_method_3_code (1 : Nat) (Option.none : Option Jvm.ClassFile.FieldType)).before args0 about1 = true := code_word (m := ⟨2, 2⟩) (meth := k2m2) (c := k2c2) (by decide +kernel) rfl rfl rfl (by decide +kernel)
set_option maxRecDepth 65536 in
theorem w_c12 : (Jvm.Cond.code ({ cls := "com/example/funnel/funnel/relay/Backlog", name := "emptied", desc := "()V" } : Jvm.MethodName) prog_35_method_4_code (1 : Nat) (Option.none : Option Jvm.ClassFile.FieldType)).before args0 about1 = true := code_word (m := ⟨2, 3⟩) (meth := k2m3) (c := k2c3) (by decide +kernel) rfl rfl rfl (by decide +kernel)
def codes1 : List Jvm.Cond := [Jvm.Cond.code x code maxLocals ret, Jvm.Cond.code ({ cls := "com/example/funnel/funnel/relay/BacklogFoundPinLaw", name := "t", desc := "(J)J" } : Jvm.MethodName) method_2_code (2 : Nat) (Option.some Jvm.ClassFile.FieldType.long), Jvm.Cond.code ({ cls := "com/example/funnel/funnel/relay/Backlog", name := "<init>", desc := "(I)V" } : Jvm.MethodName) prog_35_method_1_code (2 : Nat) (Option.none : Option Jvm.ClassFile.FieldType), Jvm.Cond.code ({ cls := "java/lang/Object", name := "<init>", desc := "()V" } : Jvm.MethodName) object_method_1_code (1 : Nat) (Option.none : Option Jvm.ClassFile.FieldType), Jvm.Cond.code ({ cls := "com/example/funnel/funnel/relay/Backlog", name := "found", desc := "(JJ)V" } : Jvm.MethodName) prog_35_method_2_code (6 : Nat) (Option.none : Option Jvm.ClassFile.FieldType), Jvm.Cond.code ({ cls := "com/example/funnel/funnel/relay/Backlog", name := "accepted", desc := "(JJ)Lcom/example/funnel/funnel/relay/Backlog$Wait;" } : Jvm.MethodName) prog_35_method_5_code (10 : Nat) (Option.some (Jvm.ClassFile.FieldType.object "com/example/funnel/funnel/relay/Backlog$Wait")), Jvm.Cond.code ({ cls := "java/lang/Math", name := "max", desc := "(JJ)J" } : Jvm.MethodName) jdk_29_method_66_code (4 : Nat) (Option.some Jvm.ClassFile.FieldType.long), Jvm.Cond.code ({ cls := "com/example/funnel/funnel/relay/Backlog$Wait", name := "<init>", desc := "(JJ)V" } : Jvm.MethodName) prog_36_method_1_code (5 : Nat) (Option.none : Option Jvm.ClassFile.FieldType), Jvm.Cond.code ({ cls := "java/lang/Record", name := "<init>", desc := "()V" } : Jvm.MethodName) jdk_30_method_1_code (1 : Nat) (Option.none : Option Jvm.ClassFile.FieldType), Jvm.Cond.code ({ cls := "com/example/funnel/funnel/relay/Backlog$Wait", name := "earliest", desc := "()J" } : Jvm.MethodName) prog_36_method_5_code (1 : Nat) (Option.some Jvm.ClassFile.FieldType.long), Jvm.Cond.code ({ cls := "com/example/funnel/funnel/relay/Backlog$Wait", name := "surely", desc := "()J" } : Jvm.MethodName) prog_36_method_6_code (1 : Nat) (Option.some Jvm.ClassFile.FieldType.long), Jvm.Cond.code ({ cls := "com/example/funnel/funnel/relay/Backlog", name := "unwatched", desc := "()V" } : Jvm.MethodName) prog_35_method_3_code (1 : Nat) (Option.none : Option Jvm.ClassFile.FieldType), Jvm.Cond.code ({ cls := "com/example/funnel/funnel/relay/Backlog", name := "emptied", desc := "()V" } : Jvm.MethodName) prog_35_method_4_code (1 : Nat) (Option.none : Option Jvm.ClassFile.FieldType)]
set_option maxRecDepth 65536 in
theorem codes_eq : words1.filter isCode = codes1 := rfl
theorem w_codes : ∀ c ∈ words1.filter isCode, c.before args0 about1 = true := by
  rw [codes_eq]
  intro c hc
  simp only [codes1, List.mem_cons, List.not_mem_nil, or_false] at hc
  rcases hc with rfl | rfl | rfl | rfl | rfl | rfl | rfl | rfl | rfl | rfl | rfl | rfl | rfl
  · exact w_c0
  · exact w_c1
  · exact w_c2
  · exact w_c3
  · exact w_c4
  · exact w_c5
  · exact w_c6
  · exact w_c7
  · exact w_c8
  · exact w_c9
  · exact w_c10
  · exact w_c11
  · exact w_c12
set_option maxRecDepth 65536 in
theorem w_t1 : (words1.take 24).all (fun c => isCode c || c.before args0 about1) = true := by decide +kernel
set_option maxRecDepth 65536 in
theorem w_t2 : ((words1.drop 24).take 24).all (fun c => isCode c || c.before args0 about1) = true := by decide +kernel
set_option maxRecDepth 65536 in
theorem w_t3 : (((words1.drop 24).drop 24).take 24).all (fun c => isCode c || c.before args0 about1) = true := by decide +kernel
set_option maxRecDepth 65536 in
theorem w_t4 : (((words1.drop 24).drop 24).drop 24).all (fun c => isCode c || c.before args0 about1) = true := by decide +kernel
theorem w_tables : (allAtoms (Jvm.Cond.code x code maxLocals ret :: tables_1)).before args0 about1 = true := by
  rw [allAtoms_all]
  show words1.all (fun c => c.before args0 about1) = true
  refine all_split ?_ w_codes
  rw [← List.take_append_drop 24 words1, List.all_append, w_t1, ← List.take_append_drop 24 (words1.drop 24), List.all_append, w_t2, ← List.take_append_drop 24 ((words1.drop 24).drop 24), List.all_append, w_t3, w_t4]
  rfl
set_option maxRecDepth 65536 in
theorem w_case : (Jvm.Cond.and given_1 narrow_1).before args0 about1 = true := by decide +kernel
theorem w_applies : (headSpec (Jvm.Cond.code x code maxLocals ret :: tables_1) room_1).applies x e0.platform about1 = true :=
  (Spec.applies_iff w_frames).mpr ⟨w_running, w_runnable, w_alone, w_named, w_hears, w_ripe, w_room, w_tables⟩
theorem atStart : AtStart classFile x code maxLocals ret World_1 tables_1 room_1 Calls_1 rest_1 Pre_1 launch0 p0 e0 about1 theMethod args0 below0 :=
  ⟨lists_1, trivial, launch0.admits_env _ _ _, launch0.least_env, fairChoices_fair.cas, fairChoices_fair.clock, w_frames, w_args, w_heap, w_applies, trivial, trivial, w_case⟩
end start1
theorem witness_1 : WitnessClaimed_1 := ⟨start1.p0, start1.e0, start1.about1, start1.theMethod, start1.args0, start1.below0, start1.atStart⟩
end Jvm.Pilot.@@N@@
