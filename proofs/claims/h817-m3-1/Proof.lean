import JvmDerived
import JvmDerived.Pilot.@@N@@Statement
import JvmDerived.Pilot.@@N@@Code
set_option linter.unusedVariables false
set_option linter.unusedSimpArgs false
namespace Jvm.RoadKit
open Sem ClassFile Op Lib Jvm.Stand Jvm.Free Jvm.LawKit
section Own
variable {p : Program} {l : Launch} {e : Env} {R : Room} {s : State} {m : MethodId} {args : Array Value} {below : List Frame} {meth : Method} {c : Code} {T : State} {locs : List Loc} {cells slots : Nat}
theorem retI (X : Stand p l e R s m args below meth c T locs cells slots) (hx : p.tables.exec = Jvm.exec) {pc : Nat} {Ls : Array Slot} {z : Int32} {rest : List Value} (hret : meth.sig.returnType = some .int) (hd : decode c.code pc = .ok (.ireturn, 1)) {fs : List Frame}
    (hl : ∀ (f : JFrame) (acts : List Action), f.method = m → f.locked = none → f.entered = [] → (doReturn e (T.setTop f) acts (some (.int z))).1 = T.setFrames fs) : Steps p.tables e below (T.setTop (mkF m pc Ls (.int z :: rest))) (T.setFrames fs) := by
  have hm' : T.vm.method? m = some meth := X.method'
  have hn : narrow .int (.int z) = .int z := rfl
  show Steps p.tables e below (T.setTop { method := m, pc := pc, locals := Ls, stack := _ :: rest, locked := none }) _
  jvm_step X.here [X.here.top, hx, hd, hm', hret, hn]
  first | (intro acts; rw [hl _ acts rfl rfl rfl]) | rw [hl _ _ rfl rfl rfl]
  exact Steps.refl _
/-- the run from st comes to an end of which P holds -/
def own_G (tb : Tables) (e : Env) (below : List Frame) (P : Outcome → State → Prop) (st : State) : Prop :=
  ∃ s₂ o, Steps tb e below st s₂ ∧ s₂.status = .running ∧ Ended s₂ below o ∧ P o s₂
theorem own_st {tb : Tables} {P : Outcome → State → Prop} {st st' : State} (h : ∀ t, Steps tb e below st' t → Steps tb e below st t) (k : own_G tb e below P st') : own_G tb e below P st := by
  obtain ⟨s2, o, h1, h2⟩ := k
  exact ⟨s2, o, h _ h1, h2⟩
def own_P (s : State) (Q : Option Value → Heap → List Loc → Prop) (k n : Nat) (o : Outcome) (U' : State) : Prop :=
  ∃ v L, o = .returned v ∧ Q v U'.heap L ∧ FrameEnd s o U' L k n
theorem own_end {Q : Option Value → Heap → List Loc → Prop} {k n : Nat} {st : State} {v : Option Value} (X : Stand p l e R s m args below meth c T locs cells slots) (hlk : meth.locks = false) (hv : meth.sig.returnType = none → v = none)
    (hst : ∀ fs, (∀ (f : JFrame) (acts : List Action), f.method = m → f.locked = none → f.entered = [] → (doReturn e (T.setTop f) acts v).1 = T.setFrames fs) → Steps p.tables e below st (T.setFrames fs))
    (hQ : Q v T.heap locs) (hk : cells ≤ k) (hn : slots ≤ n) : own_G p.tables e below (own_P s Q k n) st := by
  obtain ⟨fs, hr, hrun, hended, hW, hsame⟩ := X.leave hv hlk
  exact ⟨_, _, hst fs hr, hrun, hended, _, _, rfl, hQ, ⟨_, rfl⟩, hW, hsame.mono hk hn⟩
theorem own_retZ {Q : Option Value → Heap → List Loc → Prop} {k n : Nat} (X : Stand p l e R s m args below meth c T locs cells slots) (hx : p.tables.exec = Jvm.exec) (hlk : meth.locks = false) (hret : meth.sig.returnType = some .boolean) {pc : Nat} {Ls : Array Slot} {z : Int32} {rest : List Value}
    (hd : decode c.code pc = .ok (.ireturn, 1)) (hz : nar .boolean z = z) (hQ : Q (some (.int z)) T.heap locs) (hk : cells ≤ k) (hn : slots ≤ n) : own_G p.tables e below (own_P s Q k n) (T.setTop (mkF m pc Ls (.int z :: rest))) :=
  own_end X hlk (fun h => by rw [hret] at h; cases h) (fun fs hr => retN X hx (t := .boolean) hret (by simp) hd (by rw [hz]; exact hr)) hQ hk hn
theorem own_retI {Q : Option Value → Heap → List Loc → Prop} {k n : Nat} (X : Stand p l e R s m args below meth c T locs cells slots) (hx : p.tables.exec = Jvm.exec) (hlk : meth.locks = false) (hret : meth.sig.returnType = some .int) {pc : Nat} {Ls : Array Slot} {z : Int32} {rest : List Value}
    (hd : decode c.code pc = .ok (.ireturn, 1)) (hQ : Q (some (.int z)) T.heap locs) (hk : cells ≤ k) (hn : slots ≤ n) : own_G p.tables e below (own_P s Q k n) (T.setTop (mkF m pc Ls (.int z :: rest))) :=
  own_end X hlk (fun h => by rw [hret] at h; cases h) (fun fs hr => retI X hx hret hd hr) hQ hk hn
theorem own_retJ {Q : Option Value → Heap → List Loc → Prop} {k n : Nat} (X : Stand p l e R s m args below meth c T locs cells slots) (hx : p.tables.exec = Jvm.exec) (hlk : meth.locks = false) (hret : meth.sig.returnType = some .long) {pc : Nat} {Ls : Array Slot} {z : Int64} {rest : List Value}
    (hd : decode c.code pc = .ok (.lreturn, 1)) (hQ : Q (some (.long z)) T.heap locs) (hk : cells ≤ k) (hn : slots ≤ n) : own_G p.tables e below (own_P s Q k n) (T.setTop (mkF m pc Ls (.long z :: rest))) :=
  own_end X hlk (fun h => by rw [hret] at h; cases h) (fun fs hr => retOut X hx hret rfl (Or.inr (Or.inl ⟨rfl, rfl, _, rfl⟩)) hd hr) hQ hk hn
theorem own_retR {Q : Option Value → Heap → List Loc → Prop} {k n : Nat} {t : FieldType} (X : Stand p l e R s m args below meth c T locs cells slots) (hx : p.tables.exec = Jvm.exec) (hlk : meth.locks = false) (hret : meth.sig.returnType = some t) (ht : t.isReference = true) {pc : Nat} {Ls : Array Slot} {w : Value} {rest : List Value} (hw : w.isRef = true) (hnw : narrow t w = w)
    (hd : decode c.code pc = .ok (.areturn, 1)) (hQ : Q (some w) T.heap locs) (hk : cells ≤ k) (hn : slots ≤ n) : own_G p.tables e below (own_P s Q k n) (T.setTop (mkF m pc Ls (w :: rest))) :=
  own_end X hlk (fun h => by rw [hret] at h; cases h) (fun fs hr => retOut X hx hret hnw (Or.inr (Or.inr (Or.inr (Or.inr ⟨rfl, ht, hw⟩)))) hd hr) hQ hk hn
theorem own_retV {Q : Option Value → Heap → List Loc → Prop} {k n : Nat} (X : Stand p l e R s m args below meth c T locs cells slots) (hx : p.tables.exec = Jvm.exec) (hlk : meth.locks = false) (hret : meth.sig.returnType = none) {pc : Nat} {Ls : Array Slot}
    (hd : decode c.code pc = .ok (.return_, 1)) (hQ : Q none T.heap locs) (hk : cells ≤ k) (hn : slots ≤ n) : own_G p.tables e below (own_P s Q k n) (T.setTop (mkF m pc Ls [])) :=
  own_end X hlk (fun _ => rfl) (fun fs hr => X.returnOut hx hret hd hr) hQ hk hn
theorem own_mono {cells' slots' : Nat} (X : Stand p l e R s m args below meth c T locs cells slots) (h1 : cells ≤ cells') (h2 : slots ≤ slots') : Stand p l e R s m args below meth c T locs cells' slots' :=
  ⟨X.admits, X.cas, X.clock, X.frames, X.room, X.hears, X.method, X.code, X.here, X.tail, X.warmed, X.limits, X.bytes, X.same.mono h1 h2⟩
theorem own_fld {Z : State} {h : Heap} {a : Addr} {C n d : String} {v w : Value} (F : Fld Z h a C n d v) (q : v = w) : Fld Z h a C n d w := q ▸ F
end Own
/-- a boolean as the machine holds it -/
def own_b (P : Prop) [Decidable P] : Int32 := if P then 1 else 0
theorem own_bt {P : Prop} [Decidable P] (h : P) : own_b P = 1 := if_pos h
theorem own_bf {P : Prop} [Decidable P] (h : ¬ P) : own_b P = 0 := if_neg h
theorem own_b1 {P : Prop} [Decidable P] {z : Int32} (hz : z = own_b P) (h : P) : ¬ z = 0 := by rw [hz, own_bt h]; decide
theorem own_b0 {P : Prop} [Decidable P] {z : Int32} (hz : z = own_b P) (h : ¬ P) : z = 0 := by rw [hz, own_bf h]
theorem own_nar {P : Prop} [Decidable P] {z : Int32} (hz : z = own_b P) : nar .boolean z = z := by
  rw [hz]; by_cases h : P
  · rw [own_bt h]; decide
  · rw [own_bf h]; decide
theorem own_fitZ {P : Prop} [Decidable P] {z : Int32} (hz : z = own_b P) : fits .boolean (.int z) = true := by
  rw [hz]; by_cases h : P
  · rw [own_bt h]; decide
  · rw [own_bf h]; decide
theorem own_bc {P Q : Prop} [Decidable P] [Decidable Q] (h : P ↔ Q) : own_b P = own_b Q := by
  by_cases q : Q
  · rw [own_bt q, own_bt (h.mpr q)]
  · rw [own_bf q, own_bf (fun r => q (h.mp r))]
theorem own_bi {P Q : Prop} [Decidable P] [Decidable Q] (h : own_b P = own_b Q) : P ↔ Q := by
  by_cases p : P <;> by_cases q : Q <;> simp_all [own_b]
section OwnW
variable {p : Program} {l : Launch} {e : Env} {R : Room} {s : State} {m : MethodId} {args : Array Value} {below : List Frame} {meth : Method} {c : Code} {T : State} {locs : List Loc} {cells slots : Nat}
/-- .. where String constants may have come to be held meanwhile -/
def own_PW (s : State) (Q : Option Value → Heap → List Loc → Prop) (k n : Nat) (o : Outcome) (U' : State) : Prop :=
  ∃ v L, o = .returned v ∧ Q v U'.heap L ∧ ReturnedEndW s o U' L k n
theorem own_endW {vm₁ : Vm} {k1 : Nat} {Q : Option Value → Heap → List Loc → Prop} {k n : Nat} {st : State} {v : Option Value} (X : Stand p l e R (s.setVm vm₁) m args below meth c T locs cells slots) (hS : s.Since vm₁ k1) (h1 : k1 ≤ T.heap.size) (hlk : meth.locks = false) (hv : meth.sig.returnType = none → v = none)
    (hst : ∀ fs, (∀ (f : JFrame) (acts : List Action), f.method = m → f.locked = none → f.entered = [] → (doReturn e (T.setTop f) acts v).1 = T.setFrames fs) → Steps p.tables e below st (T.setFrames fs))
    (hQ : Q v T.heap locs) (hk : cells ≤ k) (hn : slots ≤ n) : own_G p.tables e below (own_PW s Q k n) st := by
  obtain ⟨fs, hr, hrun, hended, hE⟩ := X.leaveW hS h1 hv hlk
  exact ⟨_, _, hst fs hr, hrun, hended, _, _, rfl, hQ, hE.1, hE.2.1, hE.2.2.1, hE.2.2.2.mono hk hn⟩
theorem own_retZW {vm₁ : Vm} {k1 : Nat} {Q : Option Value → Heap → List Loc → Prop} {k n : Nat} (X : Stand p l e R (s.setVm vm₁) m args below meth c T locs cells slots) (hS : s.Since vm₁ k1) (h1 : k1 ≤ T.heap.size) (hx : p.tables.exec = Jvm.exec) (hlk : meth.locks = false) (hret : meth.sig.returnType = some .boolean) {pc : Nat} {Ls : Array Slot} {z : Int32} {rest : List Value}
    (hd : decode c.code pc = .ok (.ireturn, 1)) (hz : nar .boolean z = z) (hQ : Q (some (.int z)) T.heap locs) (hk : cells ≤ k) (hn : slots ≤ n) : own_G p.tables e below (own_PW s Q k n) (T.setTop (mkF m pc Ls (.int z :: rest))) :=
  own_endW X hS h1 hlk (fun h => by rw [hret] at h; cases h) (fun fs hr => retN X hx (t := .boolean) hret (by simp) hd (by rw [hz]; exact hr)) hQ hk hn
theorem own_retVW {vm₁ : Vm} {k1 : Nat} {Q : Option Value → Heap → List Loc → Prop} {k n : Nat} (X : Stand p l e R (s.setVm vm₁) m args below meth c T locs cells slots) (hS : s.Since vm₁ k1) (h1 : k1 ≤ T.heap.size) (hx : p.tables.exec = Jvm.exec) (hlk : meth.locks = false) (hret : meth.sig.returnType = none) {pc : Nat} {Ls : Array Slot}
    (hd : decode c.code pc = .ok (.return_, 1)) (hQ : Q none T.heap locs) (hk : cells ≤ k) (hn : slots ≤ n) : own_G p.tables e below (own_PW s Q k n) (T.setTop (mkF m pc Ls [])) :=
  own_endW X hS h1 hlk (fun _ => rfl) (fun fs hr => X.returnOut hx hret hd hr) hQ hk hn
end OwnW
end Jvm.RoadKit
namespace Jvm.Pilot.@@N@@
open Jvm Jvm.ClassFile Sem Op Lib Jvm.Free Jvm.Stand Jvm.LawKit Jvm.RoadKit Bundle Jvm.Pilot.@@N@@.Jvm.D
theorem pn_0 : plainName "com/example/stakan/stakan/core/InstrumentIsOnPriceStepPinLaw" = true := by first | (simp [plainName, overriddenIn]; done) | decide +kernel
theorem d1_0 : decode prog_11_method_1_code 0 = .ok (.aload_n 0, 1) := by decide +kernel
theorem d1_1 : decode prog_11_method_1_code 1 = .ok (.invokespecial 1, 3) := by decide +kernel
theorem d1_4 : decode prog_11_method_1_code 4 = .ok (.aload_n 1, 1) := by decide +kernel
theorem d1_5 : decode prog_11_method_1_code 5 = .ok (.ldc 7, 2) := by decide +kernel
theorem d1_7 : decode prog_11_method_1_code 7 = .ok (.invokestatic 9, 3) := by decide +kernel
theorem d1_10 : decode prog_11_method_1_code 10 = .ok (.pop, 1) := by decide +kernel
theorem d1_11 : decode prog_11_method_1_code 11 = .ok (.aload 6, 2) := by decide +kernel
theorem d1_13 : decode prog_11_method_1_code 13 = .ok (.ldc 15, 2) := by decide +kernel
theorem d1_15 : decode prog_11_method_1_code 15 = .ok (.invokestatic 9, 3) := by decide +kernel
theorem d1_18 : decode prog_11_method_1_code 18 = .ok (.pop, 1) := by decide +kernel
theorem d1_19 : decode prog_11_method_1_code 19 = .ok (.aload_n 1, 1) := by decide +kernel
theorem d1_20 : decode prog_11_method_1_code 20 = .ok (.invokevirtual 17, 3) := by decide +kernel
theorem d1_23 : decode prog_11_method_1_code 23 = .ok (.ifCond .eq 13, 3) := by decide +kernel
theorem d1_36 : decode prog_11_method_1_code 36 = .ok (.lload_n 2, 1) := by decide +kernel
theorem d1_37 : decode prog_11_method_1_code 37 = .ok (.lconst 1, 1) := by decide +kernel
theorem d1_38 : decode prog_11_method_1_code 38 = .ok (.lcmp, 1) := by decide +kernel
theorem d1_39 : decode prog_11_method_1_code 39 = .ok (.ifCond .ge 17, 3) := by decide +kernel
theorem d1_56 : decode prog_11_method_1_code 56 = .ok (.lload 4, 2) := by decide +kernel
theorem d1_58 : decode prog_11_method_1_code 58 = .ok (.lconst 1, 1) := by decide +kernel
theorem d1_59 : decode prog_11_method_1_code 59 = .ok (.lcmp, 1) := by decide +kernel
theorem d1_60 : decode prog_11_method_1_code 60 = .ok (.ifCond .ge 18, 3) := by decide +kernel
theorem d1_78 : decode prog_11_method_1_code 78 = .ok (.aload_n 0, 1) := by decide +kernel
theorem d1_79 : decode prog_11_method_1_code 79 = .ok (.aload_n 1, 1) := by decide +kernel
theorem d1_80 : decode prog_11_method_1_code 80 = .ok (.putfield 35, 3) := by decide +kernel
theorem d1_83 : decode prog_11_method_1_code 83 = .ok (.aload_n 0, 1) := by decide +kernel
theorem d1_84 : decode prog_11_method_1_code 84 = .ok (.lload_n 2, 1) := by decide +kernel
theorem d1_85 : decode prog_11_method_1_code 85 = .ok (.putfield 40, 3) := by decide +kernel
theorem d1_88 : decode prog_11_method_1_code 88 = .ok (.aload_n 0, 1) := by decide +kernel
theorem d1_89 : decode prog_11_method_1_code 89 = .ok (.lload 4, 2) := by decide +kernel
theorem d1_91 : decode prog_11_method_1_code 91 = .ok (.putfield 44, 3) := by decide +kernel
theorem d1_94 : decode prog_11_method_1_code 94 = .ok (.aload_n 0, 1) := by decide +kernel
theorem d1_95 : decode prog_11_method_1_code 95 = .ok (.aload 6, 2) := by decide +kernel
theorem d1_97 : decode prog_11_method_1_code 97 = .ok (.putfield 47, 3) := by decide +kernel
theorem d1_100 : decode prog_11_method_1_code 100 = .ok (.return_, 1) := by decide +kernel
theorem pn_1 : plainName "com/example/stakan/stakan/core/Instrument" = true := by first | (simp [plainName, overriddenIn]; done) | decide +kernel
theorem d2_0 : decode jdk_30_method_1_code 0 = .ok (.aload_n 0, 1) := by decide +kernel
theorem d2_1 : decode jdk_30_method_1_code 1 = .ok (.invokespecial 1, 3) := by decide +kernel
theorem d2_4 : decode jdk_30_method_1_code 4 = .ok (.return_, 1) := by decide +kernel
theorem pn_2 : plainName "java/lang/Record" = true := by first | (simp [plainName, overriddenIn]; done) | decide +kernel
theorem d4_0 : decode jdk_31_method_11_code 0 = .ok (.aload_n 0, 1) := by decide +kernel
theorem d4_1 : decode jdk_31_method_11_code 1 = .ok (.ifnonnull 12, 3) := by decide +kernel
theorem d4_13 : decode jdk_31_method_11_code 13 = .ok (.aload_n 0, 1) := by decide +kernel
theorem d4_14 : decode jdk_31_method_11_code 14 = .ok (.areturn, 1) := by decide +kernel
theorem pn_4 : plainName "java/util/Objects" = true := by first | (simp [plainName, overriddenIn]; done) | decide +kernel
theorem d5_0 : decode jdk_42_method_55_code 0 = .ok (.aload_n 0, 1) := by decide +kernel
theorem d5_1 : decode jdk_42_method_55_code 1 = .ok (.getfield 9, 3) := by decide +kernel
theorem d5_4 : decode jdk_42_method_55_code 4 = .ok (.arraylength, 1) := by decide +kernel
theorem d5_5 : decode jdk_42_method_55_code 5 = .ok (.ifCond .ne 7, 3) := by decide +kernel
theorem d5_12 : decode jdk_42_method_55_code 12 = .ok (.iconst 0, 1) := by decide +kernel
theorem d5_13 : decode jdk_42_method_55_code 13 = .ok (.ireturn, 1) := by decide +kernel
theorem pn_5 : plainName "java/lang/String" = true := by first | (simp [plainName, overriddenIn]; done) | decide +kernel
theorem d6_0 : decode prog_11_method_3_code 0 = .ok (.lload_n 1, 1) := by decide +kernel
theorem d6_1 : decode prog_11_method_3_code 1 = .ok (.aload_n 0, 1) := by decide +kernel
theorem d6_2 : decode prog_11_method_3_code 2 = .ok (.getfield 40, 3) := by decide +kernel
theorem d6_5 : decode prog_11_method_3_code 5 = .ok (.lrem, 1) := by decide +kernel
theorem d6_6 : decode prog_11_method_3_code 6 = .ok (.lconst 0, 1) := by decide +kernel
theorem d6_7 : decode prog_11_method_3_code 7 = .ok (.lcmp, 1) := by decide +kernel
theorem d6_8 : decode prog_11_method_3_code 8 = .ok (.ifCond .ne 7, 3) := by decide +kernel
theorem d6_11 : decode prog_11_method_3_code 11 = .ok (.iconst 1, 1) := by decide +kernel
theorem d6_12 : decode prog_11_method_3_code 12 = .ok (.goto 4, 3) := by decide +kernel
theorem d6_15 : decode prog_11_method_3_code 15 = .ok (.iconst 0, 1) := by decide +kernel
theorem d6_16 : decode prog_11_method_3_code 16 = .ok (.ireturn, 1) := by decide +kernel
theorem pn_6 : plainName "com/example/stakan/stakan/core/Instrument" = true := by first | (simp [plainName, overriddenIn]; done) | decide +kernel
theorem pd_0 : parseMethodDescriptor "()V" = some ⟨[], none⟩ := by decide +kernel
theorem pd_1 : parseMethodDescriptor "(Ljava/lang/Object;Ljava/lang/String;)Ljava/lang/Object;" = some ⟨[(.object "java/lang/Object"), (.object "java/lang/String")], some (.object "java/lang/Object")⟩ := by decide +kernel
theorem pd_2 : parseMethodDescriptor "()Z" = some ⟨[], some .boolean⟩ := by decide +kernel
theorem pd_3 : parseMethodDescriptor "(Ljava/lang/String;JJLcom/example/stakan/stakan/core/Allocation;)V" = some ⟨[(.object "java/lang/String"), .long, .long, (.object "com/example/stakan/stakan/core/Allocation")], none⟩ := by decide +kernel
theorem pd_4 : parseMethodDescriptor "(J)Z" = some ⟨[.long], some .boolean⟩ := by decide +kernel
theorem ef_2 (m : MethodId) (x0 : Addr) : entryFrame m #[(.ref x0)] 1 = mkF m 0 #[.val (.ref x0)] [] := by first | (simp [entryFrame, mkF, argsToLocals, Value.category]; done) | rfl
theorem ef_4 (m : MethodId) (x0 : Addr) (x1 : Addr) : entryFrame m #[(.ref x0), (.ref x1)] 2 = mkF m 0 #[.val (.ref x0), .val (.ref x1)] [] := by first | (simp [entryFrame, mkF, argsToLocals, Value.category]; done) | rfl
theorem ef_5 (m : MethodId) (x0 : Addr) : entryFrame m #[(.ref x0)] 1 = mkF m 0 #[.val (.ref x0)] [] := by first | (simp [entryFrame, mkF, argsToLocals, Value.category]; done) | rfl
theorem ef_1 (m : MethodId) (x0 : Addr) (x1 : Addr) (x2 : Int64) (x3 : Int64) (x4 : Addr) : entryFrame m #[(.ref x0), (.ref x1), (.long x2), (.long x3), (.ref x4)] 7 = mkF m 0 #[.val (.ref x0), .val (.ref x1), .val (.long x2), .second, .val (.long x3), .second, .val (.ref x4)] [] := by first | (simp [entryFrame, mkF, argsToLocals, Value.category]; done) | rfl
theorem ef_6 (m : MethodId) (x0 : Addr) (x1 : Int64) : entryFrame m #[(.ref x0), (.long x1)] 3 = mkF m 0 #[.val (.ref x0), .val (.long x1), .second] [] := by first | (simp [entryFrame, mkF, argsToLocals, Value.category]; done) | rfl
theorem ef_0 (m : MethodId) (x0 : Int64) (x1 : Int64) (x2 : Int64) (x3 : Int32) : entryFrame m #[(.long x0), (.long x1), (.long x2), (.int x3)] maxLocals = mkF m 0 #[.val (.long x0), .second, .val (.long x1), .second, .val (.long x2), .second, .val (.int x3), .unset, .unset, .unset, .unset, .unset, .unset, .unset, .unset, .unset, .unset, .unset, .unset, .unset, .unset, .unset, .unset, .unset, .unset, .unset, .unset] [] := by first | (simp [entryFrame, mkF, argsToLocals, Value.category, maxLocals]; done) | rfl
theorem own_al {s : State} {args : Array Value} (hw : ∀ d ∈ tables_1, d.before args s = true) (hn : narrow_1.value args s none s [] = some true) : ∃ v0 v1 v2 : Addr, Sta s s.heap "com/example/stakan/stakan/core/Allocation" "TIME" "Lcom/example/stakan/stakan/core/Allocation;" (.ref v0) ∧ Sta s s.heap "com/example/stakan/stakan/core/Allocation" "PARITY" "Lcom/example/stakan/stakan/core/Allocation;" (.ref v1) ∧ Sta s s.heap "com/example/stakan/stakan/core/Allocation" "PRO_RATA" "Lcom/example/stakan/stakan/core/Allocation;" (.ref v2) := by
  obtain ⟨x0, n1⟩ := and_e hn
  obtain ⟨x1, x2⟩ := and_e n1
  have hini : (Cond.initialized "com/example/stakan/stakan/core/Allocation").before args s = true := hw _ (List.mem_of_getElem? (i := 3) rfl)
  obtain ⟨v0, e0⟩ := exa_v x0
  obtain ⟨v1, e1⟩ := exa_v x1
  obtain ⟨v2, e2⟩ := exa_v x2
  exact ⟨v0, v1, v2, Sta.start e0 (Or.inr ⟨hini, hw _ (List.mem_of_getElem? (i := 4) rfl)⟩), Sta.start e1 (Or.inr ⟨hini, hw _ (List.mem_of_getElem? (i := 53) rfl)⟩), Sta.start e2 (Or.inr ⟨hini, hw _ (List.mem_of_getElem? (i := 55) rfl)⟩)⟩
theorem own_M : (9223372036854775807 : Int64).toInt = 9223372036854775807 := rfl
theorem own_Mn : (-9223372036854775808 : Int64).toInt = -9223372036854775808 := rfl
theorem own_L0 : (0 : Int64).toInt = 0 := rfl
theorem own_L1 : (1 : Int64).toInt = 1 := rfl
theorem own_msk (a : Int64) : (a &&& (9223372036854775807 : Int64)).toInt = a.toInt % 9223372036854775808 := c_maskL a _ 63 (by decide) (by decide)
theorem own_remp {x y : Int64} (hx : 0 ≤ x.toInt) (hy : 0 < y.toInt) : 0 ≤ (x - (x / y) * y).toInt ∧ (x - (x / y) * y).toInt < y.toInt ∧ (x - (x / y) * y).toInt ≤ x.toInt := by
  have h := (c_lrem x y y.toInt rfl).1 hx
  rw [h]
  refine ⟨Int.emod_nonneg _ (by omega), Int.emod_lt_of_pos _ hy, ?_⟩
  by_cases q : x.toInt < y.toInt
  · rw [Int.emod_eq_of_lt hx q]; exact Int.le_refl _
  · have := Int.emod_lt_of_pos x.toInt hy; omega
theorem own_stepb {a step : Int64} (h : step = ((1 : Int64) + ((a &&& (9223372036854775807 : Int64)) - ((a &&& (9223372036854775807 : Int64)) / (9223372036854775807 : Int64)) * (9223372036854775807 : Int64)))) : 1 ≤ step.toInt ∧ step.toInt ≤ 9223372036854775807 := by
  have h1 := own_msk a
  have h2 := own_remp (x := (a &&& (9223372036854775807 : Int64))) (y := 9223372036854775807) (by omega) (by decide)
  rw [own_M] at h2
  have h3 := c_ladd 1 ((a &&& (9223372036854775807 : Int64)) - ((a &&& (9223372036854775807 : Int64)) / (9223372036854775807 : Int64)) * (9223372036854775807 : Int64))
  rw [← h, own_L1] at h3
  have h4 := rng64 step
  omega
theorem own_ne0 {x : Int64} (h : 1 ≤ x.toInt) : x ≠ 0 := fun q => by rw [q, own_L0] at h; omega
theorem own_qb {step qmax : Int64} (hs : 1 ≤ step.toInt ∧ step.toInt ≤ 9223372036854775807) (h : qmax = ((9223372036854775807 : Int64) / step)) : 1 ≤ qmax.toInt ∧ qmax.toInt * step.toInt ≤ 9223372036854775807 := by
  have hne : step ≠ -1 := fun q => by
    have : (-1 : Int64).toInt = -1 := rfl
    rw [q, this] at hs; omega
  have h1 := (c_ldiv (9223372036854775807 : Int64) step step.toInt rfl hne).1 (by decide)
  rw [← h, own_M] at h1
  rw [h1]
  refine ⟨?_, Int.ediv_mul_le _ (by omega)⟩
  exact Int.le_ediv_of_mul_le (by omega) (by omega)
theorem own_pw : ∀ (k n : Nat), n ∣ 2 ^ k → n.isPowerOfTwo
  | 0, n, h => ⟨0, by simpa using h⟩
  | k + 1, n, h => by
    by_cases e : n % 2 = 0
    · obtain ⟨m, rfl⟩ : ∃ m, n = m * 2 := ⟨n / 2, by omega⟩
      rw [Nat.pow_succ] at h
      have h2 : m ∣ 2 ^ k := Nat.dvd_of_mul_dvd_mul_right (by decide) h
      obtain ⟨j, hj⟩ := own_pw k m h2
      exact ⟨j + 1, by rw [hj, Nat.pow_succ]⟩
    · have hc : Nat.Coprime n 2 := by
        rw [Nat.Coprime, Nat.gcd_comm, Nat.gcd_rec]
        have : n % 2 = 1 := by omega
        rw [this]; simp
      rw [Nat.pow_succ] at h
      exact own_pw k n (hc.dvd_of_dvd_mul_right h)
theorem own_pow {n : Nat} (h0 : n ≠ 0) (h1 : n < 2 ^ 63) : n ∣ 2 ^ 63 ↔ n &&& (n - 1) = 0 := by
  rw [Nat.and_sub_one_eq_zero_iff_isPowerOfTwo h0]
  refine ⟨own_pw 63 n, ?_⟩
  rintro ⟨k, rfl⟩
  have : k < 63 := (Nat.pow_lt_pow_iff_right (by decide)).mp h1
  exact Nat.pow_dvd_pow 2 (by omega)
theorem own_andz {x : Int64} (h : 1 ≤ x.toInt) : ((x &&& (x - (1 : Int64))) = (0 : Int64)) ↔ x.toInt.toNat &&& (x.toInt.toNat - 1) = 0 := by
  have hx := rng64 x
  have e1 : x.toBitVec.toNat = x.toInt.toNat := by
    have : x.toInt = x.toBitVec.toInt := rfl
    rw [this] at h hx ⊢
    rw [BitVec.toInt_eq_toNat_cond] at h hx ⊢
    split at h <;> omega
  have e2 : (x - (1 : Int64)).toBitVec.toNat = x.toInt.toNat - 1 := by
    have : (x - (1 : Int64)).toBitVec = x.toBitVec - 1#64 := rfl
    rw [this, BitVec.toNat_sub, e1]
    have : (1#64).toNat = 1 := rfl
    rw [this]; omega
  rw [← Int64.toBitVec_inj, Int64.toBitVec_and, ← BitVec.toNat_inj, BitVec.toNat_and, e1, e2]
  rfl
theorem own_rem0 {x y : Int64} : ((x - (x / y) * y) = (0 : Int64)) ↔ y.toInt ∣ x.toInt := by
  rw [lrem_mod, ← Int64.toInt_inj, Int64.toInt_mod, own_L0, Int.dvd_iff_tmod_eq_zero]
theorem own_minz {step : Int64} (hs : 1 ≤ step.toInt ∧ step.toInt ≤ 9223372036854775807) : (((-9223372036854775808 : Int64) - ((-9223372036854775808 : Int64) / step) * step) = (0 : Int64)) ↔ ((step &&& (step - (1 : Int64))) = (0 : Int64)) := by
  rw [own_rem0, own_andz hs.1, own_Mn, ← own_pow (by omega) (by omega)]
  have e : (-9223372036854775808 : Int) = -((2 ^ 63 : Nat) : Int) := by decide
  have e2 : step.toInt = (step.toInt.toNat : Int) := by omega
  rw [e, Int.dvd_neg]
  rw [e2]
  exact Int.ofNat_dvd
/-- all that the law reckons, ahead of the last choice -/
theorem own_nums {i0 i1 i2 step qmax q z3 mm z6 room z9 : Int64} {P8 P4 : Prop} [Decidable P8] [Decidable P4]
    (hstep : step = ((1 : Int64) + ((i0 &&& (9223372036854775807 : Int64)) - ((i0 &&& (9223372036854775807 : Int64)) / (9223372036854775807 : Int64)) * (9223372036854775807 : Int64))))
    (hqmax : qmax = ((9223372036854775807 : Int64) / step)) (hq : q = ((i1 &&& (9223372036854775807 : Int64)) - ((i1 &&& (9223372036854775807 : Int64)) / qmax) * qmax)) (hz3 : z3 = (if P8 then q else qmax)) (hmm : mm = (z3 * step))
    (hz6 : z6 = (if P4 then ((i2 &&& (9223372036854775807 : Int64)) - ((i2 &&& (9223372036854775807 : Int64)) / step) * step) else (0 : Int64))) (hroom : room = ((9223372036854775807 : Int64) - mm)) (hz9 : z9 = (if room < z6 then (z6 - (z6 / (room + (1 : Int64))) * (room + (1 : Int64))) else z6)) :
    mm.toInt = z3.toInt * step.toInt ∧ 0 ≤ mm.toInt ∧ room.toInt = 9223372036854775807 - mm.toInt ∧ 0 ≤ z6.toInt ∧ z6.toInt < step.toInt ∧ 0 ≤ z9.toInt ∧ z9.toInt ≤ room.toInt ∧ z9.toInt < step.toInt := by
  have hs := own_stepb hstep
  have hqb := own_qb hs hqmax
  have m1 := own_msk i1; have m2 := own_msk i2
  have q1 := own_remp (x := (i1 &&& (9223372036854775807 : Int64))) (y := qmax) (by omega) (by omega)
  rw [← hq] at q1
  have z3b : 0 ≤ z3.toInt ∧ z3.toInt ≤ qmax.toInt := by rw [hz3]; split <;> omega
  have pb : z3.toInt * step.toInt ≤ qmax.toInt * step.toInt := Int.mul_le_mul_of_nonneg_right z3b.2 (by omega)
  have p0 : 0 ≤ z3.toInt * step.toInt := Int.mul_nonneg z3b.1 (by omega)
  have c1 := c_lmul z3 step; rw [← hmm] at c1
  have r1 := rng64 mm
  have em : mm.toInt = z3.toInt * step.toInt := by
    generalize z3.toInt * step.toInt = P at *
    generalize qmax.toInt * step.toInt = Q at *
    omega
  have mb : 0 ≤ mm.toInt ∧ mm.toInt ≤ 9223372036854775807 := by rw [em]; exact ⟨p0, Int.le_trans pb hqb.2⟩
  have c2 := c_lsub (9223372036854775807 : Int64) mm; rw [← hroom, own_M] at c2
  have r2 := rng64 room
  have er : room.toInt = 9223372036854775807 - mm.toInt := by omega
  have q2 := own_remp (x := (i2 &&& (9223372036854775807 : Int64))) (y := step) (by omega) (by omega)
  have z6b : 0 ≤ z6.toInt ∧ z6.toInt < step.toInt := by
    rw [hz6]; split
    · omega
    · rw [own_L0]; omega
  have z9b : 0 ≤ z9.toInt ∧ z9.toInt ≤ room.toInt ∧ z9.toInt < step.toInt := by
    by_cases hl : room < z6
    · rw [if_pos hl] at hz9
      rw [Int64.lt_iff_toInt_lt] at hl
      have c3 := c_ladd room 1; rw [own_L1] at c3
      have r3 := rng64 (room + 1)
      have e3 : (room + (1 : Int64)).toInt = room.toInt + 1 := by omega
      have q3 := own_remp (x := z6) (y := (room + 1)) (by omega) (by omega)
      rw [← hz9] at q3
      omega
    · rw [if_neg hl] at hz9
      rw [Int64.lt_iff_toInt_lt] at hl
      rw [hz9]; omega
  exact ⟨em, mb.1, er, z6b.1, z6b.2, z9b⟩
theorem own_dvd {k s r : Int} (h0 : 0 ≤ r) (h1 : r < s) : s ∣ k * s + r ↔ r = 0 := by
  rw [Int.dvd_add_right (Int.dvd_mul_left k s)]
  refine ⟨fun h => ?_, fun h => by rw [h]; exact Int.dvd_zero s⟩
  exact Int.eq_zero_of_dvd_of_natAbs_lt_natAbs h (by omega)
theorem own_z20 {i0 : Int64} {step : Int64}
    (hstep : step = ((1 : Int64) + ((i0 &&& (9223372036854775807 : Int64)) - ((i0 &&& (9223372036854775807 : Int64)) / (9223372036854775807 : Int64)) * (9223372036854775807 : Int64)))) : step ≠ 0 := by
  exact own_ne0 (own_stepb hstep).1
theorem own_z29 {i0 : Int64} {step : Int64} {qmax : Int64}
    (hstep : step = ((1 : Int64) + ((i0 &&& (9223372036854775807 : Int64)) - ((i0 &&& (9223372036854775807 : Int64)) / (9223372036854775807 : Int64)) * (9223372036854775807 : Int64))))
    (hqmax : qmax = ((9223372036854775807 : Int64) / step)) : qmax ≠ 0 := by
  exact own_ne0 (own_qb (own_stepb hstep) hqmax).1
theorem own_z69 {i0 : Int64} {i1 : Int64} {i3 : Int32} {step : Int64} {qmax : Int64} {q : Int64} {z3 : Int64} {mm : Int64}
    (hstep : step = ((1 : Int64) + ((i0 &&& (9223372036854775807 : Int64)) - ((i0 &&& (9223372036854775807 : Int64)) / (9223372036854775807 : Int64)) * (9223372036854775807 : Int64))))
    (hqmax : qmax = ((9223372036854775807 : Int64) / step))
    (hq : q = ((i1 &&& (9223372036854775807 : Int64)) - ((i1 &&& (9223372036854775807 : Int64)) / qmax) * qmax))
    (hz3 : z3 = (if (i3 &&& (8 : Int32)) = (0 : Int32) then q else qmax))
    (hmm : mm = (z3 * step)) : step ≠ 0 := by
  exact own_ne0 (own_stepb hstep).1
theorem own_z93 {i0 : Int64} {i1 : Int64} {i2 : Int64} {i3 : Int32} {step : Int64} {qmax : Int64} {q : Int64} {z3 : Int64} {mm : Int64} {z6 : Int64} {room : Int64}
    (hstep : step = ((1 : Int64) + ((i0 &&& (9223372036854775807 : Int64)) - ((i0 &&& (9223372036854775807 : Int64)) / (9223372036854775807 : Int64)) * (9223372036854775807 : Int64))))
    (hqmax : qmax = ((9223372036854775807 : Int64) / step))
    (hq : q = ((i1 &&& (9223372036854775807 : Int64)) - ((i1 &&& (9223372036854775807 : Int64)) / qmax) * qmax))
    (hz3 : z3 = (if (i3 &&& (8 : Int32)) = (0 : Int32) then q else qmax))
    (hmm : mm = (z3 * step))
    (hz6 : z6 = (if (i3 &&& (4 : Int32)) = (0 : Int32) then ((i2 &&& (9223372036854775807 : Int64)) - ((i2 &&& (9223372036854775807 : Int64)) / step) * step) else (0 : Int64)))
    (hroom : room = ((9223372036854775807 : Int64) - mm))
    (hc84_7 : room < z6) : (room + (1 : Int64)) ≠ 0 := by
  have N := own_nums hstep hqmax hq hz3 hmm hz6 hroom rfl
  intro w
  have c3 := c_ladd room 1; rw [w, own_L1, own_L0] at c3
  have r := rng64 room
  have hl := hc84_7
  rw [Int64.lt_iff_toInt_lt] at hl
  have hs := own_stepb hstep
  omega
theorem own_p1 {i0 : Int64} {i1 : Int64} {i2 : Int64} {i3 : Int32} {step : Int64} {qmax : Int64} {q : Int64} {z3 : Int64} {mm : Int64} {z6 : Int64} {room : Int64} {z9 : Int64} {z12 : Int64} {z15 : Int32} {z18 : Int64} {z19 : Int32}
    (hstep : step = ((1 : Int64) + ((i0 &&& (9223372036854775807 : Int64)) - ((i0 &&& (9223372036854775807 : Int64)) / (9223372036854775807 : Int64)) * (9223372036854775807 : Int64))))
    (hqmax : qmax = ((9223372036854775807 : Int64) / step))
    (hq : q = ((i1 &&& (9223372036854775807 : Int64)) - ((i1 &&& (9223372036854775807 : Int64)) / qmax) * qmax))
    (hz3 : z3 = (if (i3 &&& (8 : Int32)) = (0 : Int32) then q else qmax))
    (hmm : mm = (z3 * step))
    (hz6 : z6 = (if (i3 &&& (4 : Int32)) = (0 : Int32) then ((i2 &&& (9223372036854775807 : Int64)) - ((i2 &&& (9223372036854775807 : Int64)) / step) * step) else (0 : Int64)))
    (hroom : room = ((9223372036854775807 : Int64) - mm))
    (hz9 : z9 = (if room < z6 then (z6 - (z6 / (room + (1 : Int64))) * (room + (1 : Int64))) else z6))
    (hz12 : z12 = (if (i3 &&& (1 : Int32)) = (0 : Int32) then (mm + z9) else ((-mm) - z9)))
    (hz15 : z15 = (own_b (z9 = (0 : Int64))))
    (hz18 : z18 = (if (i3 &&& (2 : Int32)) = (0 : Int32) then z12 else (-9223372036854775808 : Int64)))
    (hz19 : z19 = (own_b ((((i3 &&& (2 : Int32)) = (0 : Int32)) ∧ (z9 = (0 : Int64))) ∨ (¬ ((i3 &&& (2 : Int32)) = (0 : Int32)) ∧ ((step &&& (step - (1 : Int64))) = (0 : Int64)))))) : ¬ (step < (1 : Int64)) := by
  have h := own_stepb hstep
  rw [Int64.lt_iff_toInt_lt, own_L1]; omega
theorem own_p2 {i0 : Int64} {i1 : Int64} {i2 : Int64} {i3 : Int32} {step : Int64} {qmax : Int64} {q : Int64} {z3 : Int64} {mm : Int64} {z6 : Int64} {room : Int64} {z9 : Int64} {z12 : Int64} {z15 : Int32} {z18 : Int64} {z19 : Int32}
    (hstep : step = ((1 : Int64) + ((i0 &&& (9223372036854775807 : Int64)) - ((i0 &&& (9223372036854775807 : Int64)) / (9223372036854775807 : Int64)) * (9223372036854775807 : Int64))))
    (hqmax : qmax = ((9223372036854775807 : Int64) / step))
    (hq : q = ((i1 &&& (9223372036854775807 : Int64)) - ((i1 &&& (9223372036854775807 : Int64)) / qmax) * qmax))
    (hz3 : z3 = (if (i3 &&& (8 : Int32)) = (0 : Int32) then q else qmax))
    (hmm : mm = (z3 * step))
    (hz6 : z6 = (if (i3 &&& (4 : Int32)) = (0 : Int32) then ((i2 &&& (9223372036854775807 : Int64)) - ((i2 &&& (9223372036854775807 : Int64)) / step) * step) else (0 : Int64)))
    (hroom : room = ((9223372036854775807 : Int64) - mm))
    (hz9 : z9 = (if room < z6 then (z6 - (z6 / (room + (1 : Int64))) * (room + (1 : Int64))) else z6))
    (hz12 : z12 = (if (i3 &&& (1 : Int32)) = (0 : Int32) then (mm + z9) else ((-mm) - z9)))
    (hz15 : z15 = (own_b (z9 = (0 : Int64))))
    (hz18 : z18 = (if (i3 &&& (2 : Int32)) = (0 : Int32) then z12 else (-9223372036854775808 : Int64)))
    (hz19 : z19 = (own_b ((((i3 &&& (2 : Int32)) = (0 : Int32)) ∧ (z9 = (0 : Int64))) ∨ (¬ ((i3 &&& (2 : Int32)) = (0 : Int32)) ∧ ((step &&& (step - (1 : Int64))) = (0 : Int64)))))) : step ≠ 0 := by
  exact own_ne0 (own_stepb hstep).1
theorem own_main {i0 : Int64} {i1 : Int64} {i2 : Int64} {i3 : Int32} {step : Int64} {qmax : Int64} {q : Int64} {z3 : Int64} {mm : Int64} {z6 : Int64} {room : Int64} {z9 : Int64} {z12 : Int64} {z15 : Int32} {z18 : Int64} {z19 : Int32} {r54 : Int32}
    (hstep : step = ((1 : Int64) + ((i0 &&& (9223372036854775807 : Int64)) - ((i0 &&& (9223372036854775807 : Int64)) / (9223372036854775807 : Int64)) * (9223372036854775807 : Int64))))
    (hqmax : qmax = ((9223372036854775807 : Int64) / step))
    (hq : q = ((i1 &&& (9223372036854775807 : Int64)) - ((i1 &&& (9223372036854775807 : Int64)) / qmax) * qmax))
    (hz3 : z3 = (if (i3 &&& (8 : Int32)) = (0 : Int32) then q else qmax))
    (hmm : mm = (z3 * step))
    (hz6 : z6 = (if (i3 &&& (4 : Int32)) = (0 : Int32) then ((i2 &&& (9223372036854775807 : Int64)) - ((i2 &&& (9223372036854775807 : Int64)) / step) * step) else (0 : Int64)))
    (hroom : room = ((9223372036854775807 : Int64) - mm))
    (hz9 : z9 = (if room < z6 then (z6 - (z6 / (room + (1 : Int64))) * (room + (1 : Int64))) else z6))
    (hz12 : z12 = (if (i3 &&& (1 : Int32)) = (0 : Int32) then (mm + z9) else ((-mm) - z9)))
    (hz15 : z15 = (own_b (z9 = (0 : Int64))))
    (hz18 : z18 = (if (i3 &&& (2 : Int32)) = (0 : Int32) then z12 else (-9223372036854775808 : Int64)))
    (hz19 : z19 = (own_b ((((i3 &&& (2 : Int32)) = (0 : Int32)) ∧ (z9 = (0 : Int64))) ∨ (¬ ((i3 &&& (2 : Int32)) = (0 : Int32)) ∧ ((step &&& (step - (1 : Int64))) = (0 : Int64))))))
    (hr54 : r54 = (own_b ((z18 - (z18 / step) * step) = (0 : Int64)))) : ((z18 - (z18 / step) * step) = (0 : Int64)) ↔ ((((i3 &&& (2 : Int32)) = (0 : Int32)) ∧ (z9 = (0 : Int64))) ∨ (¬ ((i3 &&& (2 : Int32)) = (0 : Int32)) ∧ ((step &&& (step - (1 : Int64))) = (0 : Int64)))) := by
  have hs := own_stepb hstep
  obtain ⟨n1, n2, n3, n4, n5, n6, n7, n8⟩ := own_nums hstep hqmax hq hz3 hmm hz6 hroom hz9
  by_cases f : (i3 &&& (2 : Int32)) = (0 : Int32)
  · rw [if_pos f] at hz18
    have key : ((z18 - (z18 / step) * step) = (0 : Int64)) ↔ (z9 = (0 : Int64)) := by
      rw [own_rem0, hz18, ← Int64.toInt_inj, own_L0, ← own_dvd (k := z3.toInt) n6 n8]
      have r12 := rng64 z12
      by_cases g : (i3 &&& (1 : Int32)) = (0 : Int32)
      · rw [if_pos g] at hz12
        have c := c_ladd mm z9; rw [← hz12] at c
        have e : z12.toInt = z3.toInt * step.toInt + z9.toInt := by rw [← n1]; omega
        rw [e]
      · rw [if_neg g] at hz12
        have c0 := c_lneg mm; have r0 := rng64 (-mm)
        have c := c_lsub (-mm) z9; rw [← hz12] at c
        have e : z12.toInt = -(z3.toInt * step.toInt + z9.toInt) := by rw [← n1]; omega
        rw [e, Int.dvd_neg]
    rw [key]
    exact ⟨fun h => Or.inl ⟨f, h⟩, fun h => h.elim (fun q => q.2) (fun q => absurd f q.1)⟩
  · rw [if_neg f] at hz18
    rw [hz18, own_minz hs]
    exact ⟨fun h => Or.inr ⟨f, h⟩, fun h => h.elim (fun q => absurd q.1 f) (fun q => q.2)⟩
def Q2 (Z : State) (a1 : Addr) (h0 : Heap) (n0 : Nat) (v : Option Value) (h : Heap) (L : List Loc) : Prop := v = none ∧ Fr n0 L ∧ h = h0
set_option maxRecDepth 65536 in
set_option maxHeartbeats 40000000 in
theorem rm2 (l : Launch) (Z : State) (a0 : Array Value) (hw : ∀ d ∈ tables_1, d.before a0 Z = true) (ws : List Jvm.Cond) (a1 : Addr) (h0 : Heap) (n0 : Nat) (Z0 : n0 ≤ h0.size) :
    MetFree l (⟨"java/lang/Record", "<init>", "()V"⟩ : MethodName) (head1 (Jvm.Cond.code (⟨"java/lang/Record", "<init>", "()V"⟩ : MethodName) jdk_30_method_1_code 1 none :: ws) ({ frames := 1, cells := 0, slots := 0, locals := 12 } : Room)) (fun a U => a = #[(.ref a1)] ∧ Z.Warmed39 U.vm ∧ U.heap = h0) (fun _ _ _ _ _ => True) (fun _ U o U' => ∃ v L, o = .returned v ∧ Q2 Z a1 h0 n0 v U'.heap L ∧ FrameEnd U o U' L ({ frames := 1, cells := 0, slots := 0, locals := 12 } : Room).cells ({ frames := 1, cells := 0, slots := 0, locals := 12 } : Room).slots) := by
  refine MetFree.of_bodySF (plainFor_of_name pn_2) hisR ?_
  intro p e s m args below meth c s₁ Bd hml0 hP hK
  obtain ⟨rfl, hZ, hh⟩ := hP
  have hx := Bd.exec
  have hby := Bd.bytes
  have hlk := BodyLoose.notSynchronized Bd
  have hml : c.maxLocals = 1 := hml0
  have hown : s.vm.findClass "java/lang/Record" = some m.cls := findClass_of_methodNamed Bd.named
  have hnm := (name_of_methodNamed Bd.named Bd.method).1
  have X0 : Stand p l e ({ frames := 1, cells := 0, slots := 0, locals := 12 } : Room) s m #[(.ref a1)] below meth c s₁ [] 0 0 := Stand.of_body Bd
  have e0 : s₁.heap = h0 := by rw [← hh, Bd.state]; rfl
  have N0 := Fr.nil n0
  have K0 := Keep.refl h0 []
  show own_G p.tables e below (own_P s (Q2 Z a1 h0 n0) 0 0) (s₁.setTop (entryFrame m #[(.ref a1)] 1))
  refine own_st (fun t k => castTop (ef_2 m a1) k) ?_
  show own_G p.tables e below _ (s₁.setTop (mkF m 0 #[.val (.ref a1)] []))
  refine own_st (fun _ k => XS.aloadN X0.here hx rfl (hb hby d2_0) rfl rfl k) ?_
  show own_G p.tables e below _ (s₁.setTop (mkF m 1 #[.val (.ref a1)] [(.ref a1)]))
  obtain ⟨T1, X1, e1, st1⟩ := initO X0 hx hZ hown (hw _ (List.mem_of_getElem? (i := 24) rfl)) (hw _ (List.mem_of_getElem? (i := 25) rfl)) (hw _ (List.mem_of_getElem? (i := 26) rfl)) e0 (g := (mkF m 1 #[.val (.ref a1)] [(.ref a1)])) rfl (by rw [hml]; rfl) rfl (hb hby d2_1) (by decide) (W := 0) (by show 2 * 0 + _ ≤ _; exact Nat.le_of_eq rfl) (by decide)
  refine own_st st1 ?_
  show own_G p.tables e below _ (T1.setTop (mkF m 4 #[.val (.ref a1)] []))
  exact own_retV X1 hx hlk Bd.returns (hb hby d2_4) (by rw [e1]; exact ⟨rfl, N0, rfl⟩) (by decide) (by decide)
def Q4 (Z : State) (a1 : Addr) (a2 : Addr) (h0 : Heap) (n0 : Nat) (v : Option Value) (h : Heap) (L : List Loc) : Prop := v = some (.ref a1) ∧ Fr n0 L ∧ h = h0
set_option maxRecDepth 65536 in
set_option maxHeartbeats 40000000 in
theorem rm4 (l : Launch) (Z : State) (a0 : Array Value) (hw : ∀ d ∈ tables_1, d.before a0 Z = true) (ws : List Jvm.Cond) (a1 : Addr) (a2 : Addr) (h0 : Heap) (n0 : Nat) (Z0 : n0 ≤ h0.size) :
    MetFree l (⟨"java/util/Objects", "requireNonNull", "(Ljava/lang/Object;Ljava/lang/String;)Ljava/lang/Object;"⟩ : MethodName) (head1 (Jvm.Cond.code (⟨"java/util/Objects", "requireNonNull", "(Ljava/lang/Object;Ljava/lang/String;)Ljava/lang/Object;"⟩ : MethodName) jdk_31_method_11_code 2 (some (.object "java/lang/Object")) :: ws) ({ frames := 0, cells := 0, slots := 0, locals := 0 } : Room)) (fun a U => a = #[(.ref a1), (.ref a2)] ∧ Z.Warmed39 U.vm ∧ U.heap = h0) (fun _ _ _ _ _ => True) (fun _ U o U' => ∃ v L, o = .returned v ∧ Q4 Z a1 a2 h0 n0 v U'.heap L ∧ FrameEnd U o U' L ({ frames := 0, cells := 0, slots := 0, locals := 0 } : Room).cells ({ frames := 0, cells := 0, slots := 0, locals := 0 } : Room).slots) := by
  refine MetFree.of_bodySF (plainFor_of_name pn_4) hisR ?_
  intro p e s m args below meth c s₁ Bd hml0 hP hK
  obtain ⟨rfl, hZ, hh⟩ := hP
  have hx := Bd.exec
  have hby := Bd.bytes
  have hlk := BodyLoose.notSynchronized Bd
  have hml : c.maxLocals = 2 := hml0
  have hown : s.vm.findClass "java/util/Objects" = some m.cls := findClass_of_methodNamed Bd.named
  have hnm := (name_of_methodNamed Bd.named Bd.method).1
  have X0 : Stand p l e ({ frames := 0, cells := 0, slots := 0, locals := 0 } : Room) s m #[(.ref a1), (.ref a2)] below meth c s₁ [] 0 0 := Stand.of_body Bd
  have e0 : s₁.heap = h0 := by rw [← hh, Bd.state]; rfl
  have N0 := Fr.nil n0
  have K0 := Keep.refl h0 []
  show own_G p.tables e below (own_P s (Q4 Z a1 a2 h0 n0) 0 0) (s₁.setTop (entryFrame m #[(.ref a1), (.ref a2)] 2))
  refine own_st (fun t k => castTop (ef_4 m a1 a2) k) ?_
  show own_G p.tables e below _ (s₁.setTop (mkF m 0 #[.val (.ref a1), .val (.ref a2)] []))
  refine own_st (fun _ k => XS.aloadN X0.here hx rfl (hb hby d4_0) rfl rfl k) ?_
  show own_G p.tables e below _ (s₁.setTop (mkF m 1 #[.val (.ref a1), .val (.ref a2)] [(.ref a1)]))
  refine own_st (fun _ k => XS.ifnonnullYes X0.here hx rfl (pc0 := 1) (pc' := 13) rfl (hb hby d4_1) rfl (by decide) (by decide) k) ?_
  show own_G p.tables e below _ (s₁.setTop (mkF m 13 #[.val (.ref a1), .val (.ref a2)] []))
  refine own_st (fun _ k => XS.aloadN X0.here hx rfl (hb hby d4_13) rfl rfl k) ?_
  show own_G p.tables e below _ (s₁.setTop (mkF m 14 #[.val (.ref a1), .val (.ref a2)] [(.ref a1)]))
  exact own_retR X0 hx hlk Bd.returns (by rfl) (by rfl) (by rfl) (hb hby d4_14) (by rw [e0]; exact ⟨rfl, N0, rfl⟩) (by decide) (by decide)
def Q5 (Z : State) (a1 : Addr) (b_value_a1 : Addr) (k_value_a1 : ClassId) (u_coder_a1 : Int32) (h0 : Heap) (n0 : Nat) (v : Option Value) (h : Heap) (L : List Loc) : Prop := (∃ z : Int32, v = some (.int z) ∧ z = (0 : Int32)) ∧ Fr n0 L ∧ h = h0
set_option maxRecDepth 65536 in
set_option maxHeartbeats 40000000 in
theorem rm5 (l : Launch) (Z : State) (a0 : Array Value) (hw : ∀ d ∈ tables_1, d.before a0 Z = true) (ws : List Jvm.Cond) (a1 : Addr) (b_value_a1 : Addr) (k_value_a1 : ClassId) (u_coder_a1 : Int32) (h0 : Heap) (n0 : Nat) (Z0 : n0 ≤ h0.size) (F_value_a1 : Fld Z h0 a1 "java/lang/String" "value" "[B" (.ref b_value_a1)) (V_b_value_a1 : Arv Z h0 b_value_a1 k_value_a1 .byte (1 : Int32) [(.int (83 : Int32))] (.int (0 : Int32))) (ne_a1_b_value_a1 : a1 ≠ b_value_a1) (F_coder_a1 : Fld Z h0 a1 "java/lang/String" "coder" "B" (.int u_coder_a1)) (E_a1 : Exa Z h0 a1 "java/lang/String") :
    MetFree l (⟨"java/lang/String", "isEmpty", "()Z"⟩ : MethodName) (head1 (Jvm.Cond.code (⟨"java/lang/String", "isEmpty", "()Z"⟩ : MethodName) jdk_42_method_55_code 1 (some .boolean) :: ws) ({ frames := 0, cells := 0, slots := 0, locals := 0 } : Room)) (fun a U => a = #[(.ref a1)] ∧ Z.Warmed39 U.vm ∧ U.heap = h0) (fun _ _ _ _ _ => True) (fun _ U o U' => ∃ v L, o = .returned v ∧ Q5 Z a1 b_value_a1 k_value_a1 u_coder_a1 h0 n0 v U'.heap L ∧ FrameEnd U o U' L ({ frames := 0, cells := 0, slots := 0, locals := 0 } : Room).cells ({ frames := 0, cells := 0, slots := 0, locals := 0 } : Room).slots) := by
  refine MetFree.of_bodySF (plainFor_of_name pn_5) hisR ?_
  intro p e s m args below meth c s₁ Bd hml0 hP hK
  obtain ⟨rfl, hZ, hh⟩ := hP
  have hx := Bd.exec
  have hby := Bd.bytes
  have hlk := BodyLoose.notSynchronized Bd
  have hml : c.maxLocals = 1 := hml0
  have hown : s.vm.findClass "java/lang/String" = some m.cls := findClass_of_methodNamed Bd.named
  have hnm := (name_of_methodNamed Bd.named Bd.method).1
  have X0 : Stand p l e ({ frames := 0, cells := 0, slots := 0, locals := 0 } : Room) s m #[(.ref a1)] below meth c s₁ [] 0 0 := Stand.of_body Bd
  have e0 : s₁.heap = h0 := by rw [← hh, Bd.state]; rfl
  have N0 := Fr.nil n0
  have K0 := Keep.refl h0 []
  show own_G p.tables e below (own_P s (Q5 Z a1 b_value_a1 k_value_a1 u_coder_a1 h0 n0) 0 0) (s₁.setTop (entryFrame m #[(.ref a1)] 1))
  refine own_st (fun t k => castTop (ef_5 m a1) k) ?_
  show own_G p.tables e below _ (s₁.setTop (mkF m 0 #[.val (.ref a1)] []))
  refine own_st (fun _ k => XS.aloadN X0.here hx rfl (hb hby d5_0) rfl rfl k) ?_
  show own_G p.tables e below _ (s₁.setTop (mkF m 1 #[.val (.ref a1)] [(.ref a1)]))
  obtain ⟨T1, X1, e1, st1⟩ := getF X0 hx hZ hown (host := "") (Or.inl (hw _ (List.mem_of_getElem? (i := 38) rfl))) Via.refl e0 F_value_a1 (g := (mkF m 1 #[.val (.ref a1)] [(.ref a1)])) rfl rfl (hb hby d5_1)
  refine own_st st1 ?_
  show own_G p.tables e below _ (T1.setTop (mkF m 4 #[.val (.ref a1)] [(.ref b_value_a1)]))
  obtain ⟨cl2, Ar2, q2, S2, Nn2, H2, G2⟩ := V_b_value_a1
  refine own_st (fun _ k => X1.arraylength hx (by rw [e1]; exact Ar2.1) (State.isArrayOf_alike hZ.alike Ar2.2.1) (g := (mkF m 4 #[.val (.ref a1)] [(.ref b_value_a1)])) rfl rfl (hb hby d5_4) _ (by rw [len_of S2 Nn2]; exact k)) ?_
  show own_G p.tables e below _ (T1.setTop (mkF m 5 #[.val (.ref a1)] [(.int (1 : Int32))]))
  have V3 : Arv Z h0 b_value_a1 k_value_a1 .byte (1 : Int32) [(.int (83 : Int32))] (.int (0 : Int32)) := ⟨cl2, Ar2, q2, S2, Nn2, H2, G2⟩
  refine own_st (fun _ k => XS.ifYes X1.here hx rfl (pc0 := 5) (pc' := 12) rfl (hb hby d5_5) rfl (by decide) (by decide) (by decide) k) ?_
  show own_G p.tables e below _ (T1.setTop (mkF m 12 #[.val (.ref a1)] []))
  refine own_st (fun _ k => XS.iconst X1.here hx rfl (hb hby d5_12) k) ?_
  show own_G p.tables e below _ (T1.setTop (mkF m 13 #[.val (.ref a1)] [(.int (0 : Int32))]))
  exact own_retZ X1 hx hlk Bd.returns (hb hby d5_13) (by decide) (by rw [e1]; exact ⟨⟨_, rfl, rfl⟩, N0, rfl⟩) (by decide) (by decide)
def Q1 (Z : State) (a1 : Addr) (a2 : Addr) (q1 : Int64) (q2 : Int64) (a3 : Addr) (u_symbol_a1 : Value) (u_priceStep_a1 : Int64) (u_lot_a1 : Int64) (u_allocation_a1 : Value) (b_value_a2 : Addr) (k_value_a2 : ClassId) (u_coder_a2 : Int32) (h0 : Heap) (n0 : Nat) (v : Option Value) (h : Heap) (L : List Loc) : Prop := v = none ∧ Fr n0 L ∧ Keep h0 h [a1] ∧ Exa Z h a1 "com/example/stakan/stakan/core/Instrument" ∧ Fld Z h a1 "com/example/stakan/stakan/core/Instrument" "symbol" "Ljava/lang/String;" (.ref a2) ∧ Fld Z h a1 "com/example/stakan/stakan/core/Instrument" "priceStep" "J" (.long q1) ∧ Fld Z h a1 "com/example/stakan/stakan/core/Instrument" "lot" "J" (.long q2) ∧ Fld Z h a1 "com/example/stakan/stakan/core/Instrument" "allocation" "Lcom/example/stakan/stakan/core/Allocation;" (.ref a3)
set_option maxRecDepth 65536 in
set_option maxHeartbeats 40000000 in
theorem rm1 (l : Launch) (Z : State) (a0 : Array Value) (hw : ∀ d ∈ tables_1, d.before a0 Z = true) (ws : List Jvm.Cond) (a1 : Addr) (a2 : Addr) (q1 : Int64) (q2 : Int64) (a3 : Addr) (u_symbol_a1 : Value) (u_priceStep_a1 : Int64) (u_lot_a1 : Int64) (u_allocation_a1 : Value) (b_value_a2 : Addr) (k_value_a2 : ClassId) (u_coder_a2 : Int32) (h0 : Heap) (n0 : Nat) (Z0 : n0 ≤ h0.size) (F_symbol_a1 : Fld Z h0 a1 "com/example/stakan/stakan/core/Instrument" "symbol" "Ljava/lang/String;" u_symbol_a1) (F_priceStep_a1 : Fld Z h0 a1 "com/example/stakan/stakan/core/Instrument" "priceStep" "J" (.long u_priceStep_a1)) (F_lot_a1 : Fld Z h0 a1 "com/example/stakan/stakan/core/Instrument" "lot" "J" (.long u_lot_a1)) (F_allocation_a1 : Fld Z h0 a1 "com/example/stakan/stakan/core/Instrument" "allocation" "Lcom/example/stakan/stakan/core/Allocation;" u_allocation_a1) (E_a1 : Exa Z h0 a1 "com/example/stakan/stakan/core/Instrument") (F_value_a2 : Fld Z h0 a2 "java/lang/String" "value" "[B" (.ref b_value_a2)) (V_b_value_a2 : Arv Z h0 b_value_a2 k_value_a2 .byte (1 : Int32) [(.int (83 : Int32))] (.int (0 : Int32))) (ne_a2_b_value_a2 : a2 ≠ b_value_a2) (F_coder_a2 : Fld Z h0 a2 "java/lang/String" "coder" "B" (.int u_coder_a2)) (E_a2 : Exa Z h0 a2 "java/lang/String") (ne12 : a1 ≠ a2) (ne1b : a1 ≠ b_value_a2) (hp1 : ¬ (q1 < (1 : Int64))) (hp2 : ¬ (q2 < (1 : Int64))) (ge_a1 : n0 ≤ a1) :
    MetFree l (⟨"com/example/stakan/stakan/core/Instrument", "<init>", "(Ljava/lang/String;JJLcom/example/stakan/stakan/core/Allocation;)V"⟩ : MethodName) (head1 (Jvm.Cond.code (⟨"com/example/stakan/stakan/core/Instrument", "<init>", "(Ljava/lang/String;JJLcom/example/stakan/stakan/core/Allocation;)V"⟩ : MethodName) prog_11_method_1_code 7 none :: ws) ({ frames := 2, cells := 4, slots := 72, locals := 24 } : Room)) (fun a U => a = #[(.ref a1), (.ref a2), (.long q1), (.long q2), (.ref a3)] ∧ Z.Warmed39 U.vm ∧ U.heap = h0) (fun _ _ _ _ _ => True) (fun _ U o U' => ∃ v L, o = .returned v ∧ Q1 Z a1 a2 q1 q2 a3 u_symbol_a1 u_priceStep_a1 u_lot_a1 u_allocation_a1 b_value_a2 k_value_a2 u_coder_a2 h0 n0 v U'.heap L ∧ ReturnedEndW U o U' L ({ frames := 2, cells := 4, slots := 72, locals := 24 } : Room).cells ({ frames := 2, cells := 4, slots := 72, locals := 24 } : Room).slots) := by
  refine MetFree.of_bodySF (plainFor_of_name pn_1) hisR ?_
  intro p e s m args below meth c s₁ Bd hml0 hP hK
  obtain ⟨rfl, hZ, hh⟩ := hP
  have hx := Bd.exec
  have hby := Bd.bytes
  have hlk := BodyLoose.notSynchronized Bd
  have hml : c.maxLocals = 7 := hml0
  have hown : s.vm.findClass "com/example/stakan/stakan/core/Instrument" = some m.cls := findClass_of_methodNamed Bd.named
  have hnm := (name_of_methodNamed Bd.named Bd.method).1
  have X0 : Stand p l e ({ frames := 2, cells := 4, slots := 72, locals := 24 } : Room) s m #[(.ref a1), (.ref a2), (.long q1), (.long q2), (.ref a3)] below meth c s₁ [] 0 0 := Stand.of_body Bd
  have e0 : s₁.heap = h0 := by rw [← hh, Bd.state]; rfl
  have N0 := Fr.nil n0
  have K0 := Keep.refl h0 [a1]
  show own_G p.tables e below (own_PW s (Q1 Z a1 a2 q1 q2 a3 u_symbol_a1 u_priceStep_a1 u_lot_a1 u_allocation_a1 b_value_a2 k_value_a2 u_coder_a2 h0 n0) 4 72) (s₁.setTop (entryFrame m #[(.ref a1), (.ref a2), (.long q1), (.long q2), (.ref a3)] 7))
  refine own_st (fun t k => castTop (ef_1 m a1 a2 q1 q2 a3) k) ?_
  show own_G p.tables e below _ (s₁.setTop (mkF m 0 #[.val (.ref a1), .val (.ref a2), .val (.long q1), .second, .val (.long q2), .second, .val (.ref a3)] []))
  have hwS : ∀ a ∈ Bundle.stringAtoms, a.before a0 Z = true := fun a ha => hw a ((by decide +kernel : ∀ a ∈ Bundle.stringAtoms, a ∈ tables_1) a ha)
  refine own_st (fun _ k => XS.aloadN X0.here hx rfl (hb hby d1_0) rfl rfl k) ?_
  show own_G p.tables e below _ (s₁.setTop (mkF m 1 #[.val (.ref a1), .val (.ref a2), .val (.long q1), .second, .val (.long q2), .second, .val (.ref a3)] [(.ref a1)]))
  obtain ⟨_, _, ⟨T1, L1, k1, n1⟩, -, X1, ⟨Lc1, hQ1, l1, y1, z1⟩, st1⟩ := X0.specialBack hx (y := (⟨"java/lang/Record", "<init>", "()V"⟩ : MethodName)) rfl hown (mvT hZ (hw _ (List.mem_of_getElem? (i := 19) rfl))) (mvT hZ (hw _ (List.mem_of_getElem? (i := 20) rfl))) (mvT hZ (hw _ (List.mem_of_getElem? (i := 23) rfl))) (by decide) (backOf (W := 0) (rm2 l Z a0 hw [] a1 h0 n0 Z0 ) hZ (hw _ (List.mem_of_getElem? (i := 23) rfl)) (hw _ (List.mem_of_getElem? (i := 22) rfl)) (by decide) (by decide)) (g := (mkF m 1 #[.val (.ref a1), .val (.ref a2), .val (.long q1), .second, .val (.long q2), .second, .val (.ref a3)] [(.ref a1)])) rfl (by rw [hml]; rfl) (Steps.refl _) (a := a1) (argsL := []) (rest := []) (lenOf pd_0 rfl) rfl (by show 2 * 0 + _ ≤ _; exact Nat.le_of_eq rfl) (hb hby d1_1) (fun _ _ => ⟨rfl, e0, (by decide : 0 + 0 ≤ _), (by decide : 0 + 0 ≤ _)⟩)
  dsimp only [Pt.U, Pt.locs, Pt.cells, Pt.slots] at X1 l1 y1 z1 st1 hQ1
  subst l1 y1 z1
  obtain ⟨rfl, N1q, e1⟩ := hQ1
  have N1 := Fr.app N0 N1q
  refine own_st (fun _ k => st1.trans k) ?_
  show own_G p.tables e below _ (T1.setTop (mkF m 4 #[.val (.ref a1), .val (.ref a2), .val (.long q1), .second, .val (.long q2), .second, .val (.ref a3)] []))
  refine own_st (fun _ k => XS.aloadN X1.here hx rfl (hb hby d1_4) rfl rfl k) ?_
  show own_G p.tables e below _ (T1.setTop (mkF m 5 #[.val (.ref a1), .val (.ref a2), .val (.long q1), .second, .val (.long q2), .second, .val (.ref a3)] [(.ref a2)]))
  obtain ⟨la2, T2, h2, k2, X2, e2, E2, hS2, hk2, hZ2, hown2, st2⟩ := ldcS (show Stand p l e ({ frames := 2, cells := 4, slots := 72, locals := 24 } : Room) (s.setVm s.vm) m #[(.ref a1), (.ref a2), (.long q1), (.long q2), (.ref a3)] below meth c T1 _ _ _ from X1) hx (vm0 := s.vm) hZ hown (hw _ (List.mem_of_getElem? (i := 27) rfl)) hwS e1 ((State.WarmedH.refl s).since n0) Z0 (g := (mkF m 5 #[.val (.ref a1), .val (.ref a2), .val (.long q1), .second, .val (.long q2), .second, .val (.ref a3)] [(.ref a2)])) rfl (hb hby d1_5) (n := 24) (by decide) (by decide) (by decide) (by decide)
  have E3 := E_a1.ext E2
  have F4 := F_symbol_a1.ext E2
  have F5 := F_priceStep_a1.ext E2
  have F6 := F_lot_a1.ext E2
  have F7 := F_allocation_a1.ext E2
  have E8 := E_a2.ext E2
  have F9 := F_value_a2.ext E2
  have F10 := F_coder_a2.ext E2
  have V11 := V_b_value_a2.ext E2
  have Z12 := Nat.le_trans Z0 E2.1
  have K13 := K0.ext E2
  refine own_st st2 ?_
  show own_G p.tables e below _ (T2.setTop (mkF m 7 #[.val (.ref a1), .val (.ref a2), .val (.long q1), .second, .val (.long q2), .second, .val (.ref a3)] [(.ref la2), (.ref a2)]))
  obtain ⟨_, _, ⟨T14, L14, k14, n14⟩, -, X14, ⟨Lc14, hQ14, l14, y14, z14⟩, st14⟩ := Jvm.LawKit.callS X2 hx (y := (⟨"java/util/Objects", "requireNonNull", "(Ljava/lang/Object;Ljava/lang/String;)Ljava/lang/Object;"⟩ : MethodName)) hown2 (mvT hZ2 (hw _ (List.mem_of_getElem? (i := 28) rfl))) (mvT hZ2 (hw _ (List.mem_of_getElem? (i := 29) rfl))) (mvT hZ2 (hw _ (List.mem_of_getElem? (i := 30) rfl))) (mvT hZ2 (hw _ (List.mem_of_getElem? (i := 31) rfl))) (by decide) (backOf (W := 0) (rm4 l Z a0 hw [] a2 la2 h2 n0 Z12 ) hZ2 (hw _ (List.mem_of_getElem? (i := 31) rfl)) (hw _ (List.mem_of_getElem? (i := 30) rfl)) (by decide) (by decide)) (g := (mkF m 7 #[.val (.ref a1), .val (.ref a2), .val (.long q1), .second, .val (.long q2), .second, .val (.ref a3)] [(.ref la2), (.ref a2)])) rfl (by rw [hml]; rfl) (argsL := [(.ref a2), (.ref la2)]) (rest := []) (lenOf pd_1 rfl) rfl (by show 2 * 0 + _ ≤ _; exact Nat.le_of_eq rfl) (hb hby d1_7) (fun _ _ => ⟨rfl, e2, (by decide : 2 + 0 ≤ _), (by decide : 28 + 0 ≤ _)⟩)
  dsimp only [Pt.U, Pt.locs, Pt.cells, Pt.slots] at X14 l14 y14 z14 st14 hQ14
  subst l14 y14 z14
  obtain ⟨rfl, N14q, e14⟩ := hQ14
  have N14 := Fr.app N1 N14q
  refine own_st st14 ?_
  show own_G p.tables e below _ (T14.setTop (mkF m 10 #[.val (.ref a1), .val (.ref a2), .val (.long q1), .second, .val (.long q2), .second, .val (.ref a3)] [(.ref a2)]))
  refine own_st (fun _ k => XS.pop X14.here hx rfl (hb hby d1_10) rfl rfl k) ?_
  show own_G p.tables e below _ (T14.setTop (mkF m 11 #[.val (.ref a1), .val (.ref a2), .val (.long q1), .second, .val (.long q2), .second, .val (.ref a3)] []))
  refine own_st (fun _ k => XS.aload X14.here hx rfl (hb hby d1_11) rfl rfl k) ?_
  show own_G p.tables e below _ (T14.setTop (mkF m 13 #[.val (.ref a1), .val (.ref a2), .val (.long q1), .second, .val (.long q2), .second, .val (.ref a3)] [(.ref a3)]))
  obtain ⟨la15, T15, h15, k15, X15, e15, E15, hS15, hk15, hZ15, hown15, st15⟩ := ldcS X14 hx (vm0 := T2.vm) hZ2 hown2 (hw _ (List.mem_of_getElem? (i := 32) rfl)) hwS e14 hS2 hk2 (g := (mkF m 13 #[.val (.ref a1), .val (.ref a2), .val (.long q1), .second, .val (.long q2), .second, .val (.ref a3)] [(.ref a3)])) rfl (hb hby d1_13) (n := 40) (by decide) (by decide) (by decide) (by decide)
  have E16 := E3.ext E15
  have F17 := F4.ext E15
  have F18 := F5.ext E15
  have F19 := F6.ext E15
  have F20 := F7.ext E15
  have E21 := E8.ext E15
  have F22 := F9.ext E15
  have F23 := F10.ext E15
  have V24 := V11.ext E15
  have Z25 := Nat.le_trans Z12 E15.1
  have K26 := K13.ext E15
  refine own_st st15 ?_
  show own_G p.tables e below _ (T15.setTop (mkF m 15 #[.val (.ref a1), .val (.ref a2), .val (.long q1), .second, .val (.long q2), .second, .val (.ref a3)] [(.ref la15), (.ref a3)]))
  obtain ⟨_, _, ⟨T27, L27, k27, n27⟩, -, X27, ⟨Lc27, hQ27, l27, y27, z27⟩, st27⟩ := Jvm.LawKit.callS X15 hx (y := (⟨"java/util/Objects", "requireNonNull", "(Ljava/lang/Object;Ljava/lang/String;)Ljava/lang/Object;"⟩ : MethodName)) hown15 (mvT hZ15 (hw _ (List.mem_of_getElem? (i := 28) rfl))) (mvT hZ15 (hw _ (List.mem_of_getElem? (i := 29) rfl))) (mvT hZ15 (hw _ (List.mem_of_getElem? (i := 30) rfl))) (mvT hZ15 (hw _ (List.mem_of_getElem? (i := 31) rfl))) (by decide) (backOf (W := 0) (rm4 l Z a0 hw [] a3 la15 h15 n0 Z25 ) hZ15 (hw _ (List.mem_of_getElem? (i := 31) rfl)) (hw _ (List.mem_of_getElem? (i := 30) rfl)) (by decide) (by decide)) (g := (mkF m 15 #[.val (.ref a1), .val (.ref a2), .val (.long q1), .second, .val (.long q2), .second, .val (.ref a3)] [(.ref la15), (.ref a3)])) rfl (by rw [hml]; rfl) (argsL := [(.ref a3), (.ref la15)]) (rest := []) (lenOf pd_1 rfl) rfl (by show 2 * 0 + _ ≤ _; exact Nat.le_of_eq rfl) (hb hby d1_15) (fun _ _ => ⟨rfl, e15, (by decide : 4 + 0 ≤ _), (by decide : 72 + 0 ≤ _)⟩)
  dsimp only [Pt.U, Pt.locs, Pt.cells, Pt.slots] at X27 l27 y27 z27 st27 hQ27
  subst l27 y27 z27
  obtain ⟨rfl, N27q, e27⟩ := hQ27
  have N27 := Fr.app N14 N27q
  refine own_st st27 ?_
  show own_G p.tables e below _ (T27.setTop (mkF m 18 #[.val (.ref a1), .val (.ref a2), .val (.long q1), .second, .val (.long q2), .second, .val (.ref a3)] [(.ref a3)]))
  refine own_st (fun _ k => XS.pop X27.here hx rfl (hb hby d1_18) rfl rfl k) ?_
  show own_G p.tables e below _ (T27.setTop (mkF m 19 #[.val (.ref a1), .val (.ref a2), .val (.long q1), .second, .val (.long q2), .second, .val (.ref a3)] []))
  refine own_st (fun _ k => XS.aloadN X27.here hx rfl (hb hby d1_19) rfl rfl k) ?_
  show own_G p.tables e below _ (T27.setTop (mkF m 20 #[.val (.ref a1), .val (.ref a2), .val (.long q1), .second, .val (.long q2), .second, .val (.ref a3)] [(.ref a2)]))
  obtain ⟨cq28, kq28, q28a, q28b, q28c⟩ := isOf hZ15 e27 E21
  obtain ⟨_, _, ⟨T28, L28, k28, n28⟩, -, X28, ⟨Lc28, hQ28, l28, y28, z28⟩, st28⟩ := X27.virtualBack hx (y := (⟨"java/lang/String", "isEmpty", "()Z"⟩ : MethodName)) (z := (⟨"java/lang/String", "isEmpty", "()Z"⟩ : MethodName)) hown15 (mvT hZ15 (hw _ (List.mem_of_getElem? (i := 33) rfl))) (mvT hZ15 (hw _ (List.mem_of_getElem? (i := 34) rfl))) (notFace_of_selects (args := #[]) (mvT hZ15 (hw _ (List.mem_of_getElem? (i := 36) rfl)))) (mvT hZ15 (hw _ (List.mem_of_getElem? (i := 36) rfl))) (mvT hZ15 (hw _ (List.mem_of_getElem? (i := 35) rfl))) (by decide) (backOf (W := 0) (rm5 l Z a0 hw [] a2 b_value_a2 k_value_a2 u_coder_a2 h15 n0 Z25 F22 V24 ne_a2_b_value_a2 F23 E21) hZ15 (hw _ (List.mem_of_getElem? (i := 37) rfl)) (hw _ (List.mem_of_getElem? (i := 9) rfl)) (by decide) (by decide)) q28a q28c (g := (mkF m 20 #[.val (.ref a1), .val (.ref a2), .val (.long q1), .second, .val (.long q2), .second, .val (.ref a3)] [(.ref a2)])) rfl (by rw [hml]; rfl) (Steps.refl _) (argsL := []) (rest := []) (lenOf pd_2 rfl) rfl (by show 2 * 0 + _ ≤ _; exact Nat.le_of_eq rfl) (hb hby d1_20) (fun _ _ => ⟨rfl, e27, (by decide : 4 + 0 ≤ _), (by decide : 72 + 0 ≤ _)⟩)
  dsimp only [Pt.U, Pt.locs, Pt.cells, Pt.slots] at X28 l28 y28 z28 st28 hQ28
  subst l28 y28 z28
  obtain ⟨⟨_, rfl, rfl⟩, N28q, e28⟩ := hQ28
  have N28 := Fr.app N27 N28q
  refine own_st (fun _ k => st28.trans k) ?_
  show own_G p.tables e below _ (T28.setTop (mkF m 23 #[.val (.ref a1), .val (.ref a2), .val (.long q1), .second, .val (.long q2), .second, .val (.ref a3)] [(.int (0 : Int32))]))
  refine own_st (fun _ k => XS.ifYes X28.here hx rfl (pc0 := 23) (pc' := 36) rfl (hb hby d1_23) rfl (by decide) (by decide) (by decide) k) ?_
  show own_G p.tables e below _ (T28.setTop (mkF m 36 #[.val (.ref a1), .val (.ref a2), .val (.long q1), .second, .val (.long q2), .second, .val (.ref a3)] []))
  refine own_st (fun _ k => XS.lloadN X28.here hx rfl (hb hby d1_36) rfl k) ?_
  show own_G p.tables e below _ (T28.setTop (mkF m 37 #[.val (.ref a1), .val (.ref a2), .val (.long q1), .second, .val (.long q2), .second, .val (.ref a3)] [(.long q1)]))
  refine own_st (fun _ k => XS.lconst X28.here hx rfl (hb hby d1_37) k) ?_
  show own_G p.tables e below _ (T28.setTop (mkF m 38 #[.val (.ref a1), .val (.ref a2), .val (.long q1), .second, .val (.long q2), .second, .val (.ref a3)] [(.long (1 : Int64)), (.long q1)]))
  refine own_st (fun _ k => XS.lcmp X28.here hx rfl (hb hby d1_38) rfl k) ?_
  show own_G p.tables e below _ (T28.setTop (mkF m 39 #[.val (.ref a1), .val (.ref a2), .val (.long q1), .second, .val (.long q2), .second, .val (.ref a3)] [(.int (lcmpW q1 (1 : Int64)))]))
  have hf29 : ¬ (q1 < (1 : Int64)) := hp1
  refine own_st (fun _ k => XS.ifYes X28.here hx rfl (pc0 := 39) (pc' := 56) rfl (hb hby d1_39) rfl ((if0 _ _).trans (flt (fun q => hf29 ((lw_lt q1 (1 : Int64)).mp q))).2.1) (by decide) (by decide) k) ?_
  show own_G p.tables e below _ (T28.setTop (mkF m 56 #[.val (.ref a1), .val (.ref a2), .val (.long q1), .second, .val (.long q2), .second, .val (.ref a3)] []))
  refine own_st (fun _ k => XS.lload X28.here hx rfl (hb hby d1_56) rfl k) ?_
  show own_G p.tables e below _ (T28.setTop (mkF m 58 #[.val (.ref a1), .val (.ref a2), .val (.long q1), .second, .val (.long q2), .second, .val (.ref a3)] [(.long q2)]))
  refine own_st (fun _ k => XS.lconst X28.here hx rfl (hb hby d1_58) k) ?_
  show own_G p.tables e below _ (T28.setTop (mkF m 59 #[.val (.ref a1), .val (.ref a2), .val (.long q1), .second, .val (.long q2), .second, .val (.ref a3)] [(.long (1 : Int64)), (.long q2)]))
  refine own_st (fun _ k => XS.lcmp X28.here hx rfl (hb hby d1_59) rfl k) ?_
  show own_G p.tables e below _ (T28.setTop (mkF m 60 #[.val (.ref a1), .val (.ref a2), .val (.long q1), .second, .val (.long q2), .second, .val (.ref a3)] [(.int (lcmpW q2 (1 : Int64)))]))
  have hf30 : ¬ (q2 < (1 : Int64)) := hp2
  refine own_st (fun _ k => XS.ifYes X28.here hx rfl (pc0 := 60) (pc' := 78) rfl (hb hby d1_60) rfl ((if0 _ _).trans (flt (fun q => hf30 ((lw_lt q2 (1 : Int64)).mp q))).2.1) (by decide) (by decide) k) ?_
  show own_G p.tables e below _ (T28.setTop (mkF m 78 #[.val (.ref a1), .val (.ref a2), .val (.long q1), .second, .val (.long q2), .second, .val (.ref a3)] []))
  refine own_st (fun _ k => XS.aloadN X28.here hx rfl (hb hby d1_78) rfl rfl k) ?_
  show own_G p.tables e below _ (T28.setTop (mkF m 79 #[.val (.ref a1), .val (.ref a2), .val (.long q1), .second, .val (.long q2), .second, .val (.ref a3)] [(.ref a1)]))
  refine own_st (fun _ k => XS.aloadN X28.here hx rfl (hb hby d1_79) rfl rfl k) ?_
  show own_G p.tables e below _ (T28.setTop (mkF m 80 #[.val (.ref a1), .val (.ref a2), .val (.long q1), .second, .val (.long q2), .second, .val (.ref a3)] [(.ref a2), (.ref a1)]))
  obtain ⟨T31, h31, X31, e31, W31, st31⟩ := putF X28 hx hZ15 hown15 (host := "") (Or.inl (hw _ (List.mem_of_getElem? (i := 39) rfl))) Via.refl e28 F17 E16 (Or.inr ⟨(hw _ (List.mem_of_getElem? (i := 40) rfl)), rfl, hnm⟩) (hw _ (List.mem_of_getElem? (i := 6) rfl)) (ty := (.object "java/lang/String")) (by decide) rfl rfl (g := (mkF m 80 #[.val (.ref a1), .val (.ref a2), .val (.long q1), .second, .val (.long q2), .second, .val (.ref a3)] [(.ref a2), (.ref a1)])) rfl rfl (hb hby d1_80)
  have N31 := Fr.snoc X31 N28 ge_a1
  have E32 := E16.wr W31
  have F33 := F17.same W31
  have F34 := F18.other W31 (Or.inr (slot_ne (Or.inr (hw _ (List.mem_of_getElem? (i := 42) rfl))) (Or.inr (hw _ (List.mem_of_getElem? (i := 40) rfl))) (by decide) (t := .long) (t' := (.object "java/lang/String")) (by decide) (by decide)))
  have F35 := F19.other W31 (Or.inr (slot_ne (Or.inr (hw _ (List.mem_of_getElem? (i := 44) rfl))) (Or.inr (hw _ (List.mem_of_getElem? (i := 40) rfl))) (by decide) (t := .long) (t' := (.object "java/lang/String")) (by decide) (by decide)))
  have F36 := F20.other W31 (Or.inr (slot_ne (Or.inr (hw _ (List.mem_of_getElem? (i := 46) rfl))) (Or.inr (hw _ (List.mem_of_getElem? (i := 40) rfl))) (by decide) (t := (.object "com/example/stakan/stakan/core/Allocation")) (t' := (.object "java/lang/String")) (by decide) (by decide)))
  have E37 := E21.wr W31
  have F38 := F22.other W31 (Or.inl (Ne.symm ne12))
  have F39 := F23.other W31 (Or.inl (Ne.symm ne12))
  have V40 := V24.other W31 (Ne.symm ne1b)
  have Z41 := Nat.le_trans Z25 (Keep.of_wr W31).1
  have hk42 := Nat.le_trans hk15 (Keep.of_wr W31).1
  have K43 := K26.wr W31 (Or.inl (List.mem_of_getElem? (i := 0) rfl))
  refine own_st st31 ?_
  show own_G p.tables e below _ (T31.setTop (mkF m 83 #[.val (.ref a1), .val (.ref a2), .val (.long q1), .second, .val (.long q2), .second, .val (.ref a3)] []))
  refine own_st (fun _ k => XS.aloadN X31.here hx rfl (hb hby d1_83) rfl rfl k) ?_
  show own_G p.tables e below _ (T31.setTop (mkF m 84 #[.val (.ref a1), .val (.ref a2), .val (.long q1), .second, .val (.long q2), .second, .val (.ref a3)] [(.ref a1)]))
  refine own_st (fun _ k => XS.lloadN X31.here hx rfl (hb hby d1_84) rfl k) ?_
  show own_G p.tables e below _ (T31.setTop (mkF m 85 #[.val (.ref a1), .val (.ref a2), .val (.long q1), .second, .val (.long q2), .second, .val (.ref a3)] [(.long q1), (.ref a1)]))
  obtain ⟨T44, h44, X44, e44, W44, st44⟩ := putF X31 hx hZ15 hown15 (host := "") (Or.inl (hw _ (List.mem_of_getElem? (i := 41) rfl))) Via.refl e31 F34 E32 (Or.inr ⟨(hw _ (List.mem_of_getElem? (i := 42) rfl)), rfl, hnm⟩) (hw _ (List.mem_of_getElem? (i := 6) rfl)) (ty := .long) (by decide) rfl rfl (g := (mkF m 85 #[.val (.ref a1), .val (.ref a2), .val (.long q1), .second, .val (.long q2), .second, .val (.ref a3)] [(.long q1), (.ref a1)])) rfl rfl (hb hby d1_85)
  have N44 := Fr.snoc X44 N31 ge_a1
  have E45 := E32.wr W44
  have F46 := F33.other W44 (Or.inr (slot_ne (Or.inr (hw _ (List.mem_of_getElem? (i := 40) rfl))) (Or.inr (hw _ (List.mem_of_getElem? (i := 42) rfl))) (by decide) (t := (.object "java/lang/String")) (t' := .long) (by decide) (by decide)))
  have F47 := F34.same W44
  have F48 := F35.other W44 (Or.inr (slot_ne (Or.inr (hw _ (List.mem_of_getElem? (i := 44) rfl))) (Or.inr (hw _ (List.mem_of_getElem? (i := 42) rfl))) (by decide) (t := .long) (t' := .long) (by decide) (by decide)))
  have F49 := F36.other W44 (Or.inr (slot_ne (Or.inr (hw _ (List.mem_of_getElem? (i := 46) rfl))) (Or.inr (hw _ (List.mem_of_getElem? (i := 42) rfl))) (by decide) (t := (.object "com/example/stakan/stakan/core/Allocation")) (t' := .long) (by decide) (by decide)))
  have E50 := E37.wr W44
  have F51 := F38.other W44 (Or.inl (Ne.symm ne12))
  have F52 := F39.other W44 (Or.inl (Ne.symm ne12))
  have V53 := V40.other W44 (Ne.symm ne1b)
  have Z54 := Nat.le_trans Z41 (Keep.of_wr W44).1
  have hk55 := Nat.le_trans hk42 (Keep.of_wr W44).1
  have K56 := K43.wr W44 (Or.inl (List.mem_of_getElem? (i := 0) rfl))
  refine own_st st44 ?_
  show own_G p.tables e below _ (T44.setTop (mkF m 88 #[.val (.ref a1), .val (.ref a2), .val (.long q1), .second, .val (.long q2), .second, .val (.ref a3)] []))
  refine own_st (fun _ k => XS.aloadN X44.here hx rfl (hb hby d1_88) rfl rfl k) ?_
  show own_G p.tables e below _ (T44.setTop (mkF m 89 #[.val (.ref a1), .val (.ref a2), .val (.long q1), .second, .val (.long q2), .second, .val (.ref a3)] [(.ref a1)]))
  refine own_st (fun _ k => XS.lload X44.here hx rfl (hb hby d1_89) rfl k) ?_
  show own_G p.tables e below _ (T44.setTop (mkF m 91 #[.val (.ref a1), .val (.ref a2), .val (.long q1), .second, .val (.long q2), .second, .val (.ref a3)] [(.long q2), (.ref a1)]))
  obtain ⟨T57, h57, X57, e57, W57, st57⟩ := putF X44 hx hZ15 hown15 (host := "") (Or.inl (hw _ (List.mem_of_getElem? (i := 43) rfl))) Via.refl e44 F48 E45 (Or.inr ⟨(hw _ (List.mem_of_getElem? (i := 44) rfl)), rfl, hnm⟩) (hw _ (List.mem_of_getElem? (i := 6) rfl)) (ty := .long) (by decide) rfl rfl (g := (mkF m 91 #[.val (.ref a1), .val (.ref a2), .val (.long q1), .second, .val (.long q2), .second, .val (.ref a3)] [(.long q2), (.ref a1)])) rfl rfl (hb hby d1_91)
  have N57 := Fr.snoc X57 N44 ge_a1
  have E58 := E45.wr W57
  have F59 := F46.other W57 (Or.inr (slot_ne (Or.inr (hw _ (List.mem_of_getElem? (i := 40) rfl))) (Or.inr (hw _ (List.mem_of_getElem? (i := 44) rfl))) (by decide) (t := (.object "java/lang/String")) (t' := .long) (by decide) (by decide)))
  have F60 := F47.other W57 (Or.inr (slot_ne (Or.inr (hw _ (List.mem_of_getElem? (i := 42) rfl))) (Or.inr (hw _ (List.mem_of_getElem? (i := 44) rfl))) (by decide) (t := .long) (t' := .long) (by decide) (by decide)))
  have F61 := F48.same W57
  have F62 := F49.other W57 (Or.inr (slot_ne (Or.inr (hw _ (List.mem_of_getElem? (i := 46) rfl))) (Or.inr (hw _ (List.mem_of_getElem? (i := 44) rfl))) (by decide) (t := (.object "com/example/stakan/stakan/core/Allocation")) (t' := .long) (by decide) (by decide)))
  have E63 := E50.wr W57
  have F64 := F51.other W57 (Or.inl (Ne.symm ne12))
  have F65 := F52.other W57 (Or.inl (Ne.symm ne12))
  have V66 := V53.other W57 (Ne.symm ne1b)
  have Z67 := Nat.le_trans Z54 (Keep.of_wr W57).1
  have hk68 := Nat.le_trans hk55 (Keep.of_wr W57).1
  have K69 := K56.wr W57 (Or.inl (List.mem_of_getElem? (i := 0) rfl))
  refine own_st st57 ?_
  show own_G p.tables e below _ (T57.setTop (mkF m 94 #[.val (.ref a1), .val (.ref a2), .val (.long q1), .second, .val (.long q2), .second, .val (.ref a3)] []))
  refine own_st (fun _ k => XS.aloadN X57.here hx rfl (hb hby d1_94) rfl rfl k) ?_
  show own_G p.tables e below _ (T57.setTop (mkF m 95 #[.val (.ref a1), .val (.ref a2), .val (.long q1), .second, .val (.long q2), .second, .val (.ref a3)] [(.ref a1)]))
  refine own_st (fun _ k => XS.aload X57.here hx rfl (hb hby d1_95) rfl rfl k) ?_
  show own_G p.tables e below _ (T57.setTop (mkF m 97 #[.val (.ref a1), .val (.ref a2), .val (.long q1), .second, .val (.long q2), .second, .val (.ref a3)] [(.ref a3), (.ref a1)]))
  obtain ⟨T70, h70, X70, e70, W70, st70⟩ := putF X57 hx hZ15 hown15 (host := "") (Or.inl (hw _ (List.mem_of_getElem? (i := 45) rfl))) Via.refl e57 F62 E58 (Or.inr ⟨(hw _ (List.mem_of_getElem? (i := 46) rfl)), rfl, hnm⟩) (hw _ (List.mem_of_getElem? (i := 6) rfl)) (ty := (.object "com/example/stakan/stakan/core/Allocation")) (by decide) rfl rfl (g := (mkF m 97 #[.val (.ref a1), .val (.ref a2), .val (.long q1), .second, .val (.long q2), .second, .val (.ref a3)] [(.ref a3), (.ref a1)])) rfl rfl (hb hby d1_97)
  have N70 := Fr.snoc X70 N57 ge_a1
  have E71 := E58.wr W70
  have F72 := F59.other W70 (Or.inr (slot_ne (Or.inr (hw _ (List.mem_of_getElem? (i := 40) rfl))) (Or.inr (hw _ (List.mem_of_getElem? (i := 46) rfl))) (by decide) (t := (.object "java/lang/String")) (t' := (.object "com/example/stakan/stakan/core/Allocation")) (by decide) (by decide)))
  have F73 := F60.other W70 (Or.inr (slot_ne (Or.inr (hw _ (List.mem_of_getElem? (i := 42) rfl))) (Or.inr (hw _ (List.mem_of_getElem? (i := 46) rfl))) (by decide) (t := .long) (t' := (.object "com/example/stakan/stakan/core/Allocation")) (by decide) (by decide)))
  have F74 := F61.other W70 (Or.inr (slot_ne (Or.inr (hw _ (List.mem_of_getElem? (i := 44) rfl))) (Or.inr (hw _ (List.mem_of_getElem? (i := 46) rfl))) (by decide) (t := .long) (t' := (.object "com/example/stakan/stakan/core/Allocation")) (by decide) (by decide)))
  have F75 := F62.same W70
  have E76 := E63.wr W70
  have F77 := F64.other W70 (Or.inl (Ne.symm ne12))
  have F78 := F65.other W70 (Or.inl (Ne.symm ne12))
  have V79 := V66.other W70 (Ne.symm ne1b)
  have Z80 := Nat.le_trans Z67 (Keep.of_wr W70).1
  have hk81 := Nat.le_trans hk68 (Keep.of_wr W70).1
  have K82 := K69.wr W70 (Or.inl (List.mem_of_getElem? (i := 0) rfl))
  refine own_st st70 ?_
  show own_G p.tables e below _ (T70.setTop (mkF m 100 #[.val (.ref a1), .val (.ref a2), .val (.long q1), .second, .val (.long q2), .second, .val (.ref a3)] []))
  exact own_retVW X70 hS15 (by rw [e70]; exact hk81) hx hlk Bd.returns (hb hby d1_100) (by rw [e70]; exact ⟨rfl, N70, K82, E71, F72, F73, F74, F75⟩) (by decide) (by decide)
def Q6 (Z : State) (a1 : Addr) (q1 : Int64) (u_symbol_a1 : Value) (u_priceStep_a1 : Int64) (u_lot_a1 : Int64) (u_allocation_a1 : Value) (h0 : Heap) (n0 : Nat) (v : Option Value) (h : Heap) (L : List Loc) : Prop := (∃ z : Int32, v = some (.int z) ∧ z = (own_b ((q1 - (q1 / u_priceStep_a1) * u_priceStep_a1) = (0 : Int64)))) ∧ Fr n0 L ∧ h = h0
set_option maxRecDepth 65536 in
set_option maxHeartbeats 40000000 in
theorem rm6 (l : Launch) (Z : State) (a0 : Array Value) (hw : ∀ d ∈ tables_1, d.before a0 Z = true) (ws : List Jvm.Cond) (a1 : Addr) (q1 : Int64) (u_symbol_a1 : Value) (u_priceStep_a1 : Int64) (u_lot_a1 : Int64) (u_allocation_a1 : Value) (h0 : Heap) (n0 : Nat) (Z0 : n0 ≤ h0.size) (F_symbol_a1 : Fld Z h0 a1 "com/example/stakan/stakan/core/Instrument" "symbol" "Ljava/lang/String;" u_symbol_a1) (F_priceStep_a1 : Fld Z h0 a1 "com/example/stakan/stakan/core/Instrument" "priceStep" "J" (.long u_priceStep_a1)) (F_lot_a1 : Fld Z h0 a1 "com/example/stakan/stakan/core/Instrument" "lot" "J" (.long u_lot_a1)) (F_allocation_a1 : Fld Z h0 a1 "com/example/stakan/stakan/core/Instrument" "allocation" "Lcom/example/stakan/stakan/core/Allocation;" u_allocation_a1) (E_a1 : Exa Z h0 a1 "com/example/stakan/stakan/core/Instrument") (hnz : u_priceStep_a1 ≠ 0) :
    MetFree l (⟨"com/example/stakan/stakan/core/Instrument", "isOnPriceStep", "(J)Z"⟩ : MethodName) (head1 (Jvm.Cond.code (⟨"com/example/stakan/stakan/core/Instrument", "isOnPriceStep", "(J)Z"⟩ : MethodName) prog_11_method_3_code 3 (some .boolean) :: ws) ({ frames := 0, cells := 0, slots := 0, locals := 0 } : Room)) (fun a U => a = #[(.ref a1), (.long q1)] ∧ Z.Warmed39 U.vm ∧ U.heap = h0) (fun _ _ _ _ _ => True) (fun _ U o U' => ∃ v L, o = .returned v ∧ Q6 Z a1 q1 u_symbol_a1 u_priceStep_a1 u_lot_a1 u_allocation_a1 h0 n0 v U'.heap L ∧ FrameEnd U o U' L ({ frames := 0, cells := 0, slots := 0, locals := 0 } : Room).cells ({ frames := 0, cells := 0, slots := 0, locals := 0 } : Room).slots) := by
  refine MetFree.of_bodySF (plainFor_of_name pn_6) hisR ?_
  intro p e s m args below meth c s₁ Bd hml0 hP hK
  obtain ⟨rfl, hZ, hh⟩ := hP
  have hx := Bd.exec
  have hby := Bd.bytes
  have hlk := BodyLoose.notSynchronized Bd
  have hml : c.maxLocals = 3 := hml0
  have hown : s.vm.findClass "com/example/stakan/stakan/core/Instrument" = some m.cls := findClass_of_methodNamed Bd.named
  have hnm := (name_of_methodNamed Bd.named Bd.method).1
  have X0 : Stand p l e ({ frames := 0, cells := 0, slots := 0, locals := 0 } : Room) s m #[(.ref a1), (.long q1)] below meth c s₁ [] 0 0 := Stand.of_body Bd
  have e0 : s₁.heap = h0 := by rw [← hh, Bd.state]; rfl
  have N0 := Fr.nil n0
  have K0 := Keep.refl h0 []
  show own_G p.tables e below (own_P s (Q6 Z a1 q1 u_symbol_a1 u_priceStep_a1 u_lot_a1 u_allocation_a1 h0 n0) 0 0) (s₁.setTop (entryFrame m #[(.ref a1), (.long q1)] 3))
  refine own_st (fun t k => castTop (ef_6 m a1 q1) k) ?_
  show own_G p.tables e below _ (s₁.setTop (mkF m 0 #[.val (.ref a1), .val (.long q1), .second] []))
  refine own_st (fun _ k => XS.lloadN X0.here hx rfl (hb hby d6_0) rfl k) ?_
  show own_G p.tables e below _ (s₁.setTop (mkF m 1 #[.val (.ref a1), .val (.long q1), .second] [(.long q1)]))
  refine own_st (fun _ k => XS.aloadN X0.here hx rfl (hb hby d6_1) rfl rfl k) ?_
  show own_G p.tables e below _ (s₁.setTop (mkF m 2 #[.val (.ref a1), .val (.long q1), .second] [(.ref a1), (.long q1)]))
  obtain ⟨T1, X1, e1, st1⟩ := getF X0 hx hZ hown (host := "") (Or.inl (hw _ (List.mem_of_getElem? (i := 41) rfl))) Via.refl e0 F_priceStep_a1 (g := (mkF m 2 #[.val (.ref a1), .val (.long q1), .second] [(.ref a1), (.long q1)])) rfl rfl (hb hby d6_2)
  refine own_st st1 ?_
  show own_G p.tables e below _ (T1.setTop (mkF m 5 #[.val (.ref a1), .val (.long q1), .second] [(.long u_priceStep_a1), (.long q1)]))
  refine own_st (fun _ k => XS.lrem X1.here hx rfl (hb hby d6_5) rfl hnz k) ?_
  show own_G p.tables e below _ (T1.setTop (mkF m 6 #[.val (.ref a1), .val (.long q1), .second] [(.long (q1 - (q1 / u_priceStep_a1) * u_priceStep_a1))]))
  refine own_st (fun _ k => XS.lconst X1.here hx rfl (hb hby d6_6) k) ?_
  show own_G p.tables e below _ (T1.setTop (mkF m 7 #[.val (.ref a1), .val (.long q1), .second] [(.long (0 : Int64)), (.long (q1 - (q1 / u_priceStep_a1) * u_priceStep_a1))]))
  refine own_st (fun _ k => XS.lcmp X1.here hx rfl (hb hby d6_7) rfl k) ?_
  show own_G p.tables e below _ (T1.setTop (mkF m 8 #[.val (.ref a1), .val (.long q1), .second] [(.int (lcmpW (q1 - (q1 / u_priceStep_a1) * u_priceStep_a1) (0 : Int64)))]))
  have J16_3 : ∀ (z4 : Int32) (hz4 : z4 = (own_b ((q1 - (q1 / u_priceStep_a1) * u_priceStep_a1) = (0 : Int64)))), own_G p.tables e below (own_P s (Q6 Z a1 q1 u_symbol_a1 u_priceStep_a1 u_lot_a1 u_allocation_a1 h0 n0) 0 0) (T1.setTop (mkF m 16 #[.val (.ref a1), .val (.long q1), .second] [(.int z4)])) := by
    intro z4 hz4
    exact own_retZ X1 hx hlk Bd.returns (hb hby d6_16) (own_nar hz4) (by rw [e1]; exact ⟨⟨_, rfl, (by subst hz4; exact rfl)⟩, N0, rfl⟩) (by decide) (by decide)
  by_cases hc8_2 : (q1 - (q1 / u_priceStep_a1) * u_priceStep_a1) = (0 : Int64)
  · refine own_st (fun _ k => XS.ifNo X1.here hx rfl (hb hby d6_8) rfl ((if0 _ _).trans (teq ((lw_eq (q1 - (q1 / u_priceStep_a1) * u_priceStep_a1) (0 : Int64)).mpr hc8_2)).2) k) ?_
    show own_G p.tables e below _ (T1.setTop (mkF m 11 #[.val (.ref a1), .val (.long q1), .second] []))
    refine own_st (fun _ k => XS.iconst X1.here hx rfl (hb hby d6_11) k) ?_
    show own_G p.tables e below _ (T1.setTop (mkF m 12 #[.val (.ref a1), .val (.long q1), .second] [(.int (1 : Int32))]))
    refine own_st (fun _ k => XS.goto X1.here hx rfl (pc0 := 12) (pc' := 16) rfl (hb hby d6_12) (by decide) (by decide) k) ?_
    show own_G p.tables e below _ (T1.setTop (mkF m 16 #[.val (.ref a1), .val (.long q1), .second] [(.int (1 : Int32))]))
    exact J16_3 (1 : Int32) ((own_bt hc8_2).symm)
  · refine own_st (fun _ k => XS.ifYes X1.here hx rfl (pc0 := 8) (pc' := 15) rfl (hb hby d6_8) rfl ((if0 _ _).trans (feq (fun q => hc8_2 ((lw_eq (q1 - (q1 / u_priceStep_a1) * u_priceStep_a1) (0 : Int64)).mp q))).2) (by decide) (by decide) k) ?_
    show own_G p.tables e below _ (T1.setTop (mkF m 15 #[.val (.ref a1), .val (.long q1), .second] []))
    refine own_st (fun _ k => XS.iconst X1.here hx rfl (hb hby d6_15) k) ?_
    show own_G p.tables e below _ (T1.setTop (mkF m 16 #[.val (.ref a1), .val (.long q1), .second] [(.int (0 : Int32))]))
    exact J16_3 (0 : Int32) ((own_bf hc8_2).symm)
def Q0 (n0 : Nat) (v : Option Value) (h : Heap) (L : List Loc) : Prop := v = some (.int 1) ∧ Fr n0 L
set_option maxRecDepth 65536 in
set_option maxHeartbeats 40000000 in
theorem rm0 (l : Launch) (Z : State) (a0 : Array Value) (hw : ∀ d ∈ tables_1, d.before a0 Z = true) (ws : List Jvm.Cond) (i0 : Int64) (i1 : Int64) (i2 : Int64) (i3 : Int32) (v0 : Addr) (v1 : Addr) (v2 : Addr) (h0 : Heap) (n0 : Nat) (Z0 : n0 ≤ h0.size) (O0 : Old Z n0 h0) (S_TIME : Sta Z Z.heap "com/example/stakan/stakan/core/Allocation" "TIME" "Lcom/example/stakan/stakan/core/Allocation;" (.ref v0)) (S_PARITY : Sta Z Z.heap "com/example/stakan/stakan/core/Allocation" "PARITY" "Lcom/example/stakan/stakan/core/Allocation;" (.ref v1)) (S_PRO_RATA : Sta Z Z.heap "com/example/stakan/stakan/core/Allocation" "PRO_RATA" "Lcom/example/stakan/stakan/core/Allocation;" (.ref v2)) (hcw : Jvm.Lit.compactW.before a0 Z = true) (hh27 : Jvm.Lit.constHeld Z "com/example/stakan/stakan/core/InstrumentIsOnPriceStepPinLaw" 27) :
    MetFree l x (head1 (Jvm.Cond.code x code maxLocals ret :: ws) room_1) (fun a U => a = #[(.long i0), (.long i1), (.long i2), (.int i3)] ∧ Z.Warmed39 U.vm ∧ U.heap = h0 ∧ U = Z) (fun _ _ _ _ _ => True) (fun _ U o U' => ∃ v L, o = .returned v ∧ Q0 n0 v U'.heap L ∧ ReturnedEndW U o U' L 16 3200) := by
  refine MetFree.of_bodySF (plainFor_of_name pn_0) hisR ?_
  intro p e s m args below meth c s₁ Bd hml0 hP hK
  obtain ⟨rfl, hZ, hh, hUZ⟩ := hP
  have hx := Bd.exec
  have hby := Bd.bytes
  have hlk := BodyLoose.notSynchronized Bd
  have hml : c.maxLocals = 27 := hml0
  have hown : s.vm.findClass "com/example/stakan/stakan/core/InstrumentIsOnPriceStepPinLaw" = some m.cls := findClass_of_methodNamed Bd.named
  have hnm := (name_of_methodNamed Bd.named Bd.method).1
  have X0 : Stand p l e room_1 s m #[(.long i0), (.long i1), (.long i2), (.int i3)] below meth c s₁ [] 0 0 := Stand.of_body Bd
  have e0 : s₁.heap = h0 := by rw [← hh, Bd.state]; rfl
  have N0 := Fr.nil n0
  have K0 := Keep.refl h0 []
  show own_G p.tables e below (own_PW s (Q0 n0) 16 3200) (s₁.setTop (entryFrame m #[(.long i0), (.long i1), (.long i2), (.int i3)] maxLocals))
  refine own_st (fun t k => castTop (ef_0 m i0 i1 i2 i3) k) ?_
  show own_G p.tables e below _ (s₁.setTop (mkF m 0 #[.val (.long i0), .second, .val (.long i1), .second, .val (.long i2), .second, .val (.int i3), .unset, .unset, .unset, .unset, .unset, .unset, .unset, .unset, .unset, .unset, .unset, .unset, .unset, .unset, .unset, .unset, .unset, .unset, .unset, .unset] []))
  have hwS : ∀ a ∈ Bundle.stringAtoms, a.before a0 Z = true := fun a ha => hw a ((by decide +kernel : ∀ a ∈ Bundle.stringAtoms, a ∈ tables_1) a ha)
  refine own_st (X0.ldc2Long hx hown (mvT hZ (hw _ (List.mem_of_getElem? (i := 0) rfl))) (g := (mkF m 0 #[.val (.long i0), .second, .val (.long i1), .second, .val (.long i2), .second, .val (.int i3), .unset, .unset, .unset, .unset, .unset, .unset, .unset, .unset, .unset, .unset, .unset, .unset, .unset, .unset, .unset, .unset, .unset, .unset, .unset, .unset] [])) rfl (hb hby at_0)) ?_
  show own_G p.tables e below _ (s₁.setTop (mkF m 3 #[.val (.long i0), .second, .val (.long i1), .second, .val (.long i2), .second, .val (.int i3), .unset, .unset, .unset, .unset, .unset, .unset, .unset, .unset, .unset, .unset, .unset, .unset, .unset, .unset, .unset, .unset, .unset, .unset, .unset, .unset] [(.long (9223372036854775807 : Int64))]))
  refine own_st (fun _ k => XS.lstore X0.here hx rfl (hb hby at_3) rfl (l' := #[.val (.long i0), .second, .val (.long i1), .second, .val (.long i2), .second, .val (.int i3), .val (.long (9223372036854775807 : Int64)), .second, .unset, .unset, .unset, .unset, .unset, .unset, .unset, .unset, .unset, .unset, .unset, .unset, .unset, .unset, .unset, .unset, .unset, .unset]) rfl k) ?_
  show own_G p.tables e below _ (s₁.setTop (mkF m 5 #[.val (.long i0), .second, .val (.long i1), .second, .val (.long i2), .second, .val (.int i3), .val (.long (9223372036854775807 : Int64)), .second, .unset, .unset, .unset, .unset, .unset, .unset, .unset, .unset, .unset, .unset, .unset, .unset, .unset, .unset, .unset, .unset, .unset, .unset] []))
  refine own_st (fun _ k => XS.lconst X0.here hx rfl (hb hby at_5) k) ?_
  show own_G p.tables e below _ (s₁.setTop (mkF m 6 #[.val (.long i0), .second, .val (.long i1), .second, .val (.long i2), .second, .val (.int i3), .val (.long (9223372036854775807 : Int64)), .second, .unset, .unset, .unset, .unset, .unset, .unset, .unset, .unset, .unset, .unset, .unset, .unset, .unset, .unset, .unset, .unset, .unset, .unset] [(.long (1 : Int64))]))
  refine own_st (fun _ k => XS.lloadN X0.here hx rfl (hb hby at_6) rfl k) ?_
  show own_G p.tables e below _ (s₁.setTop (mkF m 7 #[.val (.long i0), .second, .val (.long i1), .second, .val (.long i2), .second, .val (.int i3), .val (.long (9223372036854775807 : Int64)), .second, .unset, .unset, .unset, .unset, .unset, .unset, .unset, .unset, .unset, .unset, .unset, .unset, .unset, .unset, .unset, .unset, .unset, .unset] [(.long i0), (.long (1 : Int64))]))
  refine own_st (fun _ k => XS.lload X0.here hx rfl (hb hby at_7) rfl k) ?_
  show own_G p.tables e below _ (s₁.setTop (mkF m 9 #[.val (.long i0), .second, .val (.long i1), .second, .val (.long i2), .second, .val (.int i3), .val (.long (9223372036854775807 : Int64)), .second, .unset, .unset, .unset, .unset, .unset, .unset, .unset, .unset, .unset, .unset, .unset, .unset, .unset, .unset, .unset, .unset, .unset, .unset] [(.long (9223372036854775807 : Int64)), (.long i0), (.long (1 : Int64))]))
  refine own_st (fun _ k => XS.land X0.here hx rfl (hb hby at_9) rfl k) ?_
  show own_G p.tables e below _ (s₁.setTop (mkF m 10 #[.val (.long i0), .second, .val (.long i1), .second, .val (.long i2), .second, .val (.int i3), .val (.long (9223372036854775807 : Int64)), .second, .unset, .unset, .unset, .unset, .unset, .unset, .unset, .unset, .unset, .unset, .unset, .unset, .unset, .unset, .unset, .unset, .unset, .unset] [(.long (i0 &&& (9223372036854775807 : Int64))), (.long (1 : Int64))]))
  refine own_st (fun _ k => XS.lload X0.here hx rfl (hb hby at_10) rfl k) ?_
  show own_G p.tables e below _ (s₁.setTop (mkF m 12 #[.val (.long i0), .second, .val (.long i1), .second, .val (.long i2), .second, .val (.int i3), .val (.long (9223372036854775807 : Int64)), .second, .unset, .unset, .unset, .unset, .unset, .unset, .unset, .unset, .unset, .unset, .unset, .unset, .unset, .unset, .unset, .unset, .unset, .unset] [(.long (9223372036854775807 : Int64)), (.long (i0 &&& (9223372036854775807 : Int64))), (.long (1 : Int64))]))
  refine own_st (fun _ k => XS.lrem X0.here hx rfl (hb hby at_12) rfl (by decide) k) ?_
  show own_G p.tables e below _ (s₁.setTop (mkF m 13 #[.val (.long i0), .second, .val (.long i1), .second, .val (.long i2), .second, .val (.int i3), .val (.long (9223372036854775807 : Int64)), .second, .unset, .unset, .unset, .unset, .unset, .unset, .unset, .unset, .unset, .unset, .unset, .unset, .unset, .unset, .unset, .unset, .unset, .unset] [(.long ((i0 &&& (9223372036854775807 : Int64)) - ((i0 &&& (9223372036854775807 : Int64)) / (9223372036854775807 : Int64)) * (9223372036854775807 : Int64))), (.long (1 : Int64))]))
  refine own_st (fun _ k => XS.ladd X0.here hx rfl (hb hby at_13) rfl k) ?_
  show own_G p.tables e below _ (s₁.setTop (mkF m 14 #[.val (.long i0), .second, .val (.long i1), .second, .val (.long i2), .second, .val (.int i3), .val (.long (9223372036854775807 : Int64)), .second, .unset, .unset, .unset, .unset, .unset, .unset, .unset, .unset, .unset, .unset, .unset, .unset, .unset, .unset, .unset, .unset, .unset, .unset] [(.long ((1 : Int64) + ((i0 &&& (9223372036854775807 : Int64)) - ((i0 &&& (9223372036854775807 : Int64)) / (9223372036854775807 : Int64)) * (9223372036854775807 : Int64))))]))
  refine own_st (fun _ k => XS.lstore X0.here hx rfl (hb hby at_14) rfl (l' := #[.val (.long i0), .second, .val (.long i1), .second, .val (.long i2), .second, .val (.int i3), .val (.long (9223372036854775807 : Int64)), .second, .val (.long ((1 : Int64) + ((i0 &&& (9223372036854775807 : Int64)) - ((i0 &&& (9223372036854775807 : Int64)) / (9223372036854775807 : Int64)) * (9223372036854775807 : Int64)))), .second, .unset, .unset, .unset, .unset, .unset, .unset, .unset, .unset, .unset, .unset, .unset, .unset, .unset, .unset, .unset, .unset]) rfl k) ?_
  show own_G p.tables e below _ (s₁.setTop (mkF m 16 #[.val (.long i0), .second, .val (.long i1), .second, .val (.long i2), .second, .val (.int i3), .val (.long (9223372036854775807 : Int64)), .second, .val (.long ((1 : Int64) + ((i0 &&& (9223372036854775807 : Int64)) - ((i0 &&& (9223372036854775807 : Int64)) / (9223372036854775807 : Int64)) * (9223372036854775807 : Int64)))), .second, .unset, .unset, .unset, .unset, .unset, .unset, .unset, .unset, .unset, .unset, .unset, .unset, .unset, .unset, .unset, .unset] []))
  obtain ⟨step, hstep⟩ : ∃ z : Int64, z = ((1 : Int64) + ((i0 &&& (9223372036854775807 : Int64)) - ((i0 &&& (9223372036854775807 : Int64)) / (9223372036854775807 : Int64)) * (9223372036854775807 : Int64))) := ⟨_, rfl⟩
  rw [← hstep]
  show own_G p.tables e below _ (s₁.setTop (mkF m 16 #[.val (.long i0), .second, .val (.long i1), .second, .val (.long i2), .second, .val (.int i3), .val (.long (9223372036854775807 : Int64)), .second, .val (.long step), .second, .unset, .unset, .unset, .unset, .unset, .unset, .unset, .unset, .unset, .unset, .unset, .unset, .unset, .unset, .unset, .unset] []))
  refine own_st (fun _ k => XS.lload X0.here hx rfl (hb hby at_16) rfl k) ?_
  show own_G p.tables e below _ (s₁.setTop (mkF m 18 #[.val (.long i0), .second, .val (.long i1), .second, .val (.long i2), .second, .val (.int i3), .val (.long (9223372036854775807 : Int64)), .second, .val (.long step), .second, .unset, .unset, .unset, .unset, .unset, .unset, .unset, .unset, .unset, .unset, .unset, .unset, .unset, .unset, .unset, .unset] [(.long (9223372036854775807 : Int64))]))
  refine own_st (fun _ k => XS.lload X0.here hx rfl (hb hby at_18) rfl k) ?_
  show own_G p.tables e below _ (s₁.setTop (mkF m 20 #[.val (.long i0), .second, .val (.long i1), .second, .val (.long i2), .second, .val (.int i3), .val (.long (9223372036854775807 : Int64)), .second, .val (.long step), .second, .unset, .unset, .unset, .unset, .unset, .unset, .unset, .unset, .unset, .unset, .unset, .unset, .unset, .unset, .unset, .unset] [(.long step), (.long (9223372036854775807 : Int64))]))
  refine own_st (fun _ k => XS.ldiv X0.here hx rfl (hb hby at_20) rfl (own_z20 hstep) k) ?_
  show own_G p.tables e below _ (s₁.setTop (mkF m 21 #[.val (.long i0), .second, .val (.long i1), .second, .val (.long i2), .second, .val (.int i3), .val (.long (9223372036854775807 : Int64)), .second, .val (.long step), .second, .unset, .unset, .unset, .unset, .unset, .unset, .unset, .unset, .unset, .unset, .unset, .unset, .unset, .unset, .unset, .unset] [(.long ((9223372036854775807 : Int64) / step))]))
  refine own_st (fun _ k => XS.lstore X0.here hx rfl (hb hby at_21) rfl (l' := #[.val (.long i0), .second, .val (.long i1), .second, .val (.long i2), .second, .val (.int i3), .val (.long (9223372036854775807 : Int64)), .second, .val (.long step), .second, .val (.long ((9223372036854775807 : Int64) / step)), .second, .unset, .unset, .unset, .unset, .unset, .unset, .unset, .unset, .unset, .unset, .unset, .unset, .unset, .unset]) rfl k) ?_
  show own_G p.tables e below _ (s₁.setTop (mkF m 23 #[.val (.long i0), .second, .val (.long i1), .second, .val (.long i2), .second, .val (.int i3), .val (.long (9223372036854775807 : Int64)), .second, .val (.long step), .second, .val (.long ((9223372036854775807 : Int64) / step)), .second, .unset, .unset, .unset, .unset, .unset, .unset, .unset, .unset, .unset, .unset, .unset, .unset, .unset, .unset] []))
  obtain ⟨qmax, hqmax⟩ : ∃ z : Int64, z = ((9223372036854775807 : Int64) / step) := ⟨_, rfl⟩
  rw [← hqmax]
  show own_G p.tables e below _ (s₁.setTop (mkF m 23 #[.val (.long i0), .second, .val (.long i1), .second, .val (.long i2), .second, .val (.int i3), .val (.long (9223372036854775807 : Int64)), .second, .val (.long step), .second, .val (.long qmax), .second, .unset, .unset, .unset, .unset, .unset, .unset, .unset, .unset, .unset, .unset, .unset, .unset, .unset, .unset] []))
  refine own_st (fun _ k => XS.lloadN X0.here hx rfl (hb hby at_23) rfl k) ?_
  show own_G p.tables e below _ (s₁.setTop (mkF m 24 #[.val (.long i0), .second, .val (.long i1), .second, .val (.long i2), .second, .val (.int i3), .val (.long (9223372036854775807 : Int64)), .second, .val (.long step), .second, .val (.long qmax), .second, .unset, .unset, .unset, .unset, .unset, .unset, .unset, .unset, .unset, .unset, .unset, .unset, .unset, .unset] [(.long i1)]))
  refine own_st (fun _ k => XS.lload X0.here hx rfl (hb hby at_24) rfl k) ?_
  show own_G p.tables e below _ (s₁.setTop (mkF m 26 #[.val (.long i0), .second, .val (.long i1), .second, .val (.long i2), .second, .val (.int i3), .val (.long (9223372036854775807 : Int64)), .second, .val (.long step), .second, .val (.long qmax), .second, .unset, .unset, .unset, .unset, .unset, .unset, .unset, .unset, .unset, .unset, .unset, .unset, .unset, .unset] [(.long (9223372036854775807 : Int64)), (.long i1)]))
  refine own_st (fun _ k => XS.land X0.here hx rfl (hb hby at_26) rfl k) ?_
  show own_G p.tables e below _ (s₁.setTop (mkF m 27 #[.val (.long i0), .second, .val (.long i1), .second, .val (.long i2), .second, .val (.int i3), .val (.long (9223372036854775807 : Int64)), .second, .val (.long step), .second, .val (.long qmax), .second, .unset, .unset, .unset, .unset, .unset, .unset, .unset, .unset, .unset, .unset, .unset, .unset, .unset, .unset] [(.long (i1 &&& (9223372036854775807 : Int64)))]))
  refine own_st (fun _ k => XS.lload X0.here hx rfl (hb hby at_27) rfl k) ?_
  show own_G p.tables e below _ (s₁.setTop (mkF m 29 #[.val (.long i0), .second, .val (.long i1), .second, .val (.long i2), .second, .val (.int i3), .val (.long (9223372036854775807 : Int64)), .second, .val (.long step), .second, .val (.long qmax), .second, .unset, .unset, .unset, .unset, .unset, .unset, .unset, .unset, .unset, .unset, .unset, .unset, .unset, .unset] [(.long qmax), (.long (i1 &&& (9223372036854775807 : Int64)))]))
  refine own_st (fun _ k => XS.lrem X0.here hx rfl (hb hby at_29) rfl (own_z29 hstep hqmax) k) ?_
  show own_G p.tables e below _ (s₁.setTop (mkF m 30 #[.val (.long i0), .second, .val (.long i1), .second, .val (.long i2), .second, .val (.int i3), .val (.long (9223372036854775807 : Int64)), .second, .val (.long step), .second, .val (.long qmax), .second, .unset, .unset, .unset, .unset, .unset, .unset, .unset, .unset, .unset, .unset, .unset, .unset, .unset, .unset] [(.long ((i1 &&& (9223372036854775807 : Int64)) - ((i1 &&& (9223372036854775807 : Int64)) / qmax) * qmax))]))
  refine own_st (fun _ k => XS.lstore X0.here hx rfl (hb hby at_30) rfl (l' := #[.val (.long i0), .second, .val (.long i1), .second, .val (.long i2), .second, .val (.int i3), .val (.long (9223372036854775807 : Int64)), .second, .val (.long step), .second, .val (.long qmax), .second, .val (.long ((i1 &&& (9223372036854775807 : Int64)) - ((i1 &&& (9223372036854775807 : Int64)) / qmax) * qmax)), .second, .unset, .unset, .unset, .unset, .unset, .unset, .unset, .unset, .unset, .unset, .unset, .unset]) rfl k) ?_
  show own_G p.tables e below _ (s₁.setTop (mkF m 32 #[.val (.long i0), .second, .val (.long i1), .second, .val (.long i2), .second, .val (.int i3), .val (.long (9223372036854775807 : Int64)), .second, .val (.long step), .second, .val (.long qmax), .second, .val (.long ((i1 &&& (9223372036854775807 : Int64)) - ((i1 &&& (9223372036854775807 : Int64)) / qmax) * qmax)), .second, .unset, .unset, .unset, .unset, .unset, .unset, .unset, .unset, .unset, .unset, .unset, .unset] []))
  obtain ⟨q, hq⟩ : ∃ z : Int64, z = ((i1 &&& (9223372036854775807 : Int64)) - ((i1 &&& (9223372036854775807 : Int64)) / qmax) * qmax) := ⟨_, rfl⟩
  rw [← hq]
  show own_G p.tables e below _ (s₁.setTop (mkF m 32 #[.val (.long i0), .second, .val (.long i1), .second, .val (.long i2), .second, .val (.int i3), .val (.long (9223372036854775807 : Int64)), .second, .val (.long step), .second, .val (.long qmax), .second, .val (.long q), .second, .unset, .unset, .unset, .unset, .unset, .unset, .unset, .unset, .unset, .unset, .unset, .unset] []))
  refine own_st (fun _ k => XS.iload X0.here hx rfl (hb hby at_32) rfl k) ?_
  show own_G p.tables e below _ (s₁.setTop (mkF m 34 #[.val (.long i0), .second, .val (.long i1), .second, .val (.long i2), .second, .val (.int i3), .val (.long (9223372036854775807 : Int64)), .second, .val (.long step), .second, .val (.long qmax), .second, .val (.long q), .second, .unset, .unset, .unset, .unset, .unset, .unset, .unset, .unset, .unset, .unset, .unset, .unset] [(.int i3)]))
  refine own_st (fun _ k => XS.bipush X0.here hx rfl (hb hby at_34) k) ?_
  show own_G p.tables e below _ (s₁.setTop (mkF m 36 #[.val (.long i0), .second, .val (.long i1), .second, .val (.long i2), .second, .val (.int i3), .val (.long (9223372036854775807 : Int64)), .second, .val (.long step), .second, .val (.long qmax), .second, .val (.long q), .second, .unset, .unset, .unset, .unset, .unset, .unset, .unset, .unset, .unset, .unset, .unset, .unset] [(.int (8 : Int32)), (.int i3)]))
  refine own_st (fun _ k => XS.iand X0.here hx rfl (hb hby at_36) rfl k) ?_
  show own_G p.tables e below _ (s₁.setTop (mkF m 37 #[.val (.long i0), .second, .val (.long i1), .second, .val (.long i2), .second, .val (.int i3), .val (.long (9223372036854775807 : Int64)), .second, .val (.long step), .second, .val (.long qmax), .second, .val (.long q), .second, .unset, .unset, .unset, .unset, .unset, .unset, .unset, .unset, .unset, .unset, .unset, .unset] [(.int (i3 &&& (8 : Int32)))]))
  have J44_2 : ∀ (z3 : Int64) (hz3 : z3 = (if (i3 &&& (8 : Int32)) = (0 : Int32) then q else qmax)), own_G p.tables e below (own_PW s (Q0 n0) 16 3200) (s₁.setTop (mkF m 44 #[.val (.long i0), .second, .val (.long i1), .second, .val (.long i2), .second, .val (.int i3), .val (.long (9223372036854775807 : Int64)), .second, .val (.long step), .second, .val (.long qmax), .second, .val (.long z3), .second, .unset, .unset, .unset, .unset, .unset, .unset, .unset, .unset, .unset, .unset, .unset, .unset] [])) := by
    intro z3 hz3
    refine own_st (fun _ k => XS.lload X0.here hx rfl (hb hby at_44) rfl k) ?_
    show own_G p.tables e below _ (s₁.setTop (mkF m 46 #[.val (.long i0), .second, .val (.long i1), .second, .val (.long i2), .second, .val (.int i3), .val (.long (9223372036854775807 : Int64)), .second, .val (.long step), .second, .val (.long qmax), .second, .val (.long z3), .second, .unset, .unset, .unset, .unset, .unset, .unset, .unset, .unset, .unset, .unset, .unset, .unset] [(.long z3)]))
    refine own_st (fun _ k => XS.lload X0.here hx rfl (hb hby at_46) rfl k) ?_
    show own_G p.tables e below _ (s₁.setTop (mkF m 48 #[.val (.long i0), .second, .val (.long i1), .second, .val (.long i2), .second, .val (.int i3), .val (.long (9223372036854775807 : Int64)), .second, .val (.long step), .second, .val (.long qmax), .second, .val (.long z3), .second, .unset, .unset, .unset, .unset, .unset, .unset, .unset, .unset, .unset, .unset, .unset, .unset] [(.long step), (.long z3)]))
    refine own_st (fun _ k => XS.lmul X0.here hx rfl (hb hby at_48) rfl k) ?_
    show own_G p.tables e below _ (s₁.setTop (mkF m 49 #[.val (.long i0), .second, .val (.long i1), .second, .val (.long i2), .second, .val (.int i3), .val (.long (9223372036854775807 : Int64)), .second, .val (.long step), .second, .val (.long qmax), .second, .val (.long z3), .second, .unset, .unset, .unset, .unset, .unset, .unset, .unset, .unset, .unset, .unset, .unset, .unset] [(.long (z3 * step))]))
    refine own_st (fun _ k => XS.lstore X0.here hx rfl (hb hby at_49) rfl (l' := #[.val (.long i0), .second, .val (.long i1), .second, .val (.long i2), .second, .val (.int i3), .val (.long (9223372036854775807 : Int64)), .second, .val (.long step), .second, .val (.long qmax), .second, .val (.long z3), .second, .val (.long (z3 * step)), .second, .unset, .unset, .unset, .unset, .unset, .unset, .unset, .unset, .unset, .unset]) rfl k) ?_
    show own_G p.tables e below _ (s₁.setTop (mkF m 51 #[.val (.long i0), .second, .val (.long i1), .second, .val (.long i2), .second, .val (.int i3), .val (.long (9223372036854775807 : Int64)), .second, .val (.long step), .second, .val (.long qmax), .second, .val (.long z3), .second, .val (.long (z3 * step)), .second, .unset, .unset, .unset, .unset, .unset, .unset, .unset, .unset, .unset, .unset] []))
    obtain ⟨mm, hmm⟩ : ∃ z : Int64, z = (z3 * step) := ⟨_, rfl⟩
    rw [← hmm]
    show own_G p.tables e below _ (s₁.setTop (mkF m 51 #[.val (.long i0), .second, .val (.long i1), .second, .val (.long i2), .second, .val (.int i3), .val (.long (9223372036854775807 : Int64)), .second, .val (.long step), .second, .val (.long qmax), .second, .val (.long z3), .second, .val (.long mm), .second, .unset, .unset, .unset, .unset, .unset, .unset, .unset, .unset, .unset, .unset] []))
    refine own_st (fun _ k => XS.iload X0.here hx rfl (hb hby at_51) rfl k) ?_
    show own_G p.tables e below _ (s₁.setTop (mkF m 53 #[.val (.long i0), .second, .val (.long i1), .second, .val (.long i2), .second, .val (.int i3), .val (.long (9223372036854775807 : Int64)), .second, .val (.long step), .second, .val (.long qmax), .second, .val (.long z3), .second, .val (.long mm), .second, .unset, .unset, .unset, .unset, .unset, .unset, .unset, .unset, .unset, .unset] [(.int i3)]))
    refine own_st (fun _ k => XS.iconst X0.here hx rfl (hb hby at_53) k) ?_
    show own_G p.tables e below _ (s₁.setTop (mkF m 54 #[.val (.long i0), .second, .val (.long i1), .second, .val (.long i2), .second, .val (.int i3), .val (.long (9223372036854775807 : Int64)), .second, .val (.long step), .second, .val (.long qmax), .second, .val (.long z3), .second, .val (.long mm), .second, .unset, .unset, .unset, .unset, .unset, .unset, .unset, .unset, .unset, .unset] [(.int (4 : Int32)), (.int i3)]))
    refine own_st (fun _ k => XS.iand X0.here hx rfl (hb hby at_54) rfl k) ?_
    show own_G p.tables e below _ (s₁.setTop (mkF m 55 #[.val (.long i0), .second, .val (.long i1), .second, .val (.long i2), .second, .val (.int i3), .val (.long (9223372036854775807 : Int64)), .second, .val (.long step), .second, .val (.long qmax), .second, .val (.long z3), .second, .val (.long mm), .second, .unset, .unset, .unset, .unset, .unset, .unset, .unset, .unset, .unset, .unset] [(.int (i3 &&& (4 : Int32)))]))
    have J70_5 : ∀ (z6 : Int64) (hz6 : z6 = (if (i3 &&& (4 : Int32)) = (0 : Int32) then ((i2 &&& (9223372036854775807 : Int64)) - ((i2 &&& (9223372036854775807 : Int64)) / step) * step) else (0 : Int64))), own_G p.tables e below (own_PW s (Q0 n0) 16 3200) (s₁.setTop (mkF m 70 #[.val (.long i0), .second, .val (.long i1), .second, .val (.long i2), .second, .val (.int i3), .val (.long (9223372036854775807 : Int64)), .second, .val (.long step), .second, .val (.long qmax), .second, .val (.long z3), .second, .val (.long mm), .second, .unset, .unset, .unset, .unset, .unset, .unset, .unset, .unset, .unset, .unset] [(.long z6)])) := by
      intro z6 hz6
      refine own_st (fun _ k => XS.lstore X0.here hx rfl (hb hby at_70) rfl (l' := #[.val (.long i0), .second, .val (.long i1), .second, .val (.long i2), .second, .val (.int i3), .val (.long (9223372036854775807 : Int64)), .second, .val (.long step), .second, .val (.long qmax), .second, .val (.long z3), .second, .val (.long mm), .second, .val (.long z6), .second, .unset, .unset, .unset, .unset, .unset, .unset, .unset, .unset]) rfl k) ?_
      show own_G p.tables e below _ (s₁.setTop (mkF m 72 #[.val (.long i0), .second, .val (.long i1), .second, .val (.long i2), .second, .val (.int i3), .val (.long (9223372036854775807 : Int64)), .second, .val (.long step), .second, .val (.long qmax), .second, .val (.long z3), .second, .val (.long mm), .second, .val (.long z6), .second, .unset, .unset, .unset, .unset, .unset, .unset, .unset, .unset] []))
      refine own_st (fun _ k => XS.lload X0.here hx rfl (hb hby at_72) rfl k) ?_
      show own_G p.tables e below _ (s₁.setTop (mkF m 74 #[.val (.long i0), .second, .val (.long i1), .second, .val (.long i2), .second, .val (.int i3), .val (.long (9223372036854775807 : Int64)), .second, .val (.long step), .second, .val (.long qmax), .second, .val (.long z3), .second, .val (.long mm), .second, .val (.long z6), .second, .unset, .unset, .unset, .unset, .unset, .unset, .unset, .unset] [(.long (9223372036854775807 : Int64))]))
      refine own_st (fun _ k => XS.lload X0.here hx rfl (hb hby at_74) rfl k) ?_
      show own_G p.tables e below _ (s₁.setTop (mkF m 76 #[.val (.long i0), .second, .val (.long i1), .second, .val (.long i2), .second, .val (.int i3), .val (.long (9223372036854775807 : Int64)), .second, .val (.long step), .second, .val (.long qmax), .second, .val (.long z3), .second, .val (.long mm), .second, .val (.long z6), .second, .unset, .unset, .unset, .unset, .unset, .unset, .unset, .unset] [(.long mm), (.long (9223372036854775807 : Int64))]))
      refine own_st (fun _ k => XS.lsub X0.here hx rfl (hb hby at_76) rfl k) ?_
      show own_G p.tables e below _ (s₁.setTop (mkF m 77 #[.val (.long i0), .second, .val (.long i1), .second, .val (.long i2), .second, .val (.int i3), .val (.long (9223372036854775807 : Int64)), .second, .val (.long step), .second, .val (.long qmax), .second, .val (.long z3), .second, .val (.long mm), .second, .val (.long z6), .second, .unset, .unset, .unset, .unset, .unset, .unset, .unset, .unset] [(.long ((9223372036854775807 : Int64) - mm))]))
      refine own_st (fun _ k => XS.lstore X0.here hx rfl (hb hby at_77) rfl (l' := #[.val (.long i0), .second, .val (.long i1), .second, .val (.long i2), .second, .val (.int i3), .val (.long (9223372036854775807 : Int64)), .second, .val (.long step), .second, .val (.long qmax), .second, .val (.long z3), .second, .val (.long mm), .second, .val (.long z6), .second, .val (.long ((9223372036854775807 : Int64) - mm)), .second, .unset, .unset, .unset, .unset, .unset, .unset]) rfl k) ?_
      show own_G p.tables e below _ (s₁.setTop (mkF m 79 #[.val (.long i0), .second, .val (.long i1), .second, .val (.long i2), .second, .val (.int i3), .val (.long (9223372036854775807 : Int64)), .second, .val (.long step), .second, .val (.long qmax), .second, .val (.long z3), .second, .val (.long mm), .second, .val (.long z6), .second, .val (.long ((9223372036854775807 : Int64) - mm)), .second, .unset, .unset, .unset, .unset, .unset, .unset] []))
      obtain ⟨room, hroom⟩ : ∃ z : Int64, z = ((9223372036854775807 : Int64) - mm) := ⟨_, rfl⟩
      rw [← hroom]
      show own_G p.tables e below _ (s₁.setTop (mkF m 79 #[.val (.long i0), .second, .val (.long i1), .second, .val (.long i2), .second, .val (.int i3), .val (.long (9223372036854775807 : Int64)), .second, .val (.long step), .second, .val (.long qmax), .second, .val (.long z3), .second, .val (.long mm), .second, .val (.long z6), .second, .val (.long room), .second, .unset, .unset, .unset, .unset, .unset, .unset] []))
      refine own_st (fun _ k => XS.lload X0.here hx rfl (hb hby at_79) rfl k) ?_
      show own_G p.tables e below _ (s₁.setTop (mkF m 81 #[.val (.long i0), .second, .val (.long i1), .second, .val (.long i2), .second, .val (.int i3), .val (.long (9223372036854775807 : Int64)), .second, .val (.long step), .second, .val (.long qmax), .second, .val (.long z3), .second, .val (.long mm), .second, .val (.long z6), .second, .val (.long room), .second, .unset, .unset, .unset, .unset, .unset, .unset] [(.long z6)]))
      refine own_st (fun _ k => XS.lload X0.here hx rfl (hb hby at_81) rfl k) ?_
      show own_G p.tables e below _ (s₁.setTop (mkF m 83 #[.val (.long i0), .second, .val (.long i1), .second, .val (.long i2), .second, .val (.int i3), .val (.long (9223372036854775807 : Int64)), .second, .val (.long step), .second, .val (.long qmax), .second, .val (.long z3), .second, .val (.long mm), .second, .val (.long z6), .second, .val (.long room), .second, .unset, .unset, .unset, .unset, .unset, .unset] [(.long room), (.long z6)]))
      refine own_st (fun _ k => XS.lcmp X0.here hx rfl (hb hby at_83) rfl k) ?_
      show own_G p.tables e below _ (s₁.setTop (mkF m 84 #[.val (.long i0), .second, .val (.long i1), .second, .val (.long i2), .second, .val (.int i3), .val (.long (9223372036854775807 : Int64)), .second, .val (.long step), .second, .val (.long qmax), .second, .val (.long z3), .second, .val (.long mm), .second, .val (.long z6), .second, .val (.long room), .second, .unset, .unset, .unset, .unset, .unset, .unset] [(.int (lcmpW z6 room))]))
      have J96_8 : ∀ (z9 : Int64) (hz9 : z9 = (if room < z6 then (z6 - (z6 / (room + (1 : Int64))) * (room + (1 : Int64))) else z6)), own_G p.tables e below (own_PW s (Q0 n0) 16 3200) (s₁.setTop (mkF m 96 #[.val (.long i0), .second, .val (.long i1), .second, .val (.long i2), .second, .val (.int i3), .val (.long (9223372036854775807 : Int64)), .second, .val (.long step), .second, .val (.long qmax), .second, .val (.long z3), .second, .val (.long mm), .second, .val (.long z9), .second, .val (.long room), .second, .unset, .unset, .unset, .unset, .unset, .unset] [])) := by
        intro z9 hz9
        refine own_st (fun _ k => XS.iload X0.here hx rfl (hb hby at_96) rfl k) ?_
        show own_G p.tables e below _ (s₁.setTop (mkF m 98 #[.val (.long i0), .second, .val (.long i1), .second, .val (.long i2), .second, .val (.int i3), .val (.long (9223372036854775807 : Int64)), .second, .val (.long step), .second, .val (.long qmax), .second, .val (.long z3), .second, .val (.long mm), .second, .val (.long z9), .second, .val (.long room), .second, .unset, .unset, .unset, .unset, .unset, .unset] [(.int i3)]))
        refine own_st (fun _ k => XS.iconst X0.here hx rfl (hb hby at_98) k) ?_
        show own_G p.tables e below _ (s₁.setTop (mkF m 99 #[.val (.long i0), .second, .val (.long i1), .second, .val (.long i2), .second, .val (.int i3), .val (.long (9223372036854775807 : Int64)), .second, .val (.long step), .second, .val (.long qmax), .second, .val (.long z3), .second, .val (.long mm), .second, .val (.long z9), .second, .val (.long room), .second, .unset, .unset, .unset, .unset, .unset, .unset] [(.int (1 : Int32)), (.int i3)]))
        refine own_st (fun _ k => XS.iand X0.here hx rfl (hb hby at_99) rfl k) ?_
        show own_G p.tables e below _ (s₁.setTop (mkF m 100 #[.val (.long i0), .second, .val (.long i1), .second, .val (.long i2), .second, .val (.int i3), .val (.long (9223372036854775807 : Int64)), .second, .val (.long step), .second, .val (.long qmax), .second, .val (.long z3), .second, .val (.long mm), .second, .val (.long z9), .second, .val (.long room), .second, .unset, .unset, .unset, .unset, .unset, .unset] [(.int (i3 &&& (1 : Int32)))]))
        have J117_11 : ∀ (z12 : Int64) (hz12 : z12 = (if (i3 &&& (1 : Int32)) = (0 : Int32) then (mm + z9) else ((-mm) - z9))), own_G p.tables e below (own_PW s (Q0 n0) 16 3200) (s₁.setTop (mkF m 117 #[.val (.long i0), .second, .val (.long i1), .second, .val (.long i2), .second, .val (.int i3), .val (.long (9223372036854775807 : Int64)), .second, .val (.long step), .second, .val (.long qmax), .second, .val (.long z3), .second, .val (.long mm), .second, .val (.long z9), .second, .val (.long room), .second, .unset, .unset, .unset, .unset, .unset, .unset] [(.long z12)])) := by
          intro z12 hz12
          refine own_st (fun _ k => XS.lstore X0.here hx rfl (hb hby at_117) rfl (l' := #[.val (.long i0), .second, .val (.long i1), .second, .val (.long i2), .second, .val (.int i3), .val (.long (9223372036854775807 : Int64)), .second, .val (.long step), .second, .val (.long qmax), .second, .val (.long z3), .second, .val (.long mm), .second, .val (.long z9), .second, .val (.long room), .second, .val (.long z12), .second, .unset, .unset, .unset, .unset]) rfl k) ?_
          show own_G p.tables e below _ (s₁.setTop (mkF m 119 #[.val (.long i0), .second, .val (.long i1), .second, .val (.long i2), .second, .val (.int i3), .val (.long (9223372036854775807 : Int64)), .second, .val (.long step), .second, .val (.long qmax), .second, .val (.long z3), .second, .val (.long mm), .second, .val (.long z9), .second, .val (.long room), .second, .val (.long z12), .second, .unset, .unset, .unset, .unset] []))
          refine own_st (fun _ k => XS.lload X0.here hx rfl (hb hby at_119) rfl k) ?_
          show own_G p.tables e below _ (s₁.setTop (mkF m 121 #[.val (.long i0), .second, .val (.long i1), .second, .val (.long i2), .second, .val (.int i3), .val (.long (9223372036854775807 : Int64)), .second, .val (.long step), .second, .val (.long qmax), .second, .val (.long z3), .second, .val (.long mm), .second, .val (.long z9), .second, .val (.long room), .second, .val (.long z12), .second, .unset, .unset, .unset, .unset] [(.long z9)]))
          refine own_st (fun _ k => XS.lconst X0.here hx rfl (hb hby at_121) k) ?_
          show own_G p.tables e below _ (s₁.setTop (mkF m 122 #[.val (.long i0), .second, .val (.long i1), .second, .val (.long i2), .second, .val (.int i3), .val (.long (9223372036854775807 : Int64)), .second, .val (.long step), .second, .val (.long qmax), .second, .val (.long z3), .second, .val (.long mm), .second, .val (.long z9), .second, .val (.long room), .second, .val (.long z12), .second, .unset, .unset, .unset, .unset] [(.long (0 : Int64)), (.long z9)]))
          refine own_st (fun _ k => XS.lcmp X0.here hx rfl (hb hby at_122) rfl k) ?_
          show own_G p.tables e below _ (s₁.setTop (mkF m 123 #[.val (.long i0), .second, .val (.long i1), .second, .val (.long i2), .second, .val (.int i3), .val (.long (9223372036854775807 : Int64)), .second, .val (.long step), .second, .val (.long qmax), .second, .val (.long z3), .second, .val (.long mm), .second, .val (.long z9), .second, .val (.long room), .second, .val (.long z12), .second, .unset, .unset, .unset, .unset] [(.int (lcmpW z9 (0 : Int64)))]))
          have J131_14 : ∀ (z15 : Int32) (hz15 : z15 = (own_b (z9 = (0 : Int64)))), own_G p.tables e below (own_PW s (Q0 n0) 16 3200) (s₁.setTop (mkF m 131 #[.val (.long i0), .second, .val (.long i1), .second, .val (.long i2), .second, .val (.int i3), .val (.long (9223372036854775807 : Int64)), .second, .val (.long step), .second, .val (.long qmax), .second, .val (.long z3), .second, .val (.long mm), .second, .val (.long z9), .second, .val (.long room), .second, .val (.long z12), .second, .unset, .unset, .unset, .unset] [(.int z15)])) := by
            intro z15 hz15
            refine own_st (fun _ k => XS.istore X0.here hx rfl (hb hby at_131) rfl (l' := #[.val (.long i0), .second, .val (.long i1), .second, .val (.long i2), .second, .val (.int i3), .val (.long (9223372036854775807 : Int64)), .second, .val (.long step), .second, .val (.long qmax), .second, .val (.long z3), .second, .val (.long mm), .second, .val (.long z9), .second, .val (.long room), .second, .val (.long z12), .second, .val (.int z15), .unset, .unset, .unset]) rfl k) ?_
            show own_G p.tables e below _ (s₁.setTop (mkF m 133 #[.val (.long i0), .second, .val (.long i1), .second, .val (.long i2), .second, .val (.int i3), .val (.long (9223372036854775807 : Int64)), .second, .val (.long step), .second, .val (.long qmax), .second, .val (.long z3), .second, .val (.long mm), .second, .val (.long z9), .second, .val (.long room), .second, .val (.long z12), .second, .val (.int z15), .unset, .unset, .unset] []))
            refine own_st (fun _ k => XS.iload X0.here hx rfl (hb hby at_133) rfl k) ?_
            show own_G p.tables e below _ (s₁.setTop (mkF m 135 #[.val (.long i0), .second, .val (.long i1), .second, .val (.long i2), .second, .val (.int i3), .val (.long (9223372036854775807 : Int64)), .second, .val (.long step), .second, .val (.long qmax), .second, .val (.long z3), .second, .val (.long mm), .second, .val (.long z9), .second, .val (.long room), .second, .val (.long z12), .second, .val (.int z15), .unset, .unset, .unset] [(.int i3)]))
            refine own_st (fun _ k => XS.iconst X0.here hx rfl (hb hby at_135) k) ?_
            show own_G p.tables e below _ (s₁.setTop (mkF m 136 #[.val (.long i0), .second, .val (.long i1), .second, .val (.long i2), .second, .val (.int i3), .val (.long (9223372036854775807 : Int64)), .second, .val (.long step), .second, .val (.long qmax), .second, .val (.long z3), .second, .val (.long mm), .second, .val (.long z9), .second, .val (.long room), .second, .val (.long z12), .second, .val (.int z15), .unset, .unset, .unset] [(.int (2 : Int32)), (.int i3)]))
            refine own_st (fun _ k => XS.iand X0.here hx rfl (hb hby at_136) rfl k) ?_
            show own_G p.tables e below _ (s₁.setTop (mkF m 137 #[.val (.long i0), .second, .val (.long i1), .second, .val (.long i2), .second, .val (.int i3), .val (.long (9223372036854775807 : Int64)), .second, .val (.long step), .second, .val (.long qmax), .second, .val (.long z3), .second, .val (.long mm), .second, .val (.long z9), .second, .val (.long room), .second, .val (.long z12), .second, .val (.int z15), .unset, .unset, .unset] [(.int (i3 &&& (2 : Int32)))]))
            have J164_17 : ∀ (z18 : Int64) (hz18 : z18 = (if (i3 &&& (2 : Int32)) = (0 : Int32) then z12 else (-9223372036854775808 : Int64))) (z19 : Int32) (hz19 : z19 = (own_b ((((i3 &&& (2 : Int32)) = (0 : Int32)) ∧ (z9 = (0 : Int64))) ∨ (¬ ((i3 &&& (2 : Int32)) = (0 : Int32)) ∧ ((step &&& (step - (1 : Int64))) = (0 : Int64)))))), own_G p.tables e below (own_PW s (Q0 n0) 16 3200) (s₁.setTop (mkF m 164 #[.val (.long i0), .second, .val (.long i1), .second, .val (.long i2), .second, .val (.int i3), .val (.long (9223372036854775807 : Int64)), .second, .val (.long step), .second, .val (.long qmax), .second, .val (.long z3), .second, .val (.long mm), .second, .val (.long z9), .second, .val (.long room), .second, .val (.long z18), .second, .val (.int z19), .unset, .unset, .unset] [])) := by
              intro z18 hz18 z19 hz19
              refine own_st (fun _ k => XS.iload X0.here hx rfl (hb hby at_164) rfl k) ?_
              show own_G p.tables e below _ (s₁.setTop (mkF m 166 #[.val (.long i0), .second, .val (.long i1), .second, .val (.long i2), .second, .val (.int i3), .val (.long (9223372036854775807 : Int64)), .second, .val (.long step), .second, .val (.long qmax), .second, .val (.long z3), .second, .val (.long mm), .second, .val (.long z9), .second, .val (.long room), .second, .val (.long z18), .second, .val (.int z19), .unset, .unset, .unset] [(.int i3)]))
              refine own_st (fun _ k => XS.iconst X0.here hx rfl (hb hby at_166) k) ?_
              show own_G p.tables e below _ (s₁.setTop (mkF m 167 #[.val (.long i0), .second, .val (.long i1), .second, .val (.long i2), .second, .val (.int i3), .val (.long (9223372036854775807 : Int64)), .second, .val (.long step), .second, .val (.long qmax), .second, .val (.long z3), .second, .val (.long mm), .second, .val (.long z9), .second, .val (.long room), .second, .val (.long z18), .second, .val (.int z19), .unset, .unset, .unset] [(.int (4 : Int32)), (.int i3)]))
              refine own_st (fun _ k => XS.iushr X0.here hx rfl (hb hby at_167) rfl k) ?_
              show own_G p.tables e below _ (s₁.setTop (mkF m 168 #[.val (.long i0), .second, .val (.long i1), .second, .val (.long i2), .second, .val (.int i3), .val (.long (9223372036854775807 : Int64)), .second, .val (.long step), .second, .val (.long qmax), .second, .val (.long z3), .second, .val (.long mm), .second, .val (.long z9), .second, .val (.long room), .second, .val (.long z18), .second, .val (.int z19), .unset, .unset, .unset] [(.int ((i3.toUInt32 >>> ((4 : Int32) &&& 31).toUInt32).toInt32))]))
              refine own_st (fun _ k => XS.iconst X0.here hx rfl (hb hby at_168) k) ?_
              show own_G p.tables e below _ (s₁.setTop (mkF m 169 #[.val (.long i0), .second, .val (.long i1), .second, .val (.long i2), .second, .val (.int i3), .val (.long (9223372036854775807 : Int64)), .second, .val (.long step), .second, .val (.long qmax), .second, .val (.long z3), .second, .val (.long mm), .second, .val (.long z9), .second, .val (.long room), .second, .val (.long z18), .second, .val (.int z19), .unset, .unset, .unset] [(.int (3 : Int32)), (.int ((i3.toUInt32 >>> ((4 : Int32) &&& 31).toUInt32).toInt32))]))
              refine own_st (fun _ k => XS.iand X0.here hx rfl (hb hby at_169) rfl k) ?_
              show own_G p.tables e below _ (s₁.setTop (mkF m 170 #[.val (.long i0), .second, .val (.long i1), .second, .val (.long i2), .second, .val (.int i3), .val (.long (9223372036854775807 : Int64)), .second, .val (.long step), .second, .val (.long qmax), .second, .val (.long z3), .second, .val (.long mm), .second, .val (.long z9), .second, .val (.long room), .second, .val (.long z18), .second, .val (.int z19), .unset, .unset, .unset] [(.int (((i3.toUInt32 >>> ((4 : Int32) &&& 31).toUInt32).toInt32) &&& (3 : Int32)))]))
              refine own_st (fun _ k => XS.istore X0.here hx rfl (hb hby at_170) rfl (l' := #[.val (.long i0), .second, .val (.long i1), .second, .val (.long i2), .second, .val (.int i3), .val (.long (9223372036854775807 : Int64)), .second, .val (.long step), .second, .val (.long qmax), .second, .val (.long z3), .second, .val (.long mm), .second, .val (.long z9), .second, .val (.long room), .second, .val (.long z18), .second, .val (.int z19), .val (.int (((i3.toUInt32 >>> ((4 : Int32) &&& 31).toUInt32).toInt32) &&& (3 : Int32))), .unset, .unset]) rfl k) ?_
              show own_G p.tables e below _ (s₁.setTop (mkF m 172 #[.val (.long i0), .second, .val (.long i1), .second, .val (.long i2), .second, .val (.int i3), .val (.long (9223372036854775807 : Int64)), .second, .val (.long step), .second, .val (.long qmax), .second, .val (.long z3), .second, .val (.long mm), .second, .val (.long z9), .second, .val (.long room), .second, .val (.long z18), .second, .val (.int z19), .val (.int (((i3.toUInt32 >>> ((4 : Int32) &&& 31).toUInt32).toInt32) &&& (3 : Int32))), .unset, .unset] []))
              refine own_st (fun _ k => XS.iload X0.here hx rfl (hb hby at_172) rfl k) ?_
              show own_G p.tables e below _ (s₁.setTop (mkF m 174 #[.val (.long i0), .second, .val (.long i1), .second, .val (.long i2), .second, .val (.int i3), .val (.long (9223372036854775807 : Int64)), .second, .val (.long step), .second, .val (.long qmax), .second, .val (.long z3), .second, .val (.long mm), .second, .val (.long z9), .second, .val (.long room), .second, .val (.long z18), .second, .val (.int z19), .val (.int (((i3.toUInt32 >>> ((4 : Int32) &&& 31).toUInt32).toInt32) &&& (3 : Int32))), .unset, .unset] [(.int (((i3.toUInt32 >>> ((4 : Int32) &&& 31).toUInt32).toInt32) &&& (3 : Int32)))]))
              have J198_21 : ∀ (x22 : Addr) (T23 : State) (L23 : List Loc) (X23 : Stand p l e room_1 s m #[(.long i0), (.long i1), (.long i2), (.int i3)] below meth c T23 L23 0 0) (N23 : Fr n0 L23) (e23 : T23.heap = h0), own_G p.tables e below (own_PW s (Q0 n0) 16 3200) (T23.setTop (mkF m 198 #[.val (.long i0), .second, .val (.long i1), .second, .val (.long i2), .second, .val (.int i3), .val (.long (9223372036854775807 : Int64)), .second, .val (.long step), .second, .val (.long qmax), .second, .val (.long z3), .second, .val (.long mm), .second, .val (.long z9), .second, .val (.long room), .second, .val (.long z18), .second, .val (.int z19), .val (.int (((i3.toUInt32 >>> ((4 : Int32) &&& 31).toUInt32).toInt32) &&& (3 : Int32))), .unset, .unset] [(.ref x22)])) := by
                intro x22 T23 L23 X23 N23 e23
                refine own_st (fun _ k => XS.astore X23.here hx rfl (hb hby at_198) rfl rfl (l' := #[.val (.long i0), .second, .val (.long i1), .second, .val (.long i2), .second, .val (.int i3), .val (.long (9223372036854775807 : Int64)), .second, .val (.long step), .second, .val (.long qmax), .second, .val (.long z3), .second, .val (.long mm), .second, .val (.long z9), .second, .val (.long room), .second, .val (.long z18), .second, .val (.int z19), .val (.int (((i3.toUInt32 >>> ((4 : Int32) &&& 31).toUInt32).toInt32) &&& (3 : Int32))), .val (.ref x22), .unset]) rfl k) ?_
                show own_G p.tables e below _ (T23.setTop (mkF m 200 #[.val (.long i0), .second, .val (.long i1), .second, .val (.long i2), .second, .val (.int i3), .val (.long (9223372036854775807 : Int64)), .second, .val (.long step), .second, .val (.long qmax), .second, .val (.long z3), .second, .val (.long mm), .second, .val (.long z9), .second, .val (.long room), .second, .val (.long z18), .second, .val (.int z19), .val (.int (((i3.toUInt32 >>> ((4 : Int32) &&& 31).toUInt32).toInt32) &&& (3 : Int32))), .val (.ref x22), .unset] []))
                obtain ⟨T24, h24, X24, e24, E24, A24, D24, -, st24⟩ := newO X23 hx hZ hown (hw _ (List.mem_of_getElem? (i := 5) rfl)) (hw _ (List.mem_of_getElem? (i := 6) rfl)) (hw _ (List.mem_of_getElem? (i := 7) rfl)) e23 (g := (mkF m 200 #[.val (.long i0), .second, .val (.long i1), .second, .val (.long i2), .second, .val (.int i3), .val (.long (9223372036854775807 : Int64)), .second, .val (.long step), .second, .val (.long qmax), .second, .val (.long z3), .second, .val (.long mm), .second, .val (.long z9), .second, .val (.long room), .second, .val (.long z18), .second, .val (.int z19), .val (.int (((i3.toUInt32 >>> ((4 : Int32) &&& 31).toUInt32).toInt32) &&& (3 : Int32))), .val (.ref x22), .unset] [])) rfl (hb hby at_200) (by decide) (by decide)
                obtain ⟨b24, g24⟩ : ∃ z, z = h0.size := ⟨_, rfl⟩
                rw [← g24] at A24 D24 st24
                have ge_b24 : n0 ≤ b24 := Nat.le_trans Z0 (Nat.le_of_eq g24.symm)
                have Z25 := Nat.le_trans Z0 E24.1
                have O26 := O0.ext E24
                have F27 : Fld Z h24 b24 "com/example/stakan/stakan/core/Instrument" "symbol" "Ljava/lang/String;" .null := D24 (Or.inr (hw _ (List.mem_of_getElem? (i := 40) rfl))) (ty := (.object "java/lang/String")) (by decide)
                have F28 : Fld Z h24 b24 "com/example/stakan/stakan/core/Instrument" "priceStep" "J" (.long (0 : Int64)) := D24 (Or.inr (hw _ (List.mem_of_getElem? (i := 42) rfl))) (ty := .long) (by decide)
                have F29 : Fld Z h24 b24 "com/example/stakan/stakan/core/Instrument" "lot" "J" (.long (0 : Int64)) := D24 (Or.inr (hw _ (List.mem_of_getElem? (i := 44) rfl))) (ty := .long) (by decide)
                have F30 : Fld Z h24 b24 "com/example/stakan/stakan/core/Instrument" "allocation" "Lcom/example/stakan/stakan/core/Allocation;" .null := D24 (Or.inr (hw _ (List.mem_of_getElem? (i := 46) rfl))) (ty := (.object "com/example/stakan/stakan/core/Allocation")) (by decide)
                refine own_st st24 ?_
                show own_G p.tables e below _ (T24.setTop (mkF m 203 #[.val (.long i0), .second, .val (.long i1), .second, .val (.long i2), .second, .val (.int i3), .val (.long (9223372036854775807 : Int64)), .second, .val (.long step), .second, .val (.long qmax), .second, .val (.long z3), .second, .val (.long mm), .second, .val (.long z9), .second, .val (.long room), .second, .val (.long z18), .second, .val (.int z19), .val (.int (((i3.toUInt32 >>> ((4 : Int32) &&& 31).toUInt32).toInt32) &&& (3 : Int32))), .val (.ref x22), .unset] [(.ref b24)]))
                refine own_st (fun _ k => XS.dup X24.here hx rfl (hb hby at_203) rfl rfl k) ?_
                show own_G p.tables e below _ (T24.setTop (mkF m 204 #[.val (.long i0), .second, .val (.long i1), .second, .val (.long i2), .second, .val (.int i3), .val (.long (9223372036854775807 : Int64)), .second, .val (.long step), .second, .val (.long qmax), .second, .val (.long z3), .second, .val (.long mm), .second, .val (.long z9), .second, .val (.long room), .second, .val (.long z18), .second, .val (.int z19), .val (.int (((i3.toUInt32 >>> ((4 : Int32) &&& 31).toUInt32).toInt32) &&& (3 : Int32))), .val (.ref x22), .unset] [(.ref b24), (.ref b24)]))
                obtain ⟨la31, T31, h31, k31, lb31, kb31, X31, e31, E31, hS31, hk31, hZ31, hown31, Ex31, Fc31, Fv31, Va31, -, -, -, -, st31⟩ := ldcSVL (show Stand p l e room_1 (s.setVm s.vm) m #[(.long i0), (.long i1), (.long i2), (.int i3)] below meth c T24 _ _ _ from X24) hx (vm0 := s.vm) hZ hown (hw _ (List.mem_of_getElem? (i := 8) rfl)) hwS e24 ((State.WarmedH.refl s).since n0) Z25 (by rw [hUZ, O0.1]; exact N23) (fun b cl q => by rw [hUZ]; exact q) (Ts := []) (by rw [hUZ]; exact IB.start) (by simp) hh27 hcw (vs := [.int (83 : Int32)]) (z := (1 : Int32)) ⟨by decide, by decide⟩ (by decide) (by decide) (g := (mkF m 204 #[.val (.long i0), .second, .val (.long i1), .second, .val (.long i2), .second, .val (.int i3), .val (.long (9223372036854775807 : Int64)), .second, .val (.long step), .second, .val (.long qmax), .second, .val (.long z3), .second, .val (.long mm), .second, .val (.long z9), .second, .val (.long room), .second, .val (.long z18), .second, .val (.int z19), .val (.int (((i3.toUInt32 >>> ((4 : Int32) &&& 31).toUInt32).toInt32) &&& (3 : Int32))), .val (.ref x22), .unset] [(.ref b24), (.ref b24)])) rfl (hb hby at_204) (n := 4) (by decide) (by decide) (by decide) (by decide)
                have E32 := A24.ext E31
                have F33 := F27.ext E31
                have F34 := F28.ext E31
                have F35 := F29.ext E31
                have F36 := F30.ext E31
                have Z37 := Nat.le_trans Z25 E31.1
                have O38 := O26.ext E31
                have ne_b24_la31 : b24 ≠ la31 := ne_exa E32 Ex31 (by decide)
                have ne_b24_lb31 : b24 ≠ lb31 := Exa.neArv E32 Va31 (hw _ (List.mem_of_getElem? (i := 6) rfl))
                have ne_la31_lb31 : la31 ≠ lb31 := Exa.neArv Ex31 Va31 (hw _ (List.mem_of_getElem? (i := 10) rfl))
                refine own_st st31 ?_
                show own_G p.tables e below _ (T31.setTop (mkF m 206 #[.val (.long i0), .second, .val (.long i1), .second, .val (.long i2), .second, .val (.int i3), .val (.long (9223372036854775807 : Int64)), .second, .val (.long step), .second, .val (.long qmax), .second, .val (.long z3), .second, .val (.long mm), .second, .val (.long z9), .second, .val (.long room), .second, .val (.long z18), .second, .val (.int z19), .val (.int (((i3.toUInt32 >>> ((4 : Int32) &&& 31).toUInt32).toInt32) &&& (3 : Int32))), .val (.ref x22), .unset] [(.ref la31), (.ref b24), (.ref b24)]))
                refine own_st (fun _ k => XS.lload X31.here hx rfl (hb hby at_206) rfl k) ?_
                show own_G p.tables e below _ (T31.setTop (mkF m 208 #[.val (.long i0), .second, .val (.long i1), .second, .val (.long i2), .second, .val (.int i3), .val (.long (9223372036854775807 : Int64)), .second, .val (.long step), .second, .val (.long qmax), .second, .val (.long z3), .second, .val (.long mm), .second, .val (.long z9), .second, .val (.long room), .second, .val (.long z18), .second, .val (.int z19), .val (.int (((i3.toUInt32 >>> ((4 : Int32) &&& 31).toUInt32).toInt32) &&& (3 : Int32))), .val (.ref x22), .unset] [(.long step), (.ref la31), (.ref b24), (.ref b24)]))
                refine own_st (fun _ k => XS.lconst X31.here hx rfl (hb hby at_208) k) ?_
                show own_G p.tables e below _ (T31.setTop (mkF m 209 #[.val (.long i0), .second, .val (.long i1), .second, .val (.long i2), .second, .val (.int i3), .val (.long (9223372036854775807 : Int64)), .second, .val (.long step), .second, .val (.long qmax), .second, .val (.long z3), .second, .val (.long mm), .second, .val (.long z9), .second, .val (.long room), .second, .val (.long z18), .second, .val (.int z19), .val (.int (((i3.toUInt32 >>> ((4 : Int32) &&& 31).toUInt32).toInt32) &&& (3 : Int32))), .val (.ref x22), .unset] [(.long (1 : Int64)), (.long step), (.ref la31), (.ref b24), (.ref b24)]))
                refine own_st (fun _ k => XS.aload X31.here hx rfl (hb hby at_209) rfl rfl k) ?_
                show own_G p.tables e below _ (T31.setTop (mkF m 211 #[.val (.long i0), .second, .val (.long i1), .second, .val (.long i2), .second, .val (.int i3), .val (.long (9223372036854775807 : Int64)), .second, .val (.long step), .second, .val (.long qmax), .second, .val (.long z3), .second, .val (.long mm), .second, .val (.long z9), .second, .val (.long room), .second, .val (.long z18), .second, .val (.int z19), .val (.int (((i3.toUInt32 >>> ((4 : Int32) &&& 31).toUInt32).toInt32) &&& (3 : Int32))), .val (.ref x22), .unset] [(.ref x22), (.long (1 : Int64)), (.long step), (.ref la31), (.ref b24), (.ref b24)]))
                obtain ⟨_, _, ⟨T39, L39, k39, n39⟩, -, Xw39, hSw39, hgw39, ⟨Lc39, hQ39, l39, y39, z39⟩, st39⟩ := X31.specialBackS hx (y := (⟨"com/example/stakan/stakan/core/Instrument", "<init>", "(Ljava/lang/String;JJLcom/example/stakan/stakan/core/Allocation;)V"⟩ : MethodName)) rfl hown31 (mvT hZ31 (hw _ (List.mem_of_getElem? (i := 16) rfl))) (mvT hZ31 (hw _ (List.mem_of_getElem? (i := 17) rfl))) (mvT hZ31 (hw _ (List.mem_of_getElem? (i := 18) rfl))) (by decide) (backOfS (W := 1) (rm1 l Z a0 hw [] b24 la31 step (1 : Int64) x22 .null (0 : Int64) (0 : Int64) .null lb31 kb31 (0 : Int32) h31 n0 Z37 F33 F34 F35 F36 E32 Fv31 Va31 ne_la31_lb31 Fc31 Ex31 ne_b24_la31 ne_b24_lb31 (own_p1 hstep hqmax hq hz3 hmm hz6 hroom hz9 hz12 hz15 hz18 hz19) (by decide) ge_b24) hZ31 (hw _ (List.mem_of_getElem? (i := 18) rfl)) (hw _ (List.mem_of_getElem? (i := 7) rfl)) (by decide) (by decide)) (g := (mkF m 211 #[.val (.long i0), .second, .val (.long i1), .second, .val (.long i2), .second, .val (.int i3), .val (.long (9223372036854775807 : Int64)), .second, .val (.long step), .second, .val (.long qmax), .second, .val (.long z3), .second, .val (.long mm), .second, .val (.long z9), .second, .val (.long room), .second, .val (.long z18), .second, .val (.int z19), .val (.int (((i3.toUInt32 >>> ((4 : Int32) &&& 31).toUInt32).toInt32) &&& (3 : Int32))), .val (.ref x22), .unset] [(.ref x22), (.long (1 : Int64)), (.long step), (.ref la31), (.ref b24), (.ref b24)])) rfl (by rw [hml]; rfl) (Steps.refl _) (a := b24) (argsL := [(.ref la31), (.long step), (.long (1 : Int64)), (.ref x22)]) (rest := [(.ref b24)]) (lenOf pd_3 rfl) rfl (by show 2 * 0 + _ ≤ _; exact Nat.le_of_eq rfl) (hb hby at_211) (fun _ _ => ⟨rfl, e31, (by decide : 3 + 4 ≤ _), (by decide : 12 + 72 ≤ _)⟩)
                obtain ⟨X39, hS39, hZ39, hown39⟩ := rebS hS31 (by rw [e31]; exact hk31) Xw39 hSw39 hgw39 hZ31 hown31
                dsimp only [Pt.U, Pt.locs, Pt.cells, Pt.slots] at X39 l39 y39 z39 st39 hQ39
                subst l39 y39 z39
                obtain ⟨rfl, N39q, K39q, E40, F41, F42, F43, F44⟩ := hQ39
                have N39 := Fr.app N23 N39q
                have E46 := Ex31.keep K39q
                have F47 := Fc31.keep K39q (ninS (Ne.symm ne_b24_la31) nin0)
                have F48 := Fv31.keep K39q (ninS (Ne.symm ne_b24_la31) nin0)
                have V49 := Va31.keep K39q (ninS (Ne.symm ne_b24_lb31) nin0)
                have Z50 := Nat.le_trans Z37 K39q.1
                have O51 := O38.keep K39q (allS ge_b24 all0)
                refine own_st (fun _ k => st39.trans k) ?_
                show own_G p.tables e below _ (T39.setTop (mkF m 214 #[.val (.long i0), .second, .val (.long i1), .second, .val (.long i2), .second, .val (.int i3), .val (.long (9223372036854775807 : Int64)), .second, .val (.long step), .second, .val (.long qmax), .second, .val (.long z3), .second, .val (.long mm), .second, .val (.long z9), .second, .val (.long room), .second, .val (.long z18), .second, .val (.int z19), .val (.int (((i3.toUInt32 >>> ((4 : Int32) &&& 31).toUInt32).toInt32) &&& (3 : Int32))), .val (.ref x22), .unset] [(.ref b24)]))
                refine own_st (fun _ k => XS.astore X39.here hx rfl (hb hby at_214) rfl rfl (l' := #[.val (.long i0), .second, .val (.long i1), .second, .val (.long i2), .second, .val (.int i3), .val (.long (9223372036854775807 : Int64)), .second, .val (.long step), .second, .val (.long qmax), .second, .val (.long z3), .second, .val (.long mm), .second, .val (.long z9), .second, .val (.long room), .second, .val (.long z18), .second, .val (.int z19), .val (.int (((i3.toUInt32 >>> ((4 : Int32) &&& 31).toUInt32).toInt32) &&& (3 : Int32))), .val (.ref x22), .val (.ref b24)]) rfl k) ?_
                show own_G p.tables e below _ (T39.setTop (mkF m 216 #[.val (.long i0), .second, .val (.long i1), .second, .val (.long i2), .second, .val (.int i3), .val (.long (9223372036854775807 : Int64)), .second, .val (.long step), .second, .val (.long qmax), .second, .val (.long z3), .second, .val (.long mm), .second, .val (.long z9), .second, .val (.long room), .second, .val (.long z18), .second, .val (.int z19), .val (.int (((i3.toUInt32 >>> ((4 : Int32) &&& 31).toUInt32).toInt32) &&& (3 : Int32))), .val (.ref x22), .val (.ref b24)] []))
                refine own_st (fun _ k => XS.aload X39.here hx rfl (hb hby at_216) rfl rfl k) ?_
                show own_G p.tables e below _ (T39.setTop (mkF m 218 #[.val (.long i0), .second, .val (.long i1), .second, .val (.long i2), .second, .val (.int i3), .val (.long (9223372036854775807 : Int64)), .second, .val (.long step), .second, .val (.long qmax), .second, .val (.long z3), .second, .val (.long mm), .second, .val (.long z9), .second, .val (.long room), .second, .val (.long z18), .second, .val (.int z19), .val (.int (((i3.toUInt32 >>> ((4 : Int32) &&& 31).toUInt32).toInt32) &&& (3 : Int32))), .val (.ref x22), .val (.ref b24)] [(.ref b24)]))
                refine own_st (fun _ k => XS.lload X39.here hx rfl (hb hby at_218) rfl k) ?_
                show own_G p.tables e below _ (T39.setTop (mkF m 220 #[.val (.long i0), .second, .val (.long i1), .second, .val (.long i2), .second, .val (.int i3), .val (.long (9223372036854775807 : Int64)), .second, .val (.long step), .second, .val (.long qmax), .second, .val (.long z3), .second, .val (.long mm), .second, .val (.long z9), .second, .val (.long room), .second, .val (.long z18), .second, .val (.int z19), .val (.int (((i3.toUInt32 >>> ((4 : Int32) &&& 31).toUInt32).toInt32) &&& (3 : Int32))), .val (.ref x22), .val (.ref b24)] [(.long z18), (.ref b24)]))
                obtain ⟨cq54, kq54, q54a, q54b, q54c⟩ := isOf hZ39 rfl E40
                obtain ⟨_, _, ⟨T54, L54, k54, n54⟩, -, X54, ⟨Lc54, hQ54, l54, y54, z54⟩, st54⟩ := X39.virtualBack hx (y := (⟨"com/example/stakan/stakan/core/Instrument", "isOnPriceStep", "(J)Z"⟩ : MethodName)) (z := (⟨"com/example/stakan/stakan/core/Instrument", "isOnPriceStep", "(J)Z"⟩ : MethodName)) hown39 (mvT hZ39 (hw _ (List.mem_of_getElem? (i := 47) rfl))) (mvT hZ39 (hw _ (List.mem_of_getElem? (i := 48) rfl))) (notFace_of_selects (args := #[]) (mvT hZ39 (hw _ (List.mem_of_getElem? (i := 50) rfl)))) (mvT hZ39 (hw _ (List.mem_of_getElem? (i := 50) rfl))) (mvT hZ39 (hw _ (List.mem_of_getElem? (i := 49) rfl))) (by decide) (backOf (W := 0) (rm6 l Z a0 hw [] b24 z18 (.ref la31) step (1 : Int64) (.ref x22) T39.heap n0 Z50 F41 F42 F43 F44 E40 (own_p2 hstep hqmax hq hz3 hmm hz6 hroom hz9 hz12 hz15 hz18 hz19)) hZ39 (hw _ (List.mem_of_getElem? (i := 51) rfl)) (hw _ (List.mem_of_getElem? (i := 7) rfl)) (by decide) (by decide)) q54a q54c (g := (mkF m 220 #[.val (.long i0), .second, .val (.long i1), .second, .val (.long i2), .second, .val (.int i3), .val (.long (9223372036854775807 : Int64)), .second, .val (.long step), .second, .val (.long qmax), .second, .val (.long z3), .second, .val (.long mm), .second, .val (.long z9), .second, .val (.long room), .second, .val (.long z18), .second, .val (.int z19), .val (.int (((i3.toUInt32 >>> ((4 : Int32) &&& 31).toUInt32).toInt32) &&& (3 : Int32))), .val (.ref x22), .val (.ref b24)] [(.long z18), (.ref b24)])) rfl (by rw [hml]; rfl) (Steps.refl _) (argsL := [(.long z18)]) (rest := []) (lenOf pd_4 rfl) rfl (by show 2 * 0 + _ ≤ _; exact Nat.le_of_eq rfl) (hb hby at_220) (fun _ _ => ⟨rfl, rfl, (by decide : 7 + 0 ≤ _), (by decide : 84 + 0 ≤ _)⟩)
                dsimp only [Pt.U, Pt.locs, Pt.cells, Pt.slots] at X54 l54 y54 z54 st54 hQ54
                subst l54 y54 z54
                obtain ⟨⟨r54, rfl, hr54⟩, N54q, e54⟩ := hQ54
                have N54 := Fr.app N39 N54q
                refine own_st (fun _ k => st54.trans k) ?_
                show own_G p.tables e below _ (T54.setTop (mkF m 223 #[.val (.long i0), .second, .val (.long i1), .second, .val (.long i2), .second, .val (.int i3), .val (.long (9223372036854775807 : Int64)), .second, .val (.long step), .second, .val (.long qmax), .second, .val (.long z3), .second, .val (.long mm), .second, .val (.long z9), .second, .val (.long room), .second, .val (.long z18), .second, .val (.int z19), .val (.int (((i3.toUInt32 >>> ((4 : Int32) &&& 31).toUInt32).toInt32) &&& (3 : Int32))), .val (.ref x22), .val (.ref b24)] [(.int r54)]))
                refine own_st (fun _ k => XS.iload X54.here hx rfl (hb hby at_223) rfl k) ?_
                show own_G p.tables e below _ (T54.setTop (mkF m 225 #[.val (.long i0), .second, .val (.long i1), .second, .val (.long i2), .second, .val (.int i3), .val (.long (9223372036854775807 : Int64)), .second, .val (.long step), .second, .val (.long qmax), .second, .val (.long z3), .second, .val (.long mm), .second, .val (.long z9), .second, .val (.long room), .second, .val (.long z18), .second, .val (.int z19), .val (.int (((i3.toUInt32 >>> ((4 : Int32) &&& 31).toUInt32).toInt32) &&& (3 : Int32))), .val (.ref x22), .val (.ref b24)] [(.int z19), (.int r54)]))
                have hf55 : r54 = z19 := (hr54.trans ((own_bc (own_main hstep hqmax hq hz3 hmm hz6 hroom hz9 hz12 hz15 hz18 hz19 hr54)).trans hz19.symm))
                refine own_st (fun _ k => XS.icmpNo X54.here hx rfl (hb hby at_225) rfl (teq hf55).2 k) ?_
                show own_G p.tables e below _ (T54.setTop (mkF m 228 #[.val (.long i0), .second, .val (.long i1), .second, .val (.long i2), .second, .val (.int i3), .val (.long (9223372036854775807 : Int64)), .second, .val (.long step), .second, .val (.long qmax), .second, .val (.long z3), .second, .val (.long mm), .second, .val (.long z9), .second, .val (.long room), .second, .val (.long z18), .second, .val (.int z19), .val (.int (((i3.toUInt32 >>> ((4 : Int32) &&& 31).toUInt32).toInt32) &&& (3 : Int32))), .val (.ref x22), .val (.ref b24)] []))
                refine own_st (fun _ k => XS.iconst X54.here hx rfl (hb hby at_228) k) ?_
                show own_G p.tables e below _ (T54.setTop (mkF m 229 #[.val (.long i0), .second, .val (.long i1), .second, .val (.long i2), .second, .val (.int i3), .val (.long (9223372036854775807 : Int64)), .second, .val (.long step), .second, .val (.long qmax), .second, .val (.long z3), .second, .val (.long mm), .second, .val (.long z9), .second, .val (.long room), .second, .val (.long z18), .second, .val (.int z19), .val (.int (((i3.toUInt32 >>> ((4 : Int32) &&& 31).toUInt32).toInt32) &&& (3 : Int32))), .val (.ref x22), .val (.ref b24)] [(.int (1 : Int32))]))
                refine own_st (fun _ k => XS.goto X54.here hx rfl (pc0 := 229) (pc' := 233) rfl (hb hby at_229) (by decide) (by decide) k) ?_
                show own_G p.tables e below _ (T54.setTop (mkF m 233 #[.val (.long i0), .second, .val (.long i1), .second, .val (.long i2), .second, .val (.int i3), .val (.long (9223372036854775807 : Int64)), .second, .val (.long step), .second, .val (.long qmax), .second, .val (.long z3), .second, .val (.long mm), .second, .val (.long z9), .second, .val (.long room), .second, .val (.long z18), .second, .val (.int z19), .val (.int (((i3.toUInt32 >>> ((4 : Int32) &&& 31).toUInt32).toInt32) &&& (3 : Int32))), .val (.ref x22), .val (.ref b24)] [(.int (1 : Int32))]))
                exact own_retZW X54 hS39 (by rw [e54]; exact (Nat.le_refl _)) hx hlk Bd.returns (hb hby at_233) (by decide) ⟨rfl, N54⟩ (by decide) (by decide)
              by_cases hc174_20 : (((i3.toUInt32 >>> ((4 : Int32) &&& 31).toUInt32).toInt32) &&& (3 : Int32)) = (0 : Int32)
              · refine own_st (fun _ k => XS.ifNo X0.here hx rfl (hb hby at_174) rfl ((if0 _ _).trans (teq hc174_20).2) k) ?_
                show own_G p.tables e below _ (s₁.setTop (mkF m 177 #[.val (.long i0), .second, .val (.long i1), .second, .val (.long i2), .second, .val (.int i3), .val (.long (9223372036854775807 : Int64)), .second, .val (.long step), .second, .val (.long qmax), .second, .val (.long z3), .second, .val (.long mm), .second, .val (.long z9), .second, .val (.long room), .second, .val (.long z18), .second, .val (.int z19), .val (.int (((i3.toUInt32 >>> ((4 : Int32) &&& 31).toUInt32).toInt32) &&& (3 : Int32))), .unset, .unset] []))
                obtain ⟨T56, X56, e56, st56⟩ := getS2 X0 hx hZ hown (host := "") (Or.inl (hw _ (List.mem_of_getElem? (i := 2) rfl))) Via.refl e0 (S_TIME.ext O0.2) (g := (mkF m 177 #[.val (.long i0), .second, .val (.long i1), .second, .val (.long i2), .second, .val (.int i3), .val (.long (9223372036854775807 : Int64)), .second, .val (.long step), .second, .val (.long qmax), .second, .val (.long z3), .second, .val (.long mm), .second, .val (.long z9), .second, .val (.long room), .second, .val (.long z18), .second, .val (.int z19), .val (.int (((i3.toUInt32 >>> ((4 : Int32) &&& 31).toUInt32).toInt32) &&& (3 : Int32))), .unset, .unset] [])) rfl (hb hby at_177)
                refine own_st st56 ?_
                show own_G p.tables e below _ (T56.setTop (mkF m 180 #[.val (.long i0), .second, .val (.long i1), .second, .val (.long i2), .second, .val (.int i3), .val (.long (9223372036854775807 : Int64)), .second, .val (.long step), .second, .val (.long qmax), .second, .val (.long z3), .second, .val (.long mm), .second, .val (.long z9), .second, .val (.long room), .second, .val (.long z18), .second, .val (.int z19), .val (.int (((i3.toUInt32 >>> ((4 : Int32) &&& 31).toUInt32).toInt32) &&& (3 : Int32))), .unset, .unset] [(.ref v0)]))
                refine own_st (fun _ k => XS.goto X56.here hx rfl (pc0 := 180) (pc' := 198) rfl (hb hby at_180) (by decide) (by decide) k) ?_
                show own_G p.tables e below _ (T56.setTop (mkF m 198 #[.val (.long i0), .second, .val (.long i1), .second, .val (.long i2), .second, .val (.int i3), .val (.long (9223372036854775807 : Int64)), .second, .val (.long step), .second, .val (.long qmax), .second, .val (.long z3), .second, .val (.long mm), .second, .val (.long z9), .second, .val (.long room), .second, .val (.long z18), .second, .val (.int z19), .val (.int (((i3.toUInt32 >>> ((4 : Int32) &&& 31).toUInt32).toInt32) &&& (3 : Int32))), .unset, .unset] [(.ref v0)]))
                exact J198_21 v0 _ _ X56 N0 e56
              · refine own_st (fun _ k => XS.ifYes X0.here hx rfl (pc0 := 174) (pc' := 183) rfl (hb hby at_174) rfl ((if0 _ _).trans (feq hc174_20).2) (by decide) (by decide) k) ?_
                show own_G p.tables e below _ (s₁.setTop (mkF m 183 #[.val (.long i0), .second, .val (.long i1), .second, .val (.long i2), .second, .val (.int i3), .val (.long (9223372036854775807 : Int64)), .second, .val (.long step), .second, .val (.long qmax), .second, .val (.long z3), .second, .val (.long mm), .second, .val (.long z9), .second, .val (.long room), .second, .val (.long z18), .second, .val (.int z19), .val (.int (((i3.toUInt32 >>> ((4 : Int32) &&& 31).toUInt32).toInt32) &&& (3 : Int32))), .unset, .unset] []))
                refine own_st (fun _ k => XS.iload X0.here hx rfl (hb hby at_183) rfl k) ?_
                show own_G p.tables e below _ (s₁.setTop (mkF m 185 #[.val (.long i0), .second, .val (.long i1), .second, .val (.long i2), .second, .val (.int i3), .val (.long (9223372036854775807 : Int64)), .second, .val (.long step), .second, .val (.long qmax), .second, .val (.long z3), .second, .val (.long mm), .second, .val (.long z9), .second, .val (.long room), .second, .val (.long z18), .second, .val (.int z19), .val (.int (((i3.toUInt32 >>> ((4 : Int32) &&& 31).toUInt32).toInt32) &&& (3 : Int32))), .unset, .unset] [(.int (((i3.toUInt32 >>> ((4 : Int32) &&& 31).toUInt32).toInt32) &&& (3 : Int32)))]))
                refine own_st (fun _ k => XS.iconst X0.here hx rfl (hb hby at_185) k) ?_
                show own_G p.tables e below _ (s₁.setTop (mkF m 186 #[.val (.long i0), .second, .val (.long i1), .second, .val (.long i2), .second, .val (.int i3), .val (.long (9223372036854775807 : Int64)), .second, .val (.long step), .second, .val (.long qmax), .second, .val (.long z3), .second, .val (.long mm), .second, .val (.long z9), .second, .val (.long room), .second, .val (.long z18), .second, .val (.int z19), .val (.int (((i3.toUInt32 >>> ((4 : Int32) &&& 31).toUInt32).toInt32) &&& (3 : Int32))), .unset, .unset] [(.int (1 : Int32)), (.int (((i3.toUInt32 >>> ((4 : Int32) &&& 31).toUInt32).toInt32) &&& (3 : Int32)))]))
                by_cases hc186_57 : (((i3.toUInt32 >>> ((4 : Int32) &&& 31).toUInt32).toInt32) &&& (3 : Int32)) = (1 : Int32)
                · refine own_st (fun _ k => XS.icmpNo X0.here hx rfl (hb hby at_186) rfl (teq hc186_57).2 k) ?_
                  show own_G p.tables e below _ (s₁.setTop (mkF m 189 #[.val (.long i0), .second, .val (.long i1), .second, .val (.long i2), .second, .val (.int i3), .val (.long (9223372036854775807 : Int64)), .second, .val (.long step), .second, .val (.long qmax), .second, .val (.long z3), .second, .val (.long mm), .second, .val (.long z9), .second, .val (.long room), .second, .val (.long z18), .second, .val (.int z19), .val (.int (((i3.toUInt32 >>> ((4 : Int32) &&& 31).toUInt32).toInt32) &&& (3 : Int32))), .unset, .unset] []))
                  obtain ⟨T58, X58, e58, st58⟩ := getS2 X0 hx hZ hown (host := "") (Or.inl (hw _ (List.mem_of_getElem? (i := 54) rfl))) Via.refl e0 (S_PRO_RATA.ext O0.2) (g := (mkF m 189 #[.val (.long i0), .second, .val (.long i1), .second, .val (.long i2), .second, .val (.int i3), .val (.long (9223372036854775807 : Int64)), .second, .val (.long step), .second, .val (.long qmax), .second, .val (.long z3), .second, .val (.long mm), .second, .val (.long z9), .second, .val (.long room), .second, .val (.long z18), .second, .val (.int z19), .val (.int (((i3.toUInt32 >>> ((4 : Int32) &&& 31).toUInt32).toInt32) &&& (3 : Int32))), .unset, .unset] [])) rfl (hb hby at_189)
                  refine own_st st58 ?_
                  show own_G p.tables e below _ (T58.setTop (mkF m 192 #[.val (.long i0), .second, .val (.long i1), .second, .val (.long i2), .second, .val (.int i3), .val (.long (9223372036854775807 : Int64)), .second, .val (.long step), .second, .val (.long qmax), .second, .val (.long z3), .second, .val (.long mm), .second, .val (.long z9), .second, .val (.long room), .second, .val (.long z18), .second, .val (.int z19), .val (.int (((i3.toUInt32 >>> ((4 : Int32) &&& 31).toUInt32).toInt32) &&& (3 : Int32))), .unset, .unset] [(.ref v2)]))
                  refine own_st (fun _ k => XS.goto X58.here hx rfl (pc0 := 192) (pc' := 198) rfl (hb hby at_192) (by decide) (by decide) k) ?_
                  show own_G p.tables e below _ (T58.setTop (mkF m 198 #[.val (.long i0), .second, .val (.long i1), .second, .val (.long i2), .second, .val (.int i3), .val (.long (9223372036854775807 : Int64)), .second, .val (.long step), .second, .val (.long qmax), .second, .val (.long z3), .second, .val (.long mm), .second, .val (.long z9), .second, .val (.long room), .second, .val (.long z18), .second, .val (.int z19), .val (.int (((i3.toUInt32 >>> ((4 : Int32) &&& 31).toUInt32).toInt32) &&& (3 : Int32))), .unset, .unset] [(.ref v2)]))
                  exact J198_21 v2 _ _ X58 N0 e58
                · refine own_st (fun _ k => XS.icmpYes X0.here hx rfl (pc0 := 186) (pc' := 195) rfl (hb hby at_186) rfl (feq hc186_57).2 (by decide) (by decide) k) ?_
                  show own_G p.tables e below _ (s₁.setTop (mkF m 195 #[.val (.long i0), .second, .val (.long i1), .second, .val (.long i2), .second, .val (.int i3), .val (.long (9223372036854775807 : Int64)), .second, .val (.long step), .second, .val (.long qmax), .second, .val (.long z3), .second, .val (.long mm), .second, .val (.long z9), .second, .val (.long room), .second, .val (.long z18), .second, .val (.int z19), .val (.int (((i3.toUInt32 >>> ((4 : Int32) &&& 31).toUInt32).toInt32) &&& (3 : Int32))), .unset, .unset] []))
                  obtain ⟨T59, X59, e59, st59⟩ := getS2 X0 hx hZ hown (host := "") (Or.inl (hw _ (List.mem_of_getElem? (i := 52) rfl))) Via.refl e0 (S_PARITY.ext O0.2) (g := (mkF m 195 #[.val (.long i0), .second, .val (.long i1), .second, .val (.long i2), .second, .val (.int i3), .val (.long (9223372036854775807 : Int64)), .second, .val (.long step), .second, .val (.long qmax), .second, .val (.long z3), .second, .val (.long mm), .second, .val (.long z9), .second, .val (.long room), .second, .val (.long z18), .second, .val (.int z19), .val (.int (((i3.toUInt32 >>> ((4 : Int32) &&& 31).toUInt32).toInt32) &&& (3 : Int32))), .unset, .unset] [])) rfl (hb hby at_195)
                  refine own_st st59 ?_
                  show own_G p.tables e below _ (T59.setTop (mkF m 198 #[.val (.long i0), .second, .val (.long i1), .second, .val (.long i2), .second, .val (.int i3), .val (.long (9223372036854775807 : Int64)), .second, .val (.long step), .second, .val (.long qmax), .second, .val (.long z3), .second, .val (.long mm), .second, .val (.long z9), .second, .val (.long room), .second, .val (.long z18), .second, .val (.int z19), .val (.int (((i3.toUInt32 >>> ((4 : Int32) &&& 31).toUInt32).toInt32) &&& (3 : Int32))), .unset, .unset] [(.ref v1)]))
                  exact J198_21 v1 _ _ X59 N0 e59
            by_cases hc137_16 : (i3 &&& (2 : Int32)) = (0 : Int32)
            · refine own_st (fun _ k => XS.ifYes X0.here hx rfl (pc0 := 137) (pc' := 164) rfl (hb hby at_137) rfl ((if0 _ _).trans (teq hc137_16).1) (by decide) (by decide) k) ?_
              show own_G p.tables e below _ (s₁.setTop (mkF m 164 #[.val (.long i0), .second, .val (.long i1), .second, .val (.long i2), .second, .val (.int i3), .val (.long (9223372036854775807 : Int64)), .second, .val (.long step), .second, .val (.long qmax), .second, .val (.long z3), .second, .val (.long mm), .second, .val (.long z9), .second, .val (.long room), .second, .val (.long z12), .second, .val (.int z15), .unset, .unset, .unset] []))
              exact J164_17 z12 ((if_pos hc137_16).symm) z15 ((by first | exact (hz15.trans (own_bc ⟨fun q => (Or.inl ⟨hc137_16, q⟩), fun q => ((q).elim (fun r => r.2) (fun r => absurd hc137_16 r.1))⟩)) | exact (own_bc ⟨fun q => (Or.inl ⟨hc137_16, q⟩), fun q => ((q).elim (fun r => r.2) (fun r => absurd hc137_16 r.1))⟩)))
            · refine own_st (fun _ k => XS.ifNo X0.here hx rfl (hb hby at_137) rfl ((if0 _ _).trans (feq hc137_16).1) k) ?_
              show own_G p.tables e below _ (s₁.setTop (mkF m 140 #[.val (.long i0), .second, .val (.long i1), .second, .val (.long i2), .second, .val (.int i3), .val (.long (9223372036854775807 : Int64)), .second, .val (.long step), .second, .val (.long qmax), .second, .val (.long z3), .second, .val (.long mm), .second, .val (.long z9), .second, .val (.long room), .second, .val (.long z12), .second, .val (.int z15), .unset, .unset, .unset] []))
              refine own_st (X0.ldc2Long hx hown (mvT hZ (hw _ (List.mem_of_getElem? (i := 1) rfl))) (g := (mkF m 140 #[.val (.long i0), .second, .val (.long i1), .second, .val (.long i2), .second, .val (.int i3), .val (.long (9223372036854775807 : Int64)), .second, .val (.long step), .second, .val (.long qmax), .second, .val (.long z3), .second, .val (.long mm), .second, .val (.long z9), .second, .val (.long room), .second, .val (.long z12), .second, .val (.int z15), .unset, .unset, .unset] [])) rfl (hb hby at_140)) ?_
              show own_G p.tables e below _ (s₁.setTop (mkF m 143 #[.val (.long i0), .second, .val (.long i1), .second, .val (.long i2), .second, .val (.int i3), .val (.long (9223372036854775807 : Int64)), .second, .val (.long step), .second, .val (.long qmax), .second, .val (.long z3), .second, .val (.long mm), .second, .val (.long z9), .second, .val (.long room), .second, .val (.long z12), .second, .val (.int z15), .unset, .unset, .unset] [(.long (-9223372036854775808 : Int64))]))
              refine own_st (fun _ k => XS.lstore X0.here hx rfl (hb hby at_143) rfl (l' := #[.val (.long i0), .second, .val (.long i1), .second, .val (.long i2), .second, .val (.int i3), .val (.long (9223372036854775807 : Int64)), .second, .val (.long step), .second, .val (.long qmax), .second, .val (.long z3), .second, .val (.long mm), .second, .val (.long z9), .second, .val (.long room), .second, .val (.long (-9223372036854775808 : Int64)), .second, .val (.int z15), .unset, .unset, .unset]) rfl k) ?_
              show own_G p.tables e below _ (s₁.setTop (mkF m 145 #[.val (.long i0), .second, .val (.long i1), .second, .val (.long i2), .second, .val (.int i3), .val (.long (9223372036854775807 : Int64)), .second, .val (.long step), .second, .val (.long qmax), .second, .val (.long z3), .second, .val (.long mm), .second, .val (.long z9), .second, .val (.long room), .second, .val (.long (-9223372036854775808 : Int64)), .second, .val (.int z15), .unset, .unset, .unset] []))
              refine own_st (fun _ k => XS.lload X0.here hx rfl (hb hby at_145) rfl k) ?_
              show own_G p.tables e below _ (s₁.setTop (mkF m 147 #[.val (.long i0), .second, .val (.long i1), .second, .val (.long i2), .second, .val (.int i3), .val (.long (9223372036854775807 : Int64)), .second, .val (.long step), .second, .val (.long qmax), .second, .val (.long z3), .second, .val (.long mm), .second, .val (.long z9), .second, .val (.long room), .second, .val (.long (-9223372036854775808 : Int64)), .second, .val (.int z15), .unset, .unset, .unset] [(.long step)]))
              refine own_st (fun _ k => XS.lload X0.here hx rfl (hb hby at_147) rfl k) ?_
              show own_G p.tables e below _ (s₁.setTop (mkF m 149 #[.val (.long i0), .second, .val (.long i1), .second, .val (.long i2), .second, .val (.int i3), .val (.long (9223372036854775807 : Int64)), .second, .val (.long step), .second, .val (.long qmax), .second, .val (.long z3), .second, .val (.long mm), .second, .val (.long z9), .second, .val (.long room), .second, .val (.long (-9223372036854775808 : Int64)), .second, .val (.int z15), .unset, .unset, .unset] [(.long step), (.long step)]))
              refine own_st (fun _ k => XS.lconst X0.here hx rfl (hb hby at_149) k) ?_
              show own_G p.tables e below _ (s₁.setTop (mkF m 150 #[.val (.long i0), .second, .val (.long i1), .second, .val (.long i2), .second, .val (.int i3), .val (.long (9223372036854775807 : Int64)), .second, .val (.long step), .second, .val (.long qmax), .second, .val (.long z3), .second, .val (.long mm), .second, .val (.long z9), .second, .val (.long room), .second, .val (.long (-9223372036854775808 : Int64)), .second, .val (.int z15), .unset, .unset, .unset] [(.long (1 : Int64)), (.long step), (.long step)]))
              refine own_st (fun _ k => XS.lsub X0.here hx rfl (hb hby at_150) rfl k) ?_
              show own_G p.tables e below _ (s₁.setTop (mkF m 151 #[.val (.long i0), .second, .val (.long i1), .second, .val (.long i2), .second, .val (.int i3), .val (.long (9223372036854775807 : Int64)), .second, .val (.long step), .second, .val (.long qmax), .second, .val (.long z3), .second, .val (.long mm), .second, .val (.long z9), .second, .val (.long room), .second, .val (.long (-9223372036854775808 : Int64)), .second, .val (.int z15), .unset, .unset, .unset] [(.long (step - (1 : Int64))), (.long step)]))
              refine own_st (fun _ k => XS.land X0.here hx rfl (hb hby at_151) rfl k) ?_
              show own_G p.tables e below _ (s₁.setTop (mkF m 152 #[.val (.long i0), .second, .val (.long i1), .second, .val (.long i2), .second, .val (.int i3), .val (.long (9223372036854775807 : Int64)), .second, .val (.long step), .second, .val (.long qmax), .second, .val (.long z3), .second, .val (.long mm), .second, .val (.long z9), .second, .val (.long room), .second, .val (.long (-9223372036854775808 : Int64)), .second, .val (.int z15), .unset, .unset, .unset] [(.long (step &&& (step - (1 : Int64))))]))
              refine own_st (fun _ k => XS.lconst X0.here hx rfl (hb hby at_152) k) ?_
              show own_G p.tables e below _ (s₁.setTop (mkF m 153 #[.val (.long i0), .second, .val (.long i1), .second, .val (.long i2), .second, .val (.int i3), .val (.long (9223372036854775807 : Int64)), .second, .val (.long step), .second, .val (.long qmax), .second, .val (.long z3), .second, .val (.long mm), .second, .val (.long z9), .second, .val (.long room), .second, .val (.long (-9223372036854775808 : Int64)), .second, .val (.int z15), .unset, .unset, .unset] [(.long (0 : Int64)), (.long (step &&& (step - (1 : Int64))))]))
              refine own_st (fun _ k => XS.lcmp X0.here hx rfl (hb hby at_153) rfl k) ?_
              show own_G p.tables e below _ (s₁.setTop (mkF m 154 #[.val (.long i0), .second, .val (.long i1), .second, .val (.long i2), .second, .val (.int i3), .val (.long (9223372036854775807 : Int64)), .second, .val (.long step), .second, .val (.long qmax), .second, .val (.long z3), .second, .val (.long mm), .second, .val (.long z9), .second, .val (.long room), .second, .val (.long (-9223372036854775808 : Int64)), .second, .val (.int z15), .unset, .unset, .unset] [(.int (lcmpW (step &&& (step - (1 : Int64))) (0 : Int64)))]))
              have J162_61 : ∀ (z62 : Int32) (hz62 : z62 = (own_b ((step &&& (step - (1 : Int64))) = (0 : Int64)))), own_G p.tables e below (own_PW s (Q0 n0) 16 3200) (s₁.setTop (mkF m 162 #[.val (.long i0), .second, .val (.long i1), .second, .val (.long i2), .second, .val (.int i3), .val (.long (9223372036854775807 : Int64)), .second, .val (.long step), .second, .val (.long qmax), .second, .val (.long z3), .second, .val (.long mm), .second, .val (.long z9), .second, .val (.long room), .second, .val (.long (-9223372036854775808 : Int64)), .second, .val (.int z15), .unset, .unset, .unset] [(.int z62)])) := by
                intro z62 hz62
                refine own_st (fun _ k => XS.istore X0.here hx rfl (hb hby at_162) rfl (l' := #[.val (.long i0), .second, .val (.long i1), .second, .val (.long i2), .second, .val (.int i3), .val (.long (9223372036854775807 : Int64)), .second, .val (.long step), .second, .val (.long qmax), .second, .val (.long z3), .second, .val (.long mm), .second, .val (.long z9), .second, .val (.long room), .second, .val (.long (-9223372036854775808 : Int64)), .second, .val (.int z62), .unset, .unset, .unset]) rfl k) ?_
                show own_G p.tables e below _ (s₁.setTop (mkF m 164 #[.val (.long i0), .second, .val (.long i1), .second, .val (.long i2), .second, .val (.int i3), .val (.long (9223372036854775807 : Int64)), .second, .val (.long step), .second, .val (.long qmax), .second, .val (.long z3), .second, .val (.long mm), .second, .val (.long z9), .second, .val (.long room), .second, .val (.long (-9223372036854775808 : Int64)), .second, .val (.int z62), .unset, .unset, .unset] []))
                exact J164_17 (-9223372036854775808 : Int64) (by subst hz62; exact (if_neg hc137_16).symm) z62 (by subst hz62; exact (by first | exact (hz62.trans (own_bc ⟨fun q => (Or.inr ⟨hc137_16, q⟩), fun q => ((q).elim (fun r => absurd r.1 hc137_16) (fun r => r.2))⟩)) | exact (own_bc ⟨fun q => (Or.inr ⟨hc137_16, q⟩), fun q => ((q).elim (fun r => absurd r.1 hc137_16) (fun r => r.2))⟩)))
              by_cases hc154_60 : (step &&& (step - (1 : Int64))) = (0 : Int64)
              · refine own_st (fun _ k => XS.ifNo X0.here hx rfl (hb hby at_154) rfl ((if0 _ _).trans (teq ((lw_eq (step &&& (step - (1 : Int64))) (0 : Int64)).mpr hc154_60)).2) k) ?_
                show own_G p.tables e below _ (s₁.setTop (mkF m 157 #[.val (.long i0), .second, .val (.long i1), .second, .val (.long i2), .second, .val (.int i3), .val (.long (9223372036854775807 : Int64)), .second, .val (.long step), .second, .val (.long qmax), .second, .val (.long z3), .second, .val (.long mm), .second, .val (.long z9), .second, .val (.long room), .second, .val (.long (-9223372036854775808 : Int64)), .second, .val (.int z15), .unset, .unset, .unset] []))
                refine own_st (fun _ k => XS.iconst X0.here hx rfl (hb hby at_157) k) ?_
                show own_G p.tables e below _ (s₁.setTop (mkF m 158 #[.val (.long i0), .second, .val (.long i1), .second, .val (.long i2), .second, .val (.int i3), .val (.long (9223372036854775807 : Int64)), .second, .val (.long step), .second, .val (.long qmax), .second, .val (.long z3), .second, .val (.long mm), .second, .val (.long z9), .second, .val (.long room), .second, .val (.long (-9223372036854775808 : Int64)), .second, .val (.int z15), .unset, .unset, .unset] [(.int (1 : Int32))]))
                refine own_st (fun _ k => XS.goto X0.here hx rfl (pc0 := 158) (pc' := 162) rfl (hb hby at_158) (by decide) (by decide) k) ?_
                show own_G p.tables e below _ (s₁.setTop (mkF m 162 #[.val (.long i0), .second, .val (.long i1), .second, .val (.long i2), .second, .val (.int i3), .val (.long (9223372036854775807 : Int64)), .second, .val (.long step), .second, .val (.long qmax), .second, .val (.long z3), .second, .val (.long mm), .second, .val (.long z9), .second, .val (.long room), .second, .val (.long (-9223372036854775808 : Int64)), .second, .val (.int z15), .unset, .unset, .unset] [(.int (1 : Int32))]))
                exact J162_61 (1 : Int32) ((own_bt hc154_60).symm)
              · refine own_st (fun _ k => XS.ifYes X0.here hx rfl (pc0 := 154) (pc' := 161) rfl (hb hby at_154) rfl ((if0 _ _).trans (feq (fun q => hc154_60 ((lw_eq (step &&& (step - (1 : Int64))) (0 : Int64)).mp q))).2) (by decide) (by decide) k) ?_
                show own_G p.tables e below _ (s₁.setTop (mkF m 161 #[.val (.long i0), .second, .val (.long i1), .second, .val (.long i2), .second, .val (.int i3), .val (.long (9223372036854775807 : Int64)), .second, .val (.long step), .second, .val (.long qmax), .second, .val (.long z3), .second, .val (.long mm), .second, .val (.long z9), .second, .val (.long room), .second, .val (.long (-9223372036854775808 : Int64)), .second, .val (.int z15), .unset, .unset, .unset] []))
                refine own_st (fun _ k => XS.iconst X0.here hx rfl (hb hby at_161) k) ?_
                show own_G p.tables e below _ (s₁.setTop (mkF m 162 #[.val (.long i0), .second, .val (.long i1), .second, .val (.long i2), .second, .val (.int i3), .val (.long (9223372036854775807 : Int64)), .second, .val (.long step), .second, .val (.long qmax), .second, .val (.long z3), .second, .val (.long mm), .second, .val (.long z9), .second, .val (.long room), .second, .val (.long (-9223372036854775808 : Int64)), .second, .val (.int z15), .unset, .unset, .unset] [(.int (0 : Int32))]))
                exact J162_61 (0 : Int32) ((own_bf hc154_60).symm)
          by_cases hc123_13 : z9 = (0 : Int64)
          · refine own_st (fun _ k => XS.ifNo X0.here hx rfl (hb hby at_123) rfl ((if0 _ _).trans (teq ((lw_eq z9 (0 : Int64)).mpr hc123_13)).2) k) ?_
            show own_G p.tables e below _ (s₁.setTop (mkF m 126 #[.val (.long i0), .second, .val (.long i1), .second, .val (.long i2), .second, .val (.int i3), .val (.long (9223372036854775807 : Int64)), .second, .val (.long step), .second, .val (.long qmax), .second, .val (.long z3), .second, .val (.long mm), .second, .val (.long z9), .second, .val (.long room), .second, .val (.long z12), .second, .unset, .unset, .unset, .unset] []))
            refine own_st (fun _ k => XS.iconst X0.here hx rfl (hb hby at_126) k) ?_
            show own_G p.tables e below _ (s₁.setTop (mkF m 127 #[.val (.long i0), .second, .val (.long i1), .second, .val (.long i2), .second, .val (.int i3), .val (.long (9223372036854775807 : Int64)), .second, .val (.long step), .second, .val (.long qmax), .second, .val (.long z3), .second, .val (.long mm), .second, .val (.long z9), .second, .val (.long room), .second, .val (.long z12), .second, .unset, .unset, .unset, .unset] [(.int (1 : Int32))]))
            refine own_st (fun _ k => XS.goto X0.here hx rfl (pc0 := 127) (pc' := 131) rfl (hb hby at_127) (by decide) (by decide) k) ?_
            show own_G p.tables e below _ (s₁.setTop (mkF m 131 #[.val (.long i0), .second, .val (.long i1), .second, .val (.long i2), .second, .val (.int i3), .val (.long (9223372036854775807 : Int64)), .second, .val (.long step), .second, .val (.long qmax), .second, .val (.long z3), .second, .val (.long mm), .second, .val (.long z9), .second, .val (.long room), .second, .val (.long z12), .second, .unset, .unset, .unset, .unset] [(.int (1 : Int32))]))
            exact J131_14 (1 : Int32) ((own_bt hc123_13).symm)
          · refine own_st (fun _ k => XS.ifYes X0.here hx rfl (pc0 := 123) (pc' := 130) rfl (hb hby at_123) rfl ((if0 _ _).trans (feq (fun q => hc123_13 ((lw_eq z9 (0 : Int64)).mp q))).2) (by decide) (by decide) k) ?_
            show own_G p.tables e below _ (s₁.setTop (mkF m 130 #[.val (.long i0), .second, .val (.long i1), .second, .val (.long i2), .second, .val (.int i3), .val (.long (9223372036854775807 : Int64)), .second, .val (.long step), .second, .val (.long qmax), .second, .val (.long z3), .second, .val (.long mm), .second, .val (.long z9), .second, .val (.long room), .second, .val (.long z12), .second, .unset, .unset, .unset, .unset] []))
            refine own_st (fun _ k => XS.iconst X0.here hx rfl (hb hby at_130) k) ?_
            show own_G p.tables e below _ (s₁.setTop (mkF m 131 #[.val (.long i0), .second, .val (.long i1), .second, .val (.long i2), .second, .val (.int i3), .val (.long (9223372036854775807 : Int64)), .second, .val (.long step), .second, .val (.long qmax), .second, .val (.long z3), .second, .val (.long mm), .second, .val (.long z9), .second, .val (.long room), .second, .val (.long z12), .second, .unset, .unset, .unset, .unset] [(.int (0 : Int32))]))
            exact J131_14 (0 : Int32) ((own_bf hc123_13).symm)
        by_cases hc100_10 : (i3 &&& (1 : Int32)) = (0 : Int32)
        · refine own_st (fun _ k => XS.ifYes X0.here hx rfl (pc0 := 100) (pc' := 112) rfl (hb hby at_100) rfl ((if0 _ _).trans (teq hc100_10).1) (by decide) (by decide) k) ?_
          show own_G p.tables e below _ (s₁.setTop (mkF m 112 #[.val (.long i0), .second, .val (.long i1), .second, .val (.long i2), .second, .val (.int i3), .val (.long (9223372036854775807 : Int64)), .second, .val (.long step), .second, .val (.long qmax), .second, .val (.long z3), .second, .val (.long mm), .second, .val (.long z9), .second, .val (.long room), .second, .unset, .unset, .unset, .unset, .unset, .unset] []))
          refine own_st (fun _ k => XS.lload X0.here hx rfl (hb hby at_112) rfl k) ?_
          show own_G p.tables e below _ (s₁.setTop (mkF m 114 #[.val (.long i0), .second, .val (.long i1), .second, .val (.long i2), .second, .val (.int i3), .val (.long (9223372036854775807 : Int64)), .second, .val (.long step), .second, .val (.long qmax), .second, .val (.long z3), .second, .val (.long mm), .second, .val (.long z9), .second, .val (.long room), .second, .unset, .unset, .unset, .unset, .unset, .unset] [(.long mm)]))
          refine own_st (fun _ k => XS.lload X0.here hx rfl (hb hby at_114) rfl k) ?_
          show own_G p.tables e below _ (s₁.setTop (mkF m 116 #[.val (.long i0), .second, .val (.long i1), .second, .val (.long i2), .second, .val (.int i3), .val (.long (9223372036854775807 : Int64)), .second, .val (.long step), .second, .val (.long qmax), .second, .val (.long z3), .second, .val (.long mm), .second, .val (.long z9), .second, .val (.long room), .second, .unset, .unset, .unset, .unset, .unset, .unset] [(.long z9), (.long mm)]))
          refine own_st (fun _ k => XS.ladd X0.here hx rfl (hb hby at_116) rfl k) ?_
          show own_G p.tables e below _ (s₁.setTop (mkF m 117 #[.val (.long i0), .second, .val (.long i1), .second, .val (.long i2), .second, .val (.int i3), .val (.long (9223372036854775807 : Int64)), .second, .val (.long step), .second, .val (.long qmax), .second, .val (.long z3), .second, .val (.long mm), .second, .val (.long z9), .second, .val (.long room), .second, .unset, .unset, .unset, .unset, .unset, .unset] [(.long (mm + z9))]))
          exact J117_11 (mm + z9) ((if_pos hc100_10).symm)
        · refine own_st (fun _ k => XS.ifNo X0.here hx rfl (hb hby at_100) rfl ((if0 _ _).trans (feq hc100_10).1) k) ?_
          show own_G p.tables e below _ (s₁.setTop (mkF m 103 #[.val (.long i0), .second, .val (.long i1), .second, .val (.long i2), .second, .val (.int i3), .val (.long (9223372036854775807 : Int64)), .second, .val (.long step), .second, .val (.long qmax), .second, .val (.long z3), .second, .val (.long mm), .second, .val (.long z9), .second, .val (.long room), .second, .unset, .unset, .unset, .unset, .unset, .unset] []))
          refine own_st (fun _ k => XS.lload X0.here hx rfl (hb hby at_103) rfl k) ?_
          show own_G p.tables e below _ (s₁.setTop (mkF m 105 #[.val (.long i0), .second, .val (.long i1), .second, .val (.long i2), .second, .val (.int i3), .val (.long (9223372036854775807 : Int64)), .second, .val (.long step), .second, .val (.long qmax), .second, .val (.long z3), .second, .val (.long mm), .second, .val (.long z9), .second, .val (.long room), .second, .unset, .unset, .unset, .unset, .unset, .unset] [(.long mm)]))
          refine own_st (fun _ k => XS.lneg X0.here hx rfl (hb hby at_105) rfl k) ?_
          show own_G p.tables e below _ (s₁.setTop (mkF m 106 #[.val (.long i0), .second, .val (.long i1), .second, .val (.long i2), .second, .val (.int i3), .val (.long (9223372036854775807 : Int64)), .second, .val (.long step), .second, .val (.long qmax), .second, .val (.long z3), .second, .val (.long mm), .second, .val (.long z9), .second, .val (.long room), .second, .unset, .unset, .unset, .unset, .unset, .unset] [(.long (-mm))]))
          refine own_st (fun _ k => XS.lload X0.here hx rfl (hb hby at_106) rfl k) ?_
          show own_G p.tables e below _ (s₁.setTop (mkF m 108 #[.val (.long i0), .second, .val (.long i1), .second, .val (.long i2), .second, .val (.int i3), .val (.long (9223372036854775807 : Int64)), .second, .val (.long step), .second, .val (.long qmax), .second, .val (.long z3), .second, .val (.long mm), .second, .val (.long z9), .second, .val (.long room), .second, .unset, .unset, .unset, .unset, .unset, .unset] [(.long z9), (.long (-mm))]))
          refine own_st (fun _ k => XS.lsub X0.here hx rfl (hb hby at_108) rfl k) ?_
          show own_G p.tables e below _ (s₁.setTop (mkF m 109 #[.val (.long i0), .second, .val (.long i1), .second, .val (.long i2), .second, .val (.int i3), .val (.long (9223372036854775807 : Int64)), .second, .val (.long step), .second, .val (.long qmax), .second, .val (.long z3), .second, .val (.long mm), .second, .val (.long z9), .second, .val (.long room), .second, .unset, .unset, .unset, .unset, .unset, .unset] [(.long ((-mm) - z9))]))
          refine own_st (fun _ k => XS.goto X0.here hx rfl (pc0 := 109) (pc' := 117) rfl (hb hby at_109) (by decide) (by decide) k) ?_
          show own_G p.tables e below _ (s₁.setTop (mkF m 117 #[.val (.long i0), .second, .val (.long i1), .second, .val (.long i2), .second, .val (.int i3), .val (.long (9223372036854775807 : Int64)), .second, .val (.long step), .second, .val (.long qmax), .second, .val (.long z3), .second, .val (.long mm), .second, .val (.long z9), .second, .val (.long room), .second, .unset, .unset, .unset, .unset, .unset, .unset] [(.long ((-mm) - z9))]))
          exact J117_11 ((-mm) - z9) ((if_neg hc100_10).symm)
      by_cases hc84_7 : room < z6
      · refine own_st (fun _ k => XS.ifNo X0.here hx rfl (hb hby at_84) rfl ((if0 _ _).trans (tlt ((lw_gt z6 room).mpr hc84_7)).2.2.2) k) ?_
        show own_G p.tables e below _ (s₁.setTop (mkF m 87 #[.val (.long i0), .second, .val (.long i1), .second, .val (.long i2), .second, .val (.int i3), .val (.long (9223372036854775807 : Int64)), .second, .val (.long step), .second, .val (.long qmax), .second, .val (.long z3), .second, .val (.long mm), .second, .val (.long z6), .second, .val (.long room), .second, .unset, .unset, .unset, .unset, .unset, .unset] []))
        refine own_st (fun _ k => XS.lload X0.here hx rfl (hb hby at_87) rfl k) ?_
        show own_G p.tables e below _ (s₁.setTop (mkF m 89 #[.val (.long i0), .second, .val (.long i1), .second, .val (.long i2), .second, .val (.int i3), .val (.long (9223372036854775807 : Int64)), .second, .val (.long step), .second, .val (.long qmax), .second, .val (.long z3), .second, .val (.long mm), .second, .val (.long z6), .second, .val (.long room), .second, .unset, .unset, .unset, .unset, .unset, .unset] [(.long z6)]))
        refine own_st (fun _ k => XS.lload X0.here hx rfl (hb hby at_89) rfl k) ?_
        show own_G p.tables e below _ (s₁.setTop (mkF m 91 #[.val (.long i0), .second, .val (.long i1), .second, .val (.long i2), .second, .val (.int i3), .val (.long (9223372036854775807 : Int64)), .second, .val (.long step), .second, .val (.long qmax), .second, .val (.long z3), .second, .val (.long mm), .second, .val (.long z6), .second, .val (.long room), .second, .unset, .unset, .unset, .unset, .unset, .unset] [(.long room), (.long z6)]))
        refine own_st (fun _ k => XS.lconst X0.here hx rfl (hb hby at_91) k) ?_
        show own_G p.tables e below _ (s₁.setTop (mkF m 92 #[.val (.long i0), .second, .val (.long i1), .second, .val (.long i2), .second, .val (.int i3), .val (.long (9223372036854775807 : Int64)), .second, .val (.long step), .second, .val (.long qmax), .second, .val (.long z3), .second, .val (.long mm), .second, .val (.long z6), .second, .val (.long room), .second, .unset, .unset, .unset, .unset, .unset, .unset] [(.long (1 : Int64)), (.long room), (.long z6)]))
        refine own_st (fun _ k => XS.ladd X0.here hx rfl (hb hby at_92) rfl k) ?_
        show own_G p.tables e below _ (s₁.setTop (mkF m 93 #[.val (.long i0), .second, .val (.long i1), .second, .val (.long i2), .second, .val (.int i3), .val (.long (9223372036854775807 : Int64)), .second, .val (.long step), .second, .val (.long qmax), .second, .val (.long z3), .second, .val (.long mm), .second, .val (.long z6), .second, .val (.long room), .second, .unset, .unset, .unset, .unset, .unset, .unset] [(.long (room + (1 : Int64))), (.long z6)]))
        refine own_st (fun _ k => XS.lrem X0.here hx rfl (hb hby at_93) rfl (own_z93 hstep hqmax hq hz3 hmm hz6 hroom hc84_7) k) ?_
        show own_G p.tables e below _ (s₁.setTop (mkF m 94 #[.val (.long i0), .second, .val (.long i1), .second, .val (.long i2), .second, .val (.int i3), .val (.long (9223372036854775807 : Int64)), .second, .val (.long step), .second, .val (.long qmax), .second, .val (.long z3), .second, .val (.long mm), .second, .val (.long z6), .second, .val (.long room), .second, .unset, .unset, .unset, .unset, .unset, .unset] [(.long (z6 - (z6 / (room + (1 : Int64))) * (room + (1 : Int64))))]))
        refine own_st (fun _ k => XS.lstore X0.here hx rfl (hb hby at_94) rfl (l' := #[.val (.long i0), .second, .val (.long i1), .second, .val (.long i2), .second, .val (.int i3), .val (.long (9223372036854775807 : Int64)), .second, .val (.long step), .second, .val (.long qmax), .second, .val (.long z3), .second, .val (.long mm), .second, .val (.long (z6 - (z6 / (room + (1 : Int64))) * (room + (1 : Int64)))), .second, .val (.long room), .second, .unset, .unset, .unset, .unset, .unset, .unset]) rfl k) ?_
        show own_G p.tables e below _ (s₁.setTop (mkF m 96 #[.val (.long i0), .second, .val (.long i1), .second, .val (.long i2), .second, .val (.int i3), .val (.long (9223372036854775807 : Int64)), .second, .val (.long step), .second, .val (.long qmax), .second, .val (.long z3), .second, .val (.long mm), .second, .val (.long (z6 - (z6 / (room + (1 : Int64))) * (room + (1 : Int64)))), .second, .val (.long room), .second, .unset, .unset, .unset, .unset, .unset, .unset] []))
        exact J96_8 (z6 - (z6 / (room + (1 : Int64))) * (room + (1 : Int64))) ((if_pos hc84_7).symm)
      · refine own_st (fun _ k => XS.ifYes X0.here hx rfl (pc0 := 84) (pc' := 96) rfl (hb hby at_84) rfl ((if0 _ _).trans (flt (fun q => hc84_7 ((lw_gt z6 room).mp q))).2.2.2) (by decide) (by decide) k) ?_
        show own_G p.tables e below _ (s₁.setTop (mkF m 96 #[.val (.long i0), .second, .val (.long i1), .second, .val (.long i2), .second, .val (.int i3), .val (.long (9223372036854775807 : Int64)), .second, .val (.long step), .second, .val (.long qmax), .second, .val (.long z3), .second, .val (.long mm), .second, .val (.long z6), .second, .val (.long room), .second, .unset, .unset, .unset, .unset, .unset, .unset] []))
        exact J96_8 z6 ((if_neg hc84_7).symm)
    by_cases hc55_4 : (i3 &&& (4 : Int32)) = (0 : Int32)
    · refine own_st (fun _ k => XS.ifYes X0.here hx rfl (pc0 := 55) (pc' := 62) rfl (hb hby at_55) rfl ((if0 _ _).trans (teq hc55_4).1) (by decide) (by decide) k) ?_
      show own_G p.tables e below _ (s₁.setTop (mkF m 62 #[.val (.long i0), .second, .val (.long i1), .second, .val (.long i2), .second, .val (.int i3), .val (.long (9223372036854775807 : Int64)), .second, .val (.long step), .second, .val (.long qmax), .second, .val (.long z3), .second, .val (.long mm), .second, .unset, .unset, .unset, .unset, .unset, .unset, .unset, .unset, .unset, .unset] []))
      refine own_st (fun _ k => XS.lload X0.here hx rfl (hb hby at_62) rfl k) ?_
      show own_G p.tables e below _ (s₁.setTop (mkF m 64 #[.val (.long i0), .second, .val (.long i1), .second, .val (.long i2), .second, .val (.int i3), .val (.long (9223372036854775807 : Int64)), .second, .val (.long step), .second, .val (.long qmax), .second, .val (.long z3), .second, .val (.long mm), .second, .unset, .unset, .unset, .unset, .unset, .unset, .unset, .unset, .unset, .unset] [(.long i2)]))
      refine own_st (fun _ k => XS.lload X0.here hx rfl (hb hby at_64) rfl k) ?_
      show own_G p.tables e below _ (s₁.setTop (mkF m 66 #[.val (.long i0), .second, .val (.long i1), .second, .val (.long i2), .second, .val (.int i3), .val (.long (9223372036854775807 : Int64)), .second, .val (.long step), .second, .val (.long qmax), .second, .val (.long z3), .second, .val (.long mm), .second, .unset, .unset, .unset, .unset, .unset, .unset, .unset, .unset, .unset, .unset] [(.long (9223372036854775807 : Int64)), (.long i2)]))
      refine own_st (fun _ k => XS.land X0.here hx rfl (hb hby at_66) rfl k) ?_
      show own_G p.tables e below _ (s₁.setTop (mkF m 67 #[.val (.long i0), .second, .val (.long i1), .second, .val (.long i2), .second, .val (.int i3), .val (.long (9223372036854775807 : Int64)), .second, .val (.long step), .second, .val (.long qmax), .second, .val (.long z3), .second, .val (.long mm), .second, .unset, .unset, .unset, .unset, .unset, .unset, .unset, .unset, .unset, .unset] [(.long (i2 &&& (9223372036854775807 : Int64)))]))
      refine own_st (fun _ k => XS.lload X0.here hx rfl (hb hby at_67) rfl k) ?_
      show own_G p.tables e below _ (s₁.setTop (mkF m 69 #[.val (.long i0), .second, .val (.long i1), .second, .val (.long i2), .second, .val (.int i3), .val (.long (9223372036854775807 : Int64)), .second, .val (.long step), .second, .val (.long qmax), .second, .val (.long z3), .second, .val (.long mm), .second, .unset, .unset, .unset, .unset, .unset, .unset, .unset, .unset, .unset, .unset] [(.long step), (.long (i2 &&& (9223372036854775807 : Int64)))]))
      refine own_st (fun _ k => XS.lrem X0.here hx rfl (hb hby at_69) rfl (own_z69 hstep hqmax hq hz3 hmm) k) ?_
      show own_G p.tables e below _ (s₁.setTop (mkF m 70 #[.val (.long i0), .second, .val (.long i1), .second, .val (.long i2), .second, .val (.int i3), .val (.long (9223372036854775807 : Int64)), .second, .val (.long step), .second, .val (.long qmax), .second, .val (.long z3), .second, .val (.long mm), .second, .unset, .unset, .unset, .unset, .unset, .unset, .unset, .unset, .unset, .unset] [(.long ((i2 &&& (9223372036854775807 : Int64)) - ((i2 &&& (9223372036854775807 : Int64)) / step) * step))]))
      exact J70_5 ((i2 &&& (9223372036854775807 : Int64)) - ((i2 &&& (9223372036854775807 : Int64)) / step) * step) ((if_pos hc55_4).symm)
    · refine own_st (fun _ k => XS.ifNo X0.here hx rfl (hb hby at_55) rfl ((if0 _ _).trans (feq hc55_4).1) k) ?_
      show own_G p.tables e below _ (s₁.setTop (mkF m 58 #[.val (.long i0), .second, .val (.long i1), .second, .val (.long i2), .second, .val (.int i3), .val (.long (9223372036854775807 : Int64)), .second, .val (.long step), .second, .val (.long qmax), .second, .val (.long z3), .second, .val (.long mm), .second, .unset, .unset, .unset, .unset, .unset, .unset, .unset, .unset, .unset, .unset] []))
      refine own_st (fun _ k => XS.lconst X0.here hx rfl (hb hby at_58) k) ?_
      show own_G p.tables e below _ (s₁.setTop (mkF m 59 #[.val (.long i0), .second, .val (.long i1), .second, .val (.long i2), .second, .val (.int i3), .val (.long (9223372036854775807 : Int64)), .second, .val (.long step), .second, .val (.long qmax), .second, .val (.long z3), .second, .val (.long mm), .second, .unset, .unset, .unset, .unset, .unset, .unset, .unset, .unset, .unset, .unset] [(.long (0 : Int64))]))
      refine own_st (fun _ k => XS.goto X0.here hx rfl (pc0 := 59) (pc' := 70) rfl (hb hby at_59) (by decide) (by decide) k) ?_
      show own_G p.tables e below _ (s₁.setTop (mkF m 70 #[.val (.long i0), .second, .val (.long i1), .second, .val (.long i2), .second, .val (.int i3), .val (.long (9223372036854775807 : Int64)), .second, .val (.long step), .second, .val (.long qmax), .second, .val (.long z3), .second, .val (.long mm), .second, .unset, .unset, .unset, .unset, .unset, .unset, .unset, .unset, .unset, .unset] [(.long (0 : Int64))]))
      exact J70_5 (0 : Int64) ((if_neg hc55_4).symm)
  by_cases hc37_1 : (i3 &&& (8 : Int32)) = (0 : Int32)
  · refine own_st (fun _ k => XS.ifYes X0.here hx rfl (pc0 := 37) (pc' := 44) rfl (hb hby at_37) rfl ((if0 _ _).trans (teq hc37_1).1) (by decide) (by decide) k) ?_
    show own_G p.tables e below _ (s₁.setTop (mkF m 44 #[.val (.long i0), .second, .val (.long i1), .second, .val (.long i2), .second, .val (.int i3), .val (.long (9223372036854775807 : Int64)), .second, .val (.long step), .second, .val (.long qmax), .second, .val (.long q), .second, .unset, .unset, .unset, .unset, .unset, .unset, .unset, .unset, .unset, .unset, .unset, .unset] []))
    exact J44_2 q ((if_pos hc37_1).symm)
  · refine own_st (fun _ k => XS.ifNo X0.here hx rfl (hb hby at_37) rfl ((if0 _ _).trans (feq hc37_1).1) k) ?_
    show own_G p.tables e below _ (s₁.setTop (mkF m 40 #[.val (.long i0), .second, .val (.long i1), .second, .val (.long i2), .second, .val (.int i3), .val (.long (9223372036854775807 : Int64)), .second, .val (.long step), .second, .val (.long qmax), .second, .val (.long q), .second, .unset, .unset, .unset, .unset, .unset, .unset, .unset, .unset, .unset, .unset, .unset, .unset] []))
    refine own_st (fun _ k => XS.lload X0.here hx rfl (hb hby at_40) rfl k) ?_
    show own_G p.tables e below _ (s₁.setTop (mkF m 42 #[.val (.long i0), .second, .val (.long i1), .second, .val (.long i2), .second, .val (.int i3), .val (.long (9223372036854775807 : Int64)), .second, .val (.long step), .second, .val (.long qmax), .second, .val (.long q), .second, .unset, .unset, .unset, .unset, .unset, .unset, .unset, .unset, .unset, .unset, .unset, .unset] [(.long qmax)]))
    refine own_st (fun _ k => XS.lstore X0.here hx rfl (hb hby at_42) rfl (l' := #[.val (.long i0), .second, .val (.long i1), .second, .val (.long i2), .second, .val (.int i3), .val (.long (9223372036854775807 : Int64)), .second, .val (.long step), .second, .val (.long qmax), .second, .val (.long qmax), .second, .unset, .unset, .unset, .unset, .unset, .unset, .unset, .unset, .unset, .unset, .unset, .unset]) rfl k) ?_
    show own_G p.tables e below _ (s₁.setTop (mkF m 44 #[.val (.long i0), .second, .val (.long i1), .second, .val (.long i2), .second, .val (.int i3), .val (.long (9223372036854775807 : Int64)), .second, .val (.long step), .second, .val (.long qmax), .second, .val (.long qmax), .second, .unset, .unset, .unset, .unset, .unset, .unset, .unset, .unset, .unset, .unset, .unset, .unset] []))
    exact J44_2 qmax ((if_neg hc37_1).symm)
set_option maxRecDepth 65536 in
set_option maxHeartbeats 40000000 in
theorem comes_1 {Post : Tables → Env → Array Value → State → Outcome → State → Prop} (hpost : ∀ tb e args s v u, (limb_1_1.after args s (.returned v) u = true ∧ limb_1_2.after args s (.returned v) u = true ∧ True) → ReturnedEndW s (.returned v) u (Jvm.fieldLocs frame_1_writes args s ++ Jvm.arrayLocs frame_1_arrays args s ++ Jvm.staticLocs frame_1_statics s) 16 3200 → Post tb e args s (.returned v) u) :
    ArmFor flags0 classFile x code maxLocals ret World_1 tables_1 room_1 Calls_1 rest_1 Pre_1 Post := by
  intro l hfl _ _ p e ha hc hk s m args below hf hA hF happ hP
  obtain ⟨hcalls, hrest, hpre⟩ := hP
  obtain ⟨-, -, -, hnamed, -, -, -, hat⟩ := (Spec.applies_iff hf).mp happ
  obtain ⟨hg, hn⟩ := and_e (Cond.before_iff.mp (show (Jvm.Cond.and given_1 narrow_1).before args s = true from hpre))
  obtain ⟨gc, g0⟩ := and_e hg
  obtain ⟨ga0, g1⟩ := and_e g0
  obtain ⟨ga1, g2⟩ := and_e g1
  obtain ⟨ga2, g3⟩ := and_e g2
  obtain ⟨w0, w1, w2, w3, rfl⟩ : ∃ w0 w1 w2 w3 : Value, args = #[w0, w1, w2, w3] := by
    have hs : args.size = 4 := by simpa [Cond.value, given_1] using gc
    obtain ⟨L⟩ := args
    match L, hs with
    | [w0, w1, w2, w3], _ => exact ⟨w0, w1, w2, w3, rfl⟩
  have hw := fun d (hd : d ∈ tables_1) => atoms_spec (ws := Jvm.Cond.code x code maxLocals ret :: tables_1) hat d (List.mem_cons_of_mem _ hd)
  have hfit : Fit s := fun {y c} hc i hi => by
    obtain ⟨ha, rfl⟩ := Array.getElem?_eq_some_iff.mp hc
    have q := List.all_eq_true.mp ((Array.all_eq_true_iff_forall_mem.mp hF) _ (Array.getElem_mem ha)) i (List.mem_range.mpr hi)
    simpa [Array.getElem?_eq_getElem hi] using q
  obtain ⟨hsets, hown0⟩ := atoms_of _ (rest_1_c_eq ▸ (show rest_1_c.before _ s = true from hrest))
  obtain ⟨i0, ei0⟩ := isL_v ga0
  obtain rfl : w0 = (.long i0) := Option.some.inj ei0
  obtain ⟨i1, ei1⟩ := isL_v ga1
  obtain rfl : w1 = (.long i1) := Option.some.inj ei1
  obtain ⟨i2, ei2⟩ := isL_v ga2
  obtain rfl : w2 = (.long i2) := Option.some.inj ei2
  obtain ⟨i3, ei3⟩ := is_v g3
  obtain rfl : w3 = (.int i3) := Option.some.inj ei3
  obtain ⟨v0, v1, v2, S_TIME, S_PARITY, S_PRO_RATA⟩ := own_al hw hn
  have hcw : Jvm.Lit.compactW.before _ s = true := hsets _ (List.mem_of_getElem? (i := 2) rfl)
  have hh27 : Jvm.Lit.constHeld s "com/example/stakan/stakan/core/InstrumentIsOnPriceStepPinLaw" 27 := hcalls.1 _ (List.mem_of_getElem? (i := 2) rfl)
  obtain ⟨n, o, h1, h2, h3, _, L, rfl, ⟨rfl, N⟩, hq⟩ := rm0 l s _ hw tables_1 i0 i1 i2 i3 v0 v1 v2 s.heap s.heap.size (Nat.le_refl _) (Old.start s) S_TIME S_PARITY S_PRO_RATA hcw hh27 p e ha hc hk s m _ below hf ((Spec.applies_iff_loose hf).mp happ).1 ⟨rfl, State.Warmed39.refl s, rfl, rfl⟩ trivial
  refine ⟨n, _, h1, h2, h3, hpost _ _ _ _ _ _ ⟨Cond.after_iff.mpr rfl, Cond.after_iff.mpr (eq_i res_at (Term.int_eval (1)) rfl), trivial⟩ ⟨hq.1, hq.2.1, hq.2.2.1, (hq.2.2.2.sift fun y hy => Or.inr (N y hy)).mono (by decide) (by decide)⟩⟩
theorem main_1_1 : Claimed_1_1 := comes_1 fun _ _ _ _ _ _ h hF => ⟨h.1, hF⟩
theorem main_1_2 : Claimed_1_2 := comes_1 fun _ _ _ _ _ _ h hF => ⟨h.2.1, hF⟩
end Jvm.Pilot.@@N@@
namespace Jvm.Pilot.@@N@@
open Jvm Jvm.ClassFile Sem Op Lib Jvm.Free Jvm.Stand Jvm.Pilot.@@N@@.Jvm.D
/-! MADE BY PROGRAM (witnessworld.py) out of the Statement's table words and the real class files: 21 classes; the members and pool entries that the words name. The judged class is class 1, her method 1. -/
namespace start1
open Jvm.ClassFile
def u (s : String) : CpInfo := .utf8 (stringToUtf16 s)
/-- a pool by its gaps: so many unusable entries, then the entry; so many at the end -/
def gap : Nat → List CpInfo → List CpInfo
  | 0, r => r
  | n + 1, r => .unusable :: gap n r
def poolList (es : List (Nat × CpInfo)) (last : Nat) : List CpInfo := es.foldr (fun e r => gap e.1 (e.2 :: r)) (gap last [])
def pool (es : List (Nat × CpInfo)) (last : Nat) : Array CpInfo := ⟨poolList es last⟩
def fileOf (pool : Array CpInfo) (this : Nat) (attrs : Array Attribute := #[]) (ms : Array MethodInfo := #[]) (fl : Nat := 33) (sup : Nat := 0) (ifs : Array Nat := #[]) (fds : Array FieldInfo := #[]) : ClassFile where
  minorVersion := 0
  majorVersion := 65
  constantPool := pool
  accessFlags := fl
  thisClass := this
  superClass := sup
  interfaces := ifs
  fields := fds
  methods := ms
  attributes := attrs
def plain (name : String) (sup : Option ClassId) : Class where
  name := name
  kind := .ordinary
  loader := none
  accessFlags := 33
  super := sup
  interfaces := #[]
  cf := none
  fields := #[]
  methods := #[]
  instanceTypes := #[]
  staticTypes := #[]
  resolved := #[]
  callSites := []
  init := .initialized
  statics := none
  mirror := none

def pool0 : Array CpInfo := pool [(5, u "<init>"), (0, u "()V"), (1, .class_ 10), (1, u "java/lang/Object")] 113

def k0c0 : Code := { maxStack := 0, maxLocals := 1, code := object_method_1_code, exceptionTable := #[], attributes := #[] }
def k0m0 : Method := { name := "<init>", desc := "()V", sig := { parameters := [], returnType := none }, accessFlags := 1, code := some k0c0 }
/-- java/lang/Object -/
def k0 : Class := { plain "java/lang/Object" none with
  accessFlags := 33
  interfaces := #[]
  cf := some (fileOf pool0 8 #[] #[{ accessFlags := 1, nameIndex := 5, descriptorIndex := 6, attributes := #[] }] 33 0 #[] #[])
  fields := #[]
  methods := #[k0m0]
  instanceTypes := #[]
  staticTypes := #[]
  resolved := Array.replicate 124 none
  statics := none }

def pool1 : Array CpInfo := pool [(2, .class_ 4), (1, u "java/lang/Object"), (0, u "<init>"), (0, u "()V"), (2, .long 9223372036854775807), (1, .long 9223372036854775808), (1, .fieldref 14 15), (0, .class_ 16), (0, .nameAndType 17 18), (0, u "com/example/stakan/stakan/core/Allocation"), (0, u "TIME"), (0, u "Lcom/example/stakan/stakan/core/Allocation;"), (0, .fieldref 14 20), (0, .nameAndType 21 18), (0, u "PRO_RATA"), (0, .fieldref 14 23), (0, .nameAndType 24 18), (0, u "PARITY"), (0, .class_ 26), (0, u "com/example/stakan/stakan/core/Instrument"), (0, .string 28), (0, u "S"), (0, .methodref 25 30), (0, .nameAndType 5 31), (0, u "(Ljava/lang/String;JJLcom/example/stakan/stakan/core/Allocation;)V"), (0, .methodref 25 33), (0, .nameAndType 34 35), (0, u "isOnPriceStep"), (0, u "(J)Z"), (0, .class_ 37), (0, u "com/example/stakan/stakan/core/InstrumentIsOnPriceStepPinLaw"), (2, u "law"), (0, u "(JJJI)Z")] 3

def k1m0 : Method := { name := "<init>", desc := "()V", sig := { parameters := [], returnType := none }, accessFlags := 1, code := none }
def k1c1 : Code := { maxStack := 8, maxLocals := 27, code := code, exceptionTable := #[], attributes := #[] }
def k1m1 : Method := { name := "law", desc := "(JJJI)Z", sig := { parameters := [.long, .long, .long, .int], returnType := some .boolean }, accessFlags := 9, code := some k1c1 }
/-- com/example/stakan/stakan/core/InstrumentIsOnPriceStepPinLaw -/
def k1 : Class := { plain "com/example/stakan/stakan/core/InstrumentIsOnPriceStepPinLaw" (some 0) with
  accessFlags := 49
  interfaces := #[]
  cf := some (fileOf pool1 36 #[] #[{ accessFlags := 1, nameIndex := 5, descriptorIndex := 6, attributes := #[] }, { accessFlags := 9, nameIndex := 40, descriptorIndex := 41, attributes := #[] }] 49 2 #[] #[])
  fields := #[]
  methods := #[k1m0, k1m1]
  instanceTypes := #[]
  staticTypes := #[]
  resolved := Array.replicate 45 none
  statics := none }

def pool2 : Array CpInfo := pool [(1, .class_ 2), (0, u "java/lang/constant/Constable"), (0, .class_ 4), (0, u "java/lang/Object")] 6

/-- java/lang/constant/Constable -/
def k2 : Class := { plain "java/lang/constant/Constable" (some 0) with
  accessFlags := 1537
  interfaces := #[]
  cf := some (fileOf pool2 1 #[] #[] 1537 3 #[] #[])
  fields := #[]
  methods := #[]
  instanceTypes := #[]
  staticTypes := #[]
  resolved := Array.replicate 11 none
  statics := none }

def pool3 : Array CpInfo := pool [(1, .class_ 2), (0, u "java/lang/Comparable"), (0, .class_ 4), (0, u "java/lang/Object")] 7

/-- java/lang/Comparable -/
def k3 : Class := { plain "java/lang/Comparable" (some 0) with
  accessFlags := 1537
  interfaces := #[]
  cf := some (fileOf pool3 1 #[] #[] 1537 3 #[] #[])
  fields := #[]
  methods := #[]
  instanceTypes := #[]
  staticTypes := #[]
  resolved := Array.replicate 12 none
  statics := none }

def pool4 : Array CpInfo := pool [(1, .class_ 2), (0, u "java/io/Serializable"), (0, .class_ 4), (0, u "java/lang/Object")] 2

/-- java/io/Serializable -/
def k4 : Class := { plain "java/io/Serializable" (some 0) with
  accessFlags := 1537
  interfaces := #[]
  cf := some (fileOf pool4 1 #[] #[] 1537 3 #[] #[])
  fields := #[]
  methods := #[]
  instanceTypes := #[]
  staticTypes := #[]
  resolved := Array.replicate 7 none
  statics := none }

def pool5 : Array CpInfo := pool [(2, .class_ 4), (1, u "java/lang/Enum"), (0, u "name"), (0, u "Ljava/lang/String;"), (2, u "ordinal"), (0, u "I"), (1, .class_ 14), (1, u "java/lang/Object"), (4, u "hash"), (86, .class_ 108), (1, u "java/lang/Enum$EnumDesc"), (2, .class_ 112), (0, u "java/lang/constant/Constable"), (0, .class_ 114), (0, u "java/lang/Comparable"), (0, .class_ 116), (0, u "java/io/Serializable")] 87

/-- java/lang/Enum -/
def k5 : Class := { plain "java/lang/Enum" (some 0) with
  accessFlags := 1057
  interfaces := #[2, 3, 4]
  cf := some (fileOf pool5 2 #[.nestMembers #[106]] #[] 1057 12 #[111, 113, 115] #[{ accessFlags := 18, nameIndex := 5, descriptorIndex := 6, attributes := #[] }, { accessFlags := 18, nameIndex := 9, descriptorIndex := 10, attributes := #[] }, { accessFlags := 2, nameIndex := 19, descriptorIndex := 10, attributes := #[] }])
  fields := #[{ name := "name", type := (.object "java/lang/String"), accessFlags := 18, slot := 0, constantValue := 0 }, { name := "ordinal", type := .int, accessFlags := 18, slot := 1, constantValue := 0 }, { name := "hash", type := .int, accessFlags := 2, slot := 2, constantValue := 0 }]
  methods := #[]
  instanceTypes := #[(.object "java/lang/String"), .int, .int]
  staticTypes := #[]
  resolved := Array.replicate 204 none
  statics := none }

def pool6 : Array CpInfo := pool [(1, .class_ 2), (0, u "com/example/stakan/stakan/core/Allocation"), (2, u "TIME"), (0, u "Lcom/example/stakan/stakan/core/Allocation;"), (2, u "PRO_RATA"), (2, u "PARITY"), (2, u "$VALUES"), (0, u "[Lcom/example/stakan/stakan/core/Allocation;"), (6, .class_ 25), (1, u "java/lang/Enum"), (8, u "word"), (0, u "Ljava/lang/String;")] 29

/-- com/example/stakan/stakan/core/Allocation -/
def k6 : Class := { plain "com/example/stakan/stakan/core/Allocation" (some 5) with
  accessFlags := 16433
  interfaces := #[]
  cf := some (fileOf pool6 1 #[] #[] 16433 23 #[] #[{ accessFlags := 16409, nameIndex := 5, descriptorIndex := 6, attributes := #[] }, { accessFlags := 16409, nameIndex := 9, descriptorIndex := 6, attributes := #[] }, { accessFlags := 16409, nameIndex := 12, descriptorIndex := 6, attributes := #[] }, { accessFlags := 18, nameIndex := 34, descriptorIndex := 35, attributes := #[] }, { accessFlags := 4122, nameIndex := 15, descriptorIndex := 16, attributes := #[] }])
  fields := #[{ name := "TIME", type := (.object "com/example/stakan/stakan/core/Allocation"), accessFlags := 16409, slot := 0, constantValue := 0 }, { name := "PRO_RATA", type := (.object "com/example/stakan/stakan/core/Allocation"), accessFlags := 16409, slot := 1, constantValue := 0 }, { name := "PARITY", type := (.object "com/example/stakan/stakan/core/Allocation"), accessFlags := 16409, slot := 2, constantValue := 0 }, { name := "word", type := (.object "java/lang/String"), accessFlags := 18, slot := 3, constantValue := 0 }, { name := "$VALUES", type := (.array (.object "com/example/stakan/stakan/core/Allocation")), accessFlags := 4122, slot := 3, constantValue := 0 }]
  methods := #[]
  instanceTypes := #[(.object "java/lang/String"), .int, .int, (.object "java/lang/String")]
  staticTypes := #[(.object "com/example/stakan/stakan/core/Allocation"), (.object "com/example/stakan/stakan/core/Allocation"), (.object "com/example/stakan/stakan/core/Allocation"), (.array (.object "com/example/stakan/stakan/core/Allocation"))]
  resolved := Array.replicate 65 none
  statics := some 0 }

def pool7 : Array CpInfo := pool [(1, .methodref 2 3), (0, .class_ 4), (0, .nameAndType 5 6), (0, u "java/lang/Object"), (0, u "<init>"), (0, u "()V"), (0, .class_ 8), (0, u "java/lang/Record")] 13

def k7c0 : Code := { maxStack := 1, maxLocals := 1, code := jdk_30_method_1_code, exceptionTable := #[], attributes := #[] }
def k7m0 : Method := { name := "<init>", desc := "()V", sig := { parameters := [], returnType := none }, accessFlags := 4, code := some k7c0 }
/-- java/lang/Record -/
def k7 : Class := { plain "java/lang/Record" (some 0) with
  accessFlags := 1057
  interfaces := #[]
  cf := some (fileOf pool7 7 #[] #[{ accessFlags := 4, nameIndex := 5, descriptorIndex := 6, attributes := #[] }] 1057 2 #[] #[])
  fields := #[]
  methods := #[k7m0]
  instanceTypes := #[]
  staticTypes := #[]
  resolved := Array.replicate 22 none
  statics := none }

def pool8 : Array CpInfo := pool [(1, .methodref 2 3), (0, .class_ 4), (0, .nameAndType 5 6), (0, u "java/lang/Record"), (0, u "<init>"), (0, u "()V"), (0, .string 8), (0, u "symbol"), (0, .methodref 10 11), (0, .class_ 12), (0, .nameAndType 13 14), (0, u "java/util/Objects"), (0, u "requireNonNull"), (0, u "(Ljava/lang/Object;Ljava/lang/String;)Ljava/lang/Object;"), (0, .string 16), (0, u "allocation"), (0, .methodref 18 19), (0, .class_ 20), (0, .nameAndType 21 22), (0, u "java/lang/String"), (0, u "isEmpty"), (0, u "()Z"), (12, .fieldref 36 37), (0, .class_ 38), (0, .nameAndType 8 39), (0, u "com/example/stakan/stakan/core/Instrument"), (0, u "Ljava/lang/String;"), (0, .fieldref 36 41), (0, .nameAndType 42 43), (0, u "priceStep"), (0, u "J"), (0, .fieldref 36 45), (0, .nameAndType 46 43), (0, u "lot"), (0, .fieldref 36 48), (0, .nameAndType 16 49), (0, u "Lcom/example/stakan/stakan/core/Allocation;"), (7, u "(Ljava/lang/String;JJLcom/example/stakan/stakan/core/Allocation;)V"), (17, u "isOnPriceStep"), (0, u "(J)Z")] 38

def k8c0 : Code := { maxStack := 4, maxLocals := 7, code := prog_11_method_1_code, exceptionTable := #[], attributes := #[] }
def k8m0 : Method := { name := "<init>", desc := "(Ljava/lang/String;JJLcom/example/stakan/stakan/core/Allocation;)V", sig := { parameters := [(.object "java/lang/String"), .long, .long, (.object "com/example/stakan/stakan/core/Allocation")], returnType := none }, accessFlags := 1, code := some k8c0 }
def k8c1 : Code := { maxStack := 4, maxLocals := 3, code := prog_11_method_3_code, exceptionTable := #[], attributes := #[] }
def k8m1 : Method := { name := "isOnPriceStep", desc := "(J)Z", sig := { parameters := [.long], returnType := some .boolean }, accessFlags := 1, code := some k8c1 }
/-- com/example/stakan/stakan/core/Instrument -/
def k8 : Class := { plain "com/example/stakan/stakan/core/Instrument" (some 7) with
  accessFlags := 49
  interfaces := #[]
  cf := some (fileOf pool8 36 #[] #[{ accessFlags := 1, nameIndex := 5, descriptorIndex := 57, attributes := #[] }, { accessFlags := 1, nameIndex := 75, descriptorIndex := 76, attributes := #[] }] 49 2 #[] #[{ accessFlags := 18, nameIndex := 8, descriptorIndex := 39, attributes := #[] }, { accessFlags := 18, nameIndex := 42, descriptorIndex := 43, attributes := #[] }, { accessFlags := 18, nameIndex := 46, descriptorIndex := 43, attributes := #[] }, { accessFlags := 18, nameIndex := 16, descriptorIndex := 49, attributes := #[] }])
  fields := #[{ name := "symbol", type := (.object "java/lang/String"), accessFlags := 18, slot := 0, constantValue := 0 }, { name := "priceStep", type := .long, accessFlags := 18, slot := 1, constantValue := 0 }, { name := "lot", type := .long, accessFlags := 18, slot := 2, constantValue := 0 }, { name := "allocation", type := (.object "com/example/stakan/stakan/core/Allocation"), accessFlags := 18, slot := 3, constantValue := 0 }]
  methods := #[k8m0, k8m1]
  instanceTypes := #[(.object "java/lang/String"), .long, .long, (.object "com/example/stakan/stakan/core/Allocation")]
  staticTypes := #[]
  resolved := Array.replicate 115 none
  statics := none }

def pool9 : Array CpInfo := pool [(2, .class_ 4), (1, u "java/lang/CharSequence"), (42, .class_ 48), (0, u "java/lang/CharSequence$1CodePointIterator"), (10, .class_ 60), (0, u "java/lang/CharSequence$1CharIterator"), (5, .class_ 67), (0, u "java/lang/Object")] 63

/-- java/lang/CharSequence -/
def k9 : Class := { plain "java/lang/CharSequence" (some 0) with
  accessFlags := 1537
  interfaces := #[]
  cf := some (fileOf pool9 2 #[.nestMembers #[47, 59]] #[] 1537 66 #[] #[])
  fields := #[]
  methods := #[]
  instanceTypes := #[]
  staticTypes := #[]
  resolved := Array.replicate 131 none
  statics := none }

def pool10 : Array CpInfo := pool [(1, .class_ 2), (0, u "java/lang/constant/ConstantDesc"), (0, .class_ 4), (0, u "java/lang/Object")] 32

/-- java/lang/constant/ConstantDesc -/
def k10 : Class := { plain "java/lang/constant/ConstantDesc" (some 0) with
  accessFlags := 1537
  interfaces := #[]
  cf := some (fileOf pool10 1 #[] #[] 1537 3 #[] #[])
  fields := #[]
  methods := #[]
  instanceTypes := #[]
  staticTypes := #[]
  resolved := Array.replicate 37 none
  statics := none }

def pool11 : Array CpInfo := pool [(2, .class_ 4), (1, u "java/lang/Object"), (0, u "<init>"), (0, u "()V"), (2, .fieldref 10 11), (0, .class_ 12), (0, .nameAndType 13 14), (0, u "java/lang/String"), (0, u "value"), (0, u "[B"), (2, u "coder"), (0, u "B"), (2, u "hash"), (0, u "I"), (2, u "hashIsZero"), (0, u "Z"), (13, u "COMPACT_STRINGS"), (101, u "()Z"), (432, .class_ 576), (0, u "java/lang/CharSequence"), (22, u "CASE_INSENSITIVE_ORDER"), (0, u "Ljava/util/Comparator;"), (91, u "isEmpty"), (408, u "serialPersistentFields"), (0, u "[Ljava/io/ObjectStreamField;"), (0, .class_ 1104), (0, u "java/lang/String$CaseInsensitiveComparator"), (1, .class_ 1107), (0, u "java/io/Serializable"), (0, .class_ 1109), (0, u "java/lang/Comparable"), (0, .class_ 1111), (0, u "java/lang/constant/Constable"), (0, .class_ 1113), (0, u "java/lang/constant/ConstantDesc"), (2, u "serialVersionUID"), (0, u "J"), (3, u "REPL"), (0, u "C"), (2, u "LATIN1"), (1, u "UTF16")] 323

def k11m0 : Method := { name := "<init>", desc := "()V", sig := { parameters := [], returnType := none }, accessFlags := 1, code := none }
def k11c1 : Code := { maxStack := 1, maxLocals := 1, code := jdk_42_method_55_code, exceptionTable := #[], attributes := #[] }
def k11m1 : Method := { name := "isEmpty", desc := "()Z", sig := { parameters := [], returnType := some .boolean }, accessFlags := 1, code := some k11c1 }
/-- java/lang/String -/
def k11 : Class := { plain "java/lang/String" (some 0) with
  accessFlags := 49
  interfaces := #[4, 3, 9, 2, 10]
  cf := some (fileOf pool11 10 #[.nestMembers #[1103]] #[{ accessFlags := 1, nameIndex := 5, descriptorIndex := 6, attributes := #[] }, { accessFlags := 1, nameIndex := 692, descriptorIndex := 142, attributes := #[] }] 49 2 #[1106, 1108, 575, 1110, 1112] #[{ accessFlags := 18, nameIndex := 13, descriptorIndex := 14, attributes := #[] }, { accessFlags := 18, nameIndex := 17, descriptorIndex := 18, attributes := #[] }, { accessFlags := 2, nameIndex := 21, descriptorIndex := 22, attributes := #[] }, { accessFlags := 2, nameIndex := 25, descriptorIndex := 26, attributes := #[] }, { accessFlags := 26, nameIndex := 1116, descriptorIndex := 1117, attributes := #[] }, { accessFlags := 24, nameIndex := 40, descriptorIndex := 26, attributes := #[] }, { accessFlags := 26, nameIndex := 1101, descriptorIndex := 1102, attributes := #[] }, { accessFlags := 26, nameIndex := 1121, descriptorIndex := 1122, attributes := #[] }, { accessFlags := 25, nameIndex := 599, descriptorIndex := 600, attributes := #[] }, { accessFlags := 24, nameIndex := 1125, descriptorIndex := 18, attributes := #[] }, { accessFlags := 24, nameIndex := 1127, descriptorIndex := 18, attributes := #[] }])
  fields := #[{ name := "value", type := (.array .byte), accessFlags := 18, slot := 0, constantValue := 0 }, { name := "coder", type := .byte, accessFlags := 18, slot := 1, constantValue := 0 }, { name := "hash", type := .int, accessFlags := 2, slot := 2, constantValue := 0 }, { name := "hashIsZero", type := .boolean, accessFlags := 2, slot := 3, constantValue := 0 }, { name := "serialVersionUID", type := .long, accessFlags := 26, slot := 0, constantValue := 0 }, { name := "COMPACT_STRINGS", type := .boolean, accessFlags := 24, slot := 1, constantValue := 0 }, { name := "serialPersistentFields", type := (.array (.object "java/io/ObjectStreamField")), accessFlags := 26, slot := 2, constantValue := 0 }, { name := "REPL", type := .char, accessFlags := 26, slot := 3, constantValue := 0 }, { name := "CASE_INSENSITIVE_ORDER", type := (.object "java/util/Comparator"), accessFlags := 25, slot := 4, constantValue := 0 }, { name := "LATIN1", type := .byte, accessFlags := 24, slot := 5, constantValue := 0 }, { name := "UTF16", type := .byte, accessFlags := 24, slot := 6, constantValue := 0 }]
  methods := #[k11m0, k11m1]
  instanceTypes := #[(.array .byte), .byte, .int, .boolean]
  staticTypes := #[.long, .boolean, (.array (.object "java/io/ObjectStreamField")), .char, (.object "java/util/Comparator"), .byte, .byte]
  resolved := Array.replicate 1451 none
  statics := some 1 }

def pool12 : Array CpInfo := pool [(2, .class_ 4), (1, u "java/lang/Object"), (0, u "<init>"), (0, u "()V"), (35, .class_ 44), (1, u "java/util/Objects"), (0, u "requireNonNull"), (48, u "(Ljava/lang/Object;Ljava/lang/String;)Ljava/lang/Object;")] 89

def k12m0 : Method := { name := "<init>", desc := "()V", sig := { parameters := [], returnType := none }, accessFlags := 2, code := none }
def k12c1 : Code := { maxStack := 3, maxLocals := 2, code := jdk_31_method_11_code, exceptionTable := #[], attributes := #[] }
def k12m1 : Method := { name := "requireNonNull", desc := "(Ljava/lang/Object;Ljava/lang/String;)Ljava/lang/Object;", sig := { parameters := [(.object "java/lang/Object"), (.object "java/lang/String")], returnType := some (.object "java/lang/Object") }, accessFlags := 9, code := some k12c1 }
/-- java/util/Objects -/
def k12 : Class := { plain "java/util/Objects" (some 0) with
  accessFlags := 49
  interfaces := #[]
  cf := some (fileOf pool12 42 #[] #[{ accessFlags := 2, nameIndex := 5, descriptorIndex := 6, attributes := #[] }, { accessFlags := 9, nameIndex := 45, descriptorIndex := 94, attributes := #[] }] 49 2 #[] #[])
  fields := #[]
  methods := #[k12m0, k12m1]
  instanceTypes := #[]
  staticTypes := #[]
  resolved := Array.replicate 184 none
  statics := none }

def pool13 : Array CpInfo := pool [(4, .class_ 6), (1, u "java/lang/Object"), (0, u "<init>"), (0, u "()V"), (5, .class_ 16), (1, u "java/lang/StringLatin1"), (104, u "$assertionsDisabled"), (0, u "Z"), (98, .class_ 223), (1, u "java/lang/StringLatin1$LinesSpliterator"), (166, .class_ 391), (0, u "java/lang/StringLatin1$CharsSpliterator")] 3

def k13m0 : Method := { name := "<init>", desc := "()V", sig := { parameters := [], returnType := none }, accessFlags := 0, code := none }
/-- java/lang/StringLatin1 -/
def k13 : Class := { plain "java/lang/StringLatin1" (some 0) with
  accessFlags := 48
  interfaces := #[]
  cf := some (fileOf pool13 14 #[.nestMembers #[390, 221]] #[{ accessFlags := 0, nameIndex := 7, descriptorIndex := 8, attributes := #[] }] 48 4 #[] #[{ accessFlags := 4120, nameIndex := 121, descriptorIndex := 122, attributes := #[] }])
  fields := #[{ name := "$assertionsDisabled", type := .boolean, accessFlags := 4120, slot := 0, constantValue := 0 }]
  methods := #[k13m0]
  instanceTypes := #[]
  staticTypes := #[.boolean]
  resolved := Array.replicate 395 none
  statics := none }

def pool14 : Array CpInfo := pool [(2, .class_ 4), (1, u "java/lang/Object"), (0, u "<init>"), (0, u "()V"), (17, .class_ 26), (1, u "jdk/internal/util/Preconditions"), (28, .class_ 56), (0, u "jdk/internal/util/Preconditions$4"), (57, .class_ 115), (0, u "jdk/internal/util/Preconditions$1"), (7, u "SIOOBE_FORMATTER"), (0, u "Ljava/util/function/BiFunction;"), (0, .class_ 126), (0, u "jdk/internal/util/Preconditions$2"), (3, u "AIOOBE_FORMATTER"), (0, .class_ 132), (0, u "jdk/internal/util/Preconditions$3"), (3, u "IOOBE_FORMATTER")] 57

def k14m0 : Method := { name := "<init>", desc := "()V", sig := { parameters := [], returnType := none }, accessFlags := 1, code := none }
/-- jdk/internal/util/Preconditions -/
def k14 : Class := { plain "jdk/internal/util/Preconditions" (some 0) with
  accessFlags := 33
  interfaces := #[]
  cf := some (fileOf pool14 24 #[.nestMembers #[55, 131, 125, 114]] #[{ accessFlags := 1, nameIndex := 5, descriptorIndex := 6, attributes := #[] }] 33 2 #[] #[{ accessFlags := 25, nameIndex := 123, descriptorIndex := 124, attributes := #[] }, { accessFlags := 25, nameIndex := 130, descriptorIndex := 124, attributes := #[] }, { accessFlags := 25, nameIndex := 136, descriptorIndex := 124, attributes := #[] }])
  fields := #[{ name := "SIOOBE_FORMATTER", type := (.object "java/util/function/BiFunction"), accessFlags := 25, slot := 0, constantValue := 0 }, { name := "AIOOBE_FORMATTER", type := (.object "java/util/function/BiFunction"), accessFlags := 25, slot := 1, constantValue := 0 }, { name := "IOOBE_FORMATTER", type := (.object "java/util/function/BiFunction"), accessFlags := 25, slot := 2, constantValue := 0 }]
  methods := #[k14m0]
  instanceTypes := #[]
  staticTypes := #[(.object "java/util/function/BiFunction"), (.object "java/util/function/BiFunction"), (.object "java/util/function/BiFunction")]
  resolved := Array.replicate 194 none
  statics := some 2 }

def pool15 : Array CpInfo := pool [(9, u "<init>"), (6, .class_ 18), (1, u "java/lang/Object"), (0, u "()V"), (1, .class_ 23), (1, u "jdk/internal/util/ArraysSupport"), (0, u "LOG2_ARRAY_LONG_INDEX_SCALE"), (0, u "I"), (2, u "U"), (0, u "Ljdk/internal/misc/Unsafe;"), (8, u "BIG_ENDIAN"), (0, u "Z"), (8, u "LOG2_BYTE_BIT_SIZE"), (4, u "LOG2_ARRAY_INT_INDEX_SCALE"), (54, u "JLA"), (0, u "Ljdk/internal/access/JavaLangAccess;"), (11, u "LOG2_ARRAY_BOOLEAN_INDEX_SCALE"), (9, u "LOG2_ARRAY_BYTE_INDEX_SCALE"), (5, u "LOG2_ARRAY_CHAR_INDEX_SCALE"), (5, u "LOG2_ARRAY_SHORT_INDEX_SCALE"), (18, u "LOG2_ARRAY_FLOAT_INDEX_SCALE"), (24, u "LOG2_ARRAY_DOUBLE_INDEX_SCALE"), (89, u "T_BOOLEAN"), (2, u "T_CHAR"), (1, u "T_FLOAT"), (1, u "T_DOUBLE"), (1, u "T_BYTE"), (1, u "T_SHORT"), (1, u "T_INT"), (1, u "T_LONG"), (1, u "SOFT_MAX_ARRAY_LENGTH")] 83

def k15m0 : Method := { name := "<init>", desc := "()V", sig := { parameters := [], returnType := none }, accessFlags := 2, code := none }
/-- jdk/internal/util/ArraysSupport -/
def k15 : Class := { plain "jdk/internal/util/ArraysSupport" (some 0) with
  accessFlags := 33
  interfaces := #[]
  cf := some (fileOf pool15 21 #[] #[{ accessFlags := 2, nameIndex := 9, descriptorIndex := 19, attributes := #[] }] 33 16 #[] #[{ accessFlags := 24, nameIndex := 28, descriptorIndex := 29, attributes := #[] }, { accessFlags := 26, nameIndex := 38, descriptorIndex := 39, attributes := #[] }, { accessFlags := 25, nameIndex := 121, descriptorIndex := 25, attributes := #[] }, { accessFlags := 25, nameIndex := 131, descriptorIndex := 25, attributes := #[] }, { accessFlags := 25, nameIndex := 137, descriptorIndex := 25, attributes := #[] }, { accessFlags := 25, nameIndex := 143, descriptorIndex := 25, attributes := #[] }, { accessFlags := 25, nameIndex := 53, descriptorIndex := 25, attributes := #[] }, { accessFlags := 25, nameIndex := 24, descriptorIndex := 25, attributes := #[] }, { accessFlags := 25, nameIndex := 162, descriptorIndex := 25, attributes := #[] }, { accessFlags := 25, nameIndex := 187, descriptorIndex := 25, attributes := #[] }, { accessFlags := 26, nameIndex := 48, descriptorIndex := 25, attributes := #[] }, { accessFlags := 25, nameIndex := 277, descriptorIndex := 25, attributes := #[] }, { accessFlags := 25, nameIndex := 280, descriptorIndex := 25, attributes := #[] }, { accessFlags := 25, nameIndex := 282, descriptorIndex := 25, attributes := #[] }, { accessFlags := 25, nameIndex := 284, descriptorIndex := 25, attributes := #[] }, { accessFlags := 25, nameIndex := 286, descriptorIndex := 25, attributes := #[] }, { accessFlags := 25, nameIndex := 288, descriptorIndex := 25, attributes := #[] }, { accessFlags := 25, nameIndex := 290, descriptorIndex := 25, attributes := #[] }, { accessFlags := 25, nameIndex := 292, descriptorIndex := 25, attributes := #[] }, { accessFlags := 26, nameIndex := 108, descriptorIndex := 109, attributes := #[] }, { accessFlags := 25, nameIndex := 294, descriptorIndex := 25, attributes := #[] }])
  fields := #[{ name := "U", type := (.object "jdk/internal/misc/Unsafe"), accessFlags := 24, slot := 0, constantValue := 0 }, { name := "BIG_ENDIAN", type := .boolean, accessFlags := 26, slot := 1, constantValue := 0 }, { name := "LOG2_ARRAY_BOOLEAN_INDEX_SCALE", type := .int, accessFlags := 25, slot := 2, constantValue := 0 }, { name := "LOG2_ARRAY_BYTE_INDEX_SCALE", type := .int, accessFlags := 25, slot := 3, constantValue := 0 }, { name := "LOG2_ARRAY_CHAR_INDEX_SCALE", type := .int, accessFlags := 25, slot := 4, constantValue := 0 }, { name := "LOG2_ARRAY_SHORT_INDEX_SCALE", type := .int, accessFlags := 25, slot := 5, constantValue := 0 }, { name := "LOG2_ARRAY_INT_INDEX_SCALE", type := .int, accessFlags := 25, slot := 6, constantValue := 0 }, { name := "LOG2_ARRAY_LONG_INDEX_SCALE", type := .int, accessFlags := 25, slot := 7, constantValue := 0 }, { name := "LOG2_ARRAY_FLOAT_INDEX_SCALE", type := .int, accessFlags := 25, slot := 8, constantValue := 0 }, { name := "LOG2_ARRAY_DOUBLE_INDEX_SCALE", type := .int, accessFlags := 25, slot := 9, constantValue := 0 }, { name := "LOG2_BYTE_BIT_SIZE", type := .int, accessFlags := 26, slot := 10, constantValue := 0 }, { name := "T_BOOLEAN", type := .int, accessFlags := 25, slot := 11, constantValue := 0 }, { name := "T_CHAR", type := .int, accessFlags := 25, slot := 12, constantValue := 0 }, { name := "T_FLOAT", type := .int, accessFlags := 25, slot := 13, constantValue := 0 }, { name := "T_DOUBLE", type := .int, accessFlags := 25, slot := 14, constantValue := 0 }, { name := "T_BYTE", type := .int, accessFlags := 25, slot := 15, constantValue := 0 }, { name := "T_SHORT", type := .int, accessFlags := 25, slot := 16, constantValue := 0 }, { name := "T_INT", type := .int, accessFlags := 25, slot := 17, constantValue := 0 }, { name := "T_LONG", type := .int, accessFlags := 25, slot := 18, constantValue := 0 }, { name := "JLA", type := (.object "jdk/internal/access/JavaLangAccess"), accessFlags := 26, slot := 19, constantValue := 0 }, { name := "SOFT_MAX_ARRAY_LENGTH", type := .int, accessFlags := 25, slot := 20, constantValue := 0 }]
  methods := #[k15m0]
  instanceTypes := #[]
  staticTypes := #[(.object "jdk/internal/misc/Unsafe"), .boolean, .int, .int, .int, .int, .int, .int, .int, .int, .int, .int, .int, .int, .int, .int, .int, .int, .int, (.object "jdk/internal/access/JavaLangAccess"), .int]
  resolved := Array.replicate 378 none
  statics := none }

def pool16 : Array CpInfo := pool [(1, u "java/lang/Cloneable"), (0, .class_ 1), (0, u "java/lang/Object"), (0, .class_ 3)] 3

/-- java/lang/Cloneable -/
def k16 : Class := { plain "java/lang/Cloneable" (some 0) with
  accessFlags := 1537
  interfaces := #[]
  cf := some (fileOf pool16 2 #[] #[] 1537 4 #[] #[])
  fields := #[]
  methods := #[]
  instanceTypes := #[]
  staticTypes := #[]
  resolved := Array.replicate 8 none
  statics := none }

/-- the primitive byte -/
def k17 : Class := { plain "byte" none with kind := .primitive 'B', accessFlags := 0x411 }
/-- [B -/
def k18 : Class := { plain "[B" (some 0) with kind := .array 17 .byte, interfaces := #[16, 4], accessFlags := 1041 }

/-- the primitive int -/
def k19 : Class := { plain "int" none with kind := .primitive 'I', accessFlags := 0x411 }
/-- [I -/
def k20 : Class := { plain "[I" (some 0) with kind := .array 19 .int, interfaces := #[16, 4], accessFlags := 1041 }

def heap : Heap := #[{ cls := 6, slots := #[.ref 3, .ref 5, .ref 4, .null], vm := .statics 6 },
  { cls := 11, slots := #[.long 0, .int 1, .null, .int 0, .null, .int 0, .int 0], vm := .statics 11 },
  { cls := 14, slots := #[.null, .null, .null], vm := .statics 14 },
  { cls := 6, slots := #[.null, .int 0, .int 0, .null], vm := .none },
  { cls := 6, slots := #[.null, .int 1, .int 0, .null], vm := .none },
  { cls := 6, slots := #[.null, .int 2, .int 0, .null], vm := .none }]
def classes : Array Class := #[k0, k1, k2, k3, k4, k5, k6, k7, k8, k9, k10, k11, k12, k13, k14, k15, k16, k17, k18, k19, k20]
def interned : List (Array UInt16 × Addr) := []
def slotsUsed : Nat := 26
def theMethod : MethodId := ⟨1, 1⟩
def args0 : Array Value := #[.long 5, .long 6, .long 7, .int 5]
def aboutOver (below : List Frame) : State where
  vm := { classes := classes, interned := interned.toArray }
  heap := heap
  slotsUsed := slotsUsed
  threads := #[{ frames := .invoking theMethod args0 :: below }]
def below0 : List Frame := [.native { method := ⟨0, 0⟩, args := #[] }]
def about1 : State := aboutOver below0
def p0 : Program := .bare "" "" ""
def e0 : Env := launch0.env 0 0 0
theorem w_frames : about1.frames = Frame.invoking theMethod args0 :: below0 := rfl
set_option maxRecDepth 65536 in
theorem w_args : argsFit about1.vm theMethod args0 = true := by decide +kernel
set_option maxRecDepth 65536 in
theorem w_heap : heapFits about1 = true := by decide +kernel
set_option maxRecDepth 65536 in
theorem w_runnable : about1.curStatus? = some .runnable := by decide +kernel
set_option maxRecDepth 65536 in
theorem w_alone : about1.alone = true := by decide +kernel
set_option maxRecDepth 65536 in
theorem w_named : about1.methodNamed? x = some theMethod := by decide +kernel
set_option maxRecDepth 65536 in
theorem w_hears : about1.hears theMethod below0 = true := by decide +kernel
set_option maxRecDepth 65536 in
theorem w_ripe : about1.ripe theMethod args0 below0 = true := by decide +kernel
theorem w_running : about1.status = .running := rfl
set_option maxRecDepth 65536 in
theorem w_room : about1.hasRoom e0.platform room_1 = true :=
  launch0.hasRoom_least _ room_1 (by decide +kernel) (by decide +kernel) (by decide +kernel) (by decide +kernel) (by decide +kernel) (by decide +kernel)
theorem allAtoms_all (ts : List Jvm.Cond) (a : Array Jvm.Value) (st : Jvm.State) : (allAtoms ts).before a st = ts.all (fun c => c.before a st) := by
  induction ts with
  | nil => rfl
  | cons c t ih =>
    show (Jvm.Cond.and c (allAtoms t)).before a st = _
    rw [Jvm.Cond.before_and, ih, List.all_cons]
def words1 : List Jvm.Cond := Jvm.Cond.code x code maxLocals ret :: tables_1
/-- a 'code' word, met by the world's own term for the bytes: nothing is compared byte by byte -/
theorem code_word {y : MethodName} {bytes : ByteArray} {mx : Nat} {rt : Option FieldType} {a : Array Value} {s : State} {m : MethodId} {meth : Method} {c : Code} (h1 : s.methodNamed? y = some m) (h2 : s.vm.method? m = some meth) (h3 : meth.code = some c) (h4 : c.code = bytes)
    (h5 : (c.maxLocals == mx && c.exceptionTable.isEmpty && decide (c.maxStack ≤ mostOperands) && decide (meth.sig.returnType = rt) && !meth.locks && decide (parseMethodDescriptor y.desc = some meth.sig)) = true) : (Jvm.Cond.code y bytes mx rt).before a s = true := by
  simp only [Bool.and_eq_true, beq_iff_eq, Bool.not_eq_true', decide_eq_true_eq] at h5
  obtain ⟨⟨⟨⟨⟨g1, g2⟩, g3⟩, g4⟩, g5⟩, g6⟩ := h5
  simp [Cond.before, Cond.holds, Cond.value, h1, h2, h3, h4, g1, g2, g3, g4, g5, g6]
def isCode : Jvm.Cond → Bool
  | .code _ _ _ _ => true
  | _ => false
theorem all_split {L : List Jvm.Cond} {P : Jvm.Cond → Bool} (h1 : L.all (fun c => isCode c || P c) = true) (h2 : ∀ c ∈ L.filter isCode, P c = true) : L.all P = true := by
  refine List.all_eq_true.mpr fun c hc => ?_
  have h := List.all_eq_true.mp h1 c hc
  rcases Bool.eq_false_or_eq_true (isCode c) with hi | hi
  · exact h2 c (List.mem_filter.mpr ⟨hc, hi⟩)
  · simpa [hi] using h
set_option maxRecDepth 65536 in
theorem w_c0 : (Jvm.Cond.code x code maxLocals ret).before args0 about1 = true := code_word (m := ⟨1, 1⟩) (meth := k1m1) (c := k1c1) (by decide +kernel) rfl rfl rfl (by decide +kernel)
set_option maxRecDepth 65536 in
theorem w_c1 : (Jvm.Cond.code ({ cls := "com/example/stakan/stakan/core/Instrument", name := "<init>", desc := "(Ljava/lang/String;JJLcom/example/stakan/stakan/core/Allocation;)V" } : Jvm.MethodName) prog_11_method_1_code (7 : Nat) (Option.none : Option Jvm.ClassFile.FieldType)).before args0 about1 = true := code_word (m := ⟨8, 0⟩) (meth := k8m0) (c := k8c0) (by decide +kernel) rfl rfl rfl (by decide +kernel)
set_option maxRecDepth 65536 in
theorem w_c2 : (Jvm.Cond.code ({ cls := "java/lang/Record", name := "<init>", desc := "()V" } : Jvm.MethodName) jdk_30_method_1_code (1 : Nat) (Option.none : Option Jvm.ClassFile.FieldType)).before args0 about1 = true := code_word (m := ⟨7, 0⟩) (meth := k7m0) (c := k7c0) (by decide +kernel) rfl rfl rfl (by decide +kernel)
set_option maxRecDepth 65536 in
theorem w_c3 : (Jvm.Cond.code ({ cls := "java/lang/Object", name := "<init>", desc := "()V" } : Jvm.MethodName) object_method_1_code (1 : Nat) (Option.none : Option Jvm.ClassFile.FieldType)).before args0 about1 = true := code_word (m := ⟨0, 0⟩) (meth := k0m0) (c := k0c0) (by decide +kernel) rfl rfl rfl (by decide +kernel)
set_option maxRecDepth 65536 in
theorem w_c4 : (Jvm.Cond.code ({ cls := "java/util/Objects", name := "requireNonNull", desc := "(Ljava/lang/Object;Ljava/lang/String;)Ljava/lang/Object;" } : Jvm.MethodName) jdk_31_method_11_code (2 : Nat) (Option.some (Jvm.ClassFile.FieldType.object "java/lang/Object"))).before args0 about1 = true := code_word (m := ⟨12, 1⟩) (meth := k12m1) (c := k12c1) (by decide +kernel) rfl rfl rfl (by decide +kernel)
set_option maxRecDepth 65536 in
theorem w_c5 : (Jvm.Cond.code ({ cls := "java/lang/String", name := "isEmpty", desc := "()Z" } : Jvm.MethodName) jdk_42_method_55_code (1 : Nat) (Option.some Jvm.ClassFile.FieldType.boolean)).before args0 about1 = true := code_word (m := ⟨11, 1⟩) (meth := k11m1) (c := k11c1) (by decide +kernel) rfl rfl rfl (by decide +kernel)
set_option maxRecDepth 65536 in
theorem w_c6 : (Jvm.Cond.code ({ cls := "com/example/stakan/stakan/core/Instrument", name := "isOnPriceStep", desc := "(J)Z" } : Jvm.MethodName) prog_11_method_3_code (3 : Nat) (Option.some Jvm.ClassFile.FieldType.boolean)).before args0 about1 = true := code_word (m := ⟨8, 1⟩) (meth := k8m1) (c := k8c1) (by decide +kernel) rfl rfl rfl (by decide +kernel)
def codes1 : List Jvm.Cond := [Jvm.Cond.code x code maxLocals ret, Jvm.Cond.code ({ cls := "com/example/stakan/stakan/core/Instrument", name := "<init>", desc := "(Ljava/lang/String;JJLcom/example/stakan/stakan/core/Allocation;)V" } : Jvm.MethodName) prog_11_method_1_code (7 : Nat) (Option.none : Option Jvm.ClassFile.FieldType), Jvm.Cond.code ({ cls := "java/lang/Record", name := "<init>", desc := "()V" } : Jvm.MethodName) jdk_30_method_1_code (1 : Nat) (Option.none : Option Jvm.ClassFile.FieldType), Jvm.Cond.code ({ cls := "java/lang/Object", name := "<init>", desc := "()V" } : Jvm.MethodName) object_method_1_code (1 : Nat) (Option.none : Option Jvm.ClassFile.FieldType), Jvm.Cond.code ({ cls := "java/util/Objects", name := "requireNonNull", desc := "(Ljava/lang/Object;Ljava/lang/String;)Ljava/lang/Object;" } : Jvm.MethodName) jdk_31_method_11_code (2 : Nat) (Option.some (Jvm.ClassFile.FieldType.object "java/lang/Object")), Jvm.Cond.code ({ cls := "java/lang/String", name := "isEmpty", desc := "()Z" } : Jvm.MethodName) jdk_42_method_55_code (1 : Nat) (Option.some Jvm.ClassFile.FieldType.boolean), Jvm.Cond.code ({ cls := "com/example/stakan/stakan/core/Instrument", name := "isOnPriceStep", desc := "(J)Z" } : Jvm.MethodName) prog_11_method_3_code (3 : Nat) (Option.some Jvm.ClassFile.FieldType.boolean)]
set_option maxRecDepth 65536 in
theorem codes_eq : words1.filter isCode = codes1 := rfl
theorem w_codes : ∀ c ∈ words1.filter isCode, c.before args0 about1 = true := by
  rw [codes_eq]
  intro c hc
  simp only [codes1, List.mem_cons, List.not_mem_nil, or_false] at hc
  rcases hc with rfl | rfl | rfl | rfl | rfl | rfl | rfl
  · exact w_c0
  · exact w_c1
  · exact w_c2
  · exact w_c3
  · exact w_c4
  · exact w_c5
  · exact w_c6
set_option maxRecDepth 65536 in
theorem w_t1 : (words1.take 24).all (fun c => isCode c || c.before args0 about1) = true := by decide +kernel
set_option maxRecDepth 65536 in
theorem w_t2 : ((words1.drop 24).take 24).all (fun c => isCode c || c.before args0 about1) = true := by decide +kernel
set_option maxRecDepth 65536 in
theorem w_t3 : ((words1.drop 24).drop 24).all (fun c => isCode c || c.before args0 about1) = true := by decide +kernel
theorem w_tables : (allAtoms (Jvm.Cond.code x code maxLocals ret :: tables_1)).before args0 about1 = true := by
  rw [allAtoms_all]
  show words1.all (fun c => c.before args0 about1) = true
  refine all_split ?_ w_codes
  rw [← List.take_append_drop 24 words1, List.all_append, w_t1, ← List.take_append_drop 24 (words1.drop 24), List.all_append, w_t2, w_t3]
  rfl
set_option maxRecDepth 65536 in
theorem w_rest : rest_1_c.before args0 about1 = true := by decide +kernel
set_option maxRecDepth 65536 in
theorem w_case : (Jvm.Cond.and given_1 narrow_1).before args0 about1 = true := by decide +kernel
set_option maxRecDepth 65536 in
theorem w_consts : constsHeld consts_1 about1 := Jvm.Lit.constsHeldB_iff.mp (by decide +kernel)
theorem w_applies : (headSpec (Jvm.Cond.code x code maxLocals ret :: tables_1) room_1).applies x e0.platform about1 = true :=
  (Spec.applies_iff w_frames).mpr ⟨w_running, w_runnable, w_alone, w_named, w_hears, w_ripe, w_room, w_tables⟩
theorem atStart : AtStart classFile x code maxLocals ret World_1 tables_1 room_1 Calls_1 rest_1 Pre_1 launch0 p0 e0 about1 theMethod args0 below0 :=
  ⟨lists_1, trivial, launch0.admits_env _ _ _, launch0.least_env, fairChoices_fair.cas, fairChoices_fair.clock, w_frames, w_args, w_heap, w_applies, ⟨w_consts, trivial⟩, w_rest, w_case⟩
end start1
theorem witness_1 : WitnessClaimed_1 := ⟨start1.p0, start1.e0, start1.about1, start1.theMethod, start1.args0, start1.below0, start1.atStart⟩
end Jvm.Pilot.@@N@@
