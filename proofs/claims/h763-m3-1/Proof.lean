import JvmDerived
import JvmDerived.Pilot.@@N@@Statement
import JvmDerived.Pilot.@@N@@Code
set_option linter.unusedVariables false
set_option linter.unusedSimpArgs false
namespace Jvm.RoadKit
open Sem ClassFile Op Lib Jvm.Stand Jvm.Free Jvm.LawKit
section Own
variable {p : Program} {l : Launch} {e : Env} {R : Room} {s : State} {m : MethodId} {args : Array Value} {below : List Frame} {meth : Method} {c : Code} {T : State} {locs : List Loc} {cells slots : Nat}
theorem retI (X : Stand p l e R s m args below meth c T locs cells slots) (hx : p.tables.exec = Jvm.exec) {pc : Nat} {Ls : Array Slot} {z : Int32} {rest : List Value} (hret : meth.sig.returnType = some .int) (hd : decode c.code pc = .ok (.ireturn, 1)) {fs : List Frame}
    (hl : ∀ (f : JFrame) (acts : List Action), f.method = m → f.locked = none → f.entered = [] → (doReturn e (T.setTop f) acts (some (.int z))).1 = T.setFrames fs) : Steps p.tables e below (T.setTop (mkF m pc Ls (.int z :: rest))) (T.setFrames fs) := by
  have hm' : T.vm.method? m = some meth := X.method'
  have hn : narrow .int (.int z) = .int z := rfl
  show Steps p.tables e below (T.setTop { method := m, pc := pc, locals := Ls, stack := _ :: rest, locked := none }) _
  jvm_step X.here [X.here.top, hx, hd, hm', hret, hn]
  first | (intro acts; rw [hl _ acts rfl rfl rfl]) | rw [hl _ _ rfl rfl rfl]
  exact Steps.refl _
/-- the run from st comes to an end of which P holds -/
def own_G (tb : Tables) (e : Env) (below : List Frame) (P : Outcome → State → Prop) (st : State) : Prop :=
  ∃ s₂ o, Steps tb e below st s₂ ∧ s₂.status = .running ∧ Ended s₂ below o ∧ P o s₂
theorem own_st {tb : Tables} {P : Outcome → State → Prop} {st st' : State} (h : ∀ t, Steps tb e below st' t → Steps tb e below st t) (k : own_G tb e below P st') : own_G tb e below P st := by
  obtain ⟨s2, o, h1, h2⟩ := k
  exact ⟨s2, o, h _ h1, h2⟩
def own_P (s : State) (Q : Option Value → Heap → List Loc → Prop) (k n : Nat) (o : Outcome) (U' : State) : Prop :=
  ∃ v L, o = .returned v ∧ Q v U'.heap L ∧ FrameEnd s o U' L k n
theorem own_end {Q : Option Value → Heap → List Loc → Prop} {k n : Nat} {st : State} {v : Option Value} (X : Stand p l e R s m args below meth c T locs cells slots) (hlk : meth.locks = false) (hv : meth.sig.returnType = none → v = none)
    (hst : ∀ fs, (∀ (f : JFrame) (acts : List Action), f.method = m → f.locked = none → f.entered = [] → (doReturn e (T.setTop f) acts v).1 = T.setFrames fs) → Steps p.tables e below st (T.setFrames fs))
    (hQ : Q v T.heap locs) (hk : cells ≤ k) (hn : slots ≤ n) : own_G p.tables e below (own_P s Q k n) st := by
  obtain ⟨fs, hr, hrun, hended, hW, hsame⟩ := X.leave hv hlk
  exact ⟨_, _, hst fs hr, hrun, hended, _, _, rfl, hQ, ⟨_, rfl⟩, hW, hsame.mono hk hn⟩
theorem own_retZ {Q : Option Value → Heap → List Loc → Prop} {k n : Nat} (X : Stand p l e R s m args below meth c T locs cells slots) (hx : p.tables.exec = Jvm.exec) (hlk : meth.locks = false) (hret : meth.sig.returnType = some .boolean) {pc : Nat} {Ls : Array Slot} {z : Int32} {rest : List Value}
    (hd : decode c.code pc = .ok (.ireturn, 1)) (hz : nar .boolean z = z) (hQ : Q (some (.int z)) T.heap locs) (hk : cells ≤ k) (hn : slots ≤ n) : own_G p.tables e below (own_P s Q k n) (T.setTop (mkF m pc Ls (.int z :: rest))) :=
  own_end X hlk (fun h => by rw [hret] at h; cases h) (fun fs hr => retN X hx (t := .boolean) hret (by simp) hd (by rw [hz]; exact hr)) hQ hk hn
theorem own_retI {Q : Option Value → Heap → List Loc → Prop} {k n : Nat} (X : Stand p l e R s m args below meth c T locs cells slots) (hx : p.tables.exec = Jvm.exec) (hlk : meth.locks = false) (hret : meth.sig.returnType = some .int) {pc : Nat} {Ls : Array Slot} {z : Int32} {rest : List Value}
    (hd : decode c.code pc = .ok (.ireturn, 1)) (hQ : Q (some (.int z)) T.heap locs) (hk : cells ≤ k) (hn : slots ≤ n) : own_G p.tables e below (own_P s Q k n) (T.setTop (mkF m pc Ls (.int z :: rest))) :=
  own_end X hlk (fun h => by rw [hret] at h; cases h) (fun fs hr => retI X hx hret hd hr) hQ hk hn
theorem own_retJ {Q : Option Value → Heap → List Loc → Prop} {k n : Nat} (X : Stand p l e R s m args below meth c T locs cells slots) (hx : p.tables.exec = Jvm.exec) (hlk : meth.locks = false) (hret : meth.sig.returnType = some .long) {pc : Nat} {Ls : Array Slot} {z : Int64} {rest : List Value}
    (hd : decode c.code pc = .ok (.lreturn, 1)) (hQ : Q (some (.long z)) T.heap locs) (hk : cells ≤ k) (hn : slots ≤ n) : own_G p.tables e below (own_P s Q k n) (T.setTop (mkF m pc Ls (.long z :: rest))) :=
  own_end X hlk (fun h => by rw [hret] at h; cases h) (fun fs hr => retOut X hx hret rfl (Or.inr (Or.inl ⟨rfl, rfl, _, rfl⟩)) hd hr) hQ hk hn
theorem own_retR {Q : Option Value → Heap → List Loc → Prop} {k n : Nat} {t : FieldType} (X : Stand p l e R s m args below meth c T locs cells slots) (hx : p.tables.exec = Jvm.exec) (hlk : meth.locks = false) (hret : meth.sig.returnType = some t) (ht : t.isReference = true) {pc : Nat} {Ls : Array Slot} {w : Value} {rest : List Value} (hw : w.isRef = true) (hnw : narrow t w = w)
    (hd : decode c.code pc = .ok (.areturn, 1)) (hQ : Q (some w) T.heap locs) (hk : cells ≤ k) (hn : slots ≤ n) : own_G p.tables e below (own_P s Q k n) (T.setTop (mkF m pc Ls (w :: rest))) :=
  own_end X hlk (fun h => by rw [hret] at h; cases h) (fun fs hr => retOut X hx hret hnw (Or.inr (Or.inr (Or.inr (Or.inr ⟨rfl, ht, hw⟩)))) hd hr) hQ hk hn
theorem own_retV {Q : Option Value → Heap → List Loc → Prop} {k n : Nat} (X : Stand p l e R s m args below meth c T locs cells slots) (hx : p.tables.exec = Jvm.exec) (hlk : meth.locks = false) (hret : meth.sig.returnType = none) {pc : Nat} {Ls : Array Slot}
    (hd : decode c.code pc = .ok (.return_, 1)) (hQ : Q none T.heap locs) (hk : cells ≤ k) (hn : slots ≤ n) : own_G p.tables e below (own_P s Q k n) (T.setTop (mkF m pc Ls [])) :=
  own_end X hlk (fun _ => rfl) (fun fs hr => X.returnOut hx hret hd hr) hQ hk hn
theorem own_mono {cells' slots' : Nat} (X : Stand p l e R s m args below meth c T locs cells slots) (h1 : cells ≤ cells') (h2 : slots ≤ slots') : Stand p l e R s m args below meth c T locs cells' slots' :=
  ⟨X.admits, X.cas, X.clock, X.frames, X.room, X.hears, X.method, X.code, X.here, X.tail, X.warmed, X.limits, X.bytes, X.same.mono h1 h2⟩
theorem own_fld {Z : State} {h : Heap} {a : Addr} {C n d : String} {v w : Value} (F : Fld Z h a C n d v) (q : v = w) : Fld Z h a C n d w := q ▸ F
end Own
/-- a boolean as the machine holds it -/
def own_b (P : Prop) [Decidable P] : Int32 := if P then 1 else 0
theorem own_bt {P : Prop} [Decidable P] (h : P) : own_b P = 1 := if_pos h
theorem own_bf {P : Prop} [Decidable P] (h : ¬ P) : own_b P = 0 := if_neg h
theorem own_b1 {P : Prop} [Decidable P] {z : Int32} (hz : z = own_b P) (h : P) : ¬ z = 0 := by rw [hz, own_bt h]; decide
theorem own_b0 {P : Prop} [Decidable P] {z : Int32} (hz : z = own_b P) (h : ¬ P) : z = 0 := by rw [hz, own_bf h]
theorem own_nar {P : Prop} [Decidable P] {z : Int32} (hz : z = own_b P) : nar .boolean z = z := by
  rw [hz]; by_cases h : P
  · rw [own_bt h]; decide
  · rw [own_bf h]; decide
theorem own_fitZ {P : Prop} [Decidable P] {z : Int32} (hz : z = own_b P) : fits .boolean (.int z) = true := by
  rw [hz]; by_cases h : P
  · rw [own_bt h]; decide
  · rw [own_bf h]; decide
theorem own_bc {P Q : Prop} [Decidable P] [Decidable Q] (h : P ↔ Q) : own_b P = own_b Q := by
  by_cases q : Q
  · rw [own_bt q, own_bt (h.mpr q)]
  · rw [own_bf q, own_bf (fun r => q (h.mp r))]
theorem own_bi {P Q : Prop} [Decidable P] [Decidable Q] (h : own_b P = own_b Q) : P ↔ Q := by
  by_cases p : P <;> by_cases q : Q <;> simp_all [own_b]
end Jvm.RoadKit
namespace Jvm.Pilot.@@N@@
open Jvm Jvm.ClassFile Sem Op Lib Jvm.Free Jvm.Stand Jvm.LawKit Jvm.RoadKit Bundle Jvm.Pilot.@@N@@.Jvm.D
theorem pn_0 : plainName "com/example/timed_queue/timedqueue/model/QueueCountsHashCodePinLaw" = true := by first | (simp [plainName, overriddenIn]; done) | decide +kernel
theorem d1_0 : decode prog_11_method_1_code 0 = .ok (.aload_n 0, 1) := by decide +kernel
theorem d1_1 : decode prog_11_method_1_code 1 = .ok (.invokespecial 1, 3) := by decide +kernel
theorem d1_4 : decode prog_11_method_1_code 4 = .ok (.aload_n 0, 1) := by decide +kernel
theorem d1_5 : decode prog_11_method_1_code 5 = .ok (.lload_n 1, 1) := by decide +kernel
theorem d1_6 : decode prog_11_method_1_code 6 = .ok (.putfield 7, 3) := by decide +kernel
theorem d1_9 : decode prog_11_method_1_code 9 = .ok (.aload_n 0, 1) := by decide +kernel
theorem d1_10 : decode prog_11_method_1_code 10 = .ok (.lload_n 3, 1) := by decide +kernel
theorem d1_11 : decode prog_11_method_1_code 11 = .ok (.putfield 13, 3) := by decide +kernel
theorem d1_14 : decode prog_11_method_1_code 14 = .ok (.aload_n 0, 1) := by decide +kernel
theorem d1_15 : decode prog_11_method_1_code 15 = .ok (.lload 5, 2) := by decide +kernel
theorem d1_17 : decode prog_11_method_1_code 17 = .ok (.putfield 16, 3) := by decide +kernel
theorem d1_20 : decode prog_11_method_1_code 20 = .ok (.return_, 1) := by decide +kernel
theorem pn_1 : plainName "com/example/timed_queue/timedqueue/model/QueueCounts" = true := by first | (simp [plainName, overriddenIn]; done) | decide +kernel
theorem d3_0 : decode prog_11_method_6_code 0 = .ok (.aload_n 0, 1) := by decide +kernel
theorem d3_1 : decode prog_11_method_6_code 1 = .ok (.getfield 7, 3) := by decide +kernel
theorem d3_4 : decode prog_11_method_6_code 4 = .ok (.invokestatic 19, 3) := by decide +kernel
theorem d3_7 : decode prog_11_method_6_code 7 = .ok (.bipush 31, 2) := by decide +kernel
theorem d3_9 : decode prog_11_method_6_code 9 = .ok (.imul, 1) := by decide +kernel
theorem d3_10 : decode prog_11_method_6_code 10 = .ok (.aload_n 0, 1) := by decide +kernel
theorem d3_11 : decode prog_11_method_6_code 11 = .ok (.getfield 13, 3) := by decide +kernel
theorem d3_14 : decode prog_11_method_6_code 14 = .ok (.invokestatic 19, 3) := by decide +kernel
theorem d3_17 : decode prog_11_method_6_code 17 = .ok (.iadd, 1) := by decide +kernel
theorem d3_18 : decode prog_11_method_6_code 18 = .ok (.bipush 31, 2) := by decide +kernel
theorem d3_20 : decode prog_11_method_6_code 20 = .ok (.imul, 1) := by decide +kernel
theorem d3_21 : decode prog_11_method_6_code 21 = .ok (.aload_n 0, 1) := by decide +kernel
theorem d3_22 : decode prog_11_method_6_code 22 = .ok (.getfield 16, 3) := by decide +kernel
theorem d3_25 : decode prog_11_method_6_code 25 = .ok (.invokestatic 19, 3) := by decide +kernel
theorem d3_28 : decode prog_11_method_6_code 28 = .ok (.iadd, 1) := by decide +kernel
theorem d3_29 : decode prog_11_method_6_code 29 = .ok (.ireturn, 1) := by decide +kernel
theorem pn_3 : plainName "com/example/timed_queue/timedqueue/model/QueueCounts" = true := by first | (simp [plainName, overriddenIn]; done) | decide +kernel
theorem d4_0 : decode jdk_35_method_36_code 0 = .ok (.lload_n 0, 1) := by decide +kernel
theorem d4_1 : decode jdk_35_method_36_code 1 = .ok (.lload_n 0, 1) := by decide +kernel
theorem d4_2 : decode jdk_35_method_36_code 2 = .ok (.bipush 32, 2) := by decide +kernel
theorem d4_4 : decode jdk_35_method_36_code 4 = .ok (.lushr, 1) := by decide +kernel
theorem d4_5 : decode jdk_35_method_36_code 5 = .ok (.lxor, 1) := by decide +kernel
theorem d4_6 : decode jdk_35_method_36_code 6 = .ok (.l2i, 1) := by decide +kernel
theorem d4_7 : decode jdk_35_method_36_code 7 = .ok (.ireturn, 1) := by decide +kernel
theorem pn_4 : plainName "java/lang/Long" = true := by first | (simp [plainName, overriddenIn]; done) | decide +kernel
theorem d5_0 : decode method_2_code 0 = .ok (.lload_n 0, 1) := by decide +kernel
theorem d5_1 : decode method_2_code 1 = .ok (.lload_n 0, 1) := by decide +kernel
theorem d5_2 : decode method_2_code 2 = .ok (.bipush 32, 2) := by decide +kernel
theorem d5_4 : decode method_2_code 4 = .ok (.lushr, 1) := by decide +kernel
theorem d5_5 : decode method_2_code 5 = .ok (.lxor, 1) := by decide +kernel
theorem d5_6 : decode method_2_code 6 = .ok (.l2i, 1) := by decide +kernel
theorem d5_7 : decode method_2_code 7 = .ok (.ireturn, 1) := by decide +kernel
theorem pn_5 : plainName "com/example/timed_queue/timedqueue/model/QueueCountsHashCodePinLaw" = true := by first | (simp [plainName, overriddenIn]; done) | decide +kernel
theorem pd_0 : parseMethodDescriptor "(J)I" = some ⟨[.long], some .int⟩ := by decide +kernel
theorem pd_1 : parseMethodDescriptor "(JJJ)V" = some ⟨[.long, .long, .long], none⟩ := by decide +kernel
theorem pd_2 : parseMethodDescriptor "()I" = some ⟨[], some .int⟩ := by decide +kernel
theorem ef_1 (m : MethodId) (x0 : Addr) (x1 : Int64) (x2 : Int64) (x3 : Int64) : entryFrame m #[(.ref x0), (.long x1), (.long x2), (.long x3)] 7 = mkF m 0 #[.val (.ref x0), .val (.long x1), .second, .val (.long x2), .second, .val (.long x3), .second] [] := by first | (simp [entryFrame, mkF, argsToLocals, Value.category]; done) | rfl
theorem ef_4 (m : MethodId) (x0 : Int64) : entryFrame m #[(.long x0)] 2 = mkF m 0 #[.val (.long x0), .second] [] := by first | (simp [entryFrame, mkF, argsToLocals, Value.category]; done) | rfl
theorem ef_3 (m : MethodId) (x0 : Addr) : entryFrame m #[(.ref x0)] 1 = mkF m 0 #[.val (.ref x0)] [] := by first | (simp [entryFrame, mkF, argsToLocals, Value.category]; done) | rfl
theorem ef_5 (m : MethodId) (x0 : Int64) : entryFrame m #[(.long x0)] 2 = mkF m 0 #[.val (.long x0), .second] [] := by first | (simp [entryFrame, mkF, argsToLocals, Value.category]; done) | rfl
theorem ef_0 (m : MethodId) (x0 : Int64) (x1 : Int64) (x2 : Int64) : entryFrame m #[(.long x0), (.long x1), (.long x2)] maxLocals = mkF m 0 #[.val (.long x0), .second, .val (.long x1), .second, .val (.long x2), .second, .unset, .unset, .unset, .unset, .unset, .unset, .unset, .unset] [] := by first | (simp [entryFrame, mkF, argsToLocals, Value.category, maxLocals]; done) | rfl
theorem own_z : (((0 : Int64) ^^^ (((0 : Int64).toUInt64 >>> ((32 : Int32) &&& 0x3f).toInt64.toUInt64).toInt64)).toInt32) = 0 := by decide
theorem own_h1 (a b c : Int64) : ((((((a ^^^ ((a.toUInt64 >>> ((32 : Int32) &&& 0x3f).toInt64.toUInt64).toInt64)).toInt32) * (31 : Int32)) + ((b ^^^ ((b.toUInt64 >>> ((32 : Int32) &&& 0x3f).toInt64.toUInt64).toInt64)).toInt32)) * (31 : Int32)) + ((c ^^^ ((c.toUInt64 >>> ((32 : Int32) &&& 0x3f).toInt64.toUInt64).toInt64)).toInt32)) = ((((((((a ^^^ ((a.toUInt64 >>> ((32 : Int32) &&& 0x3f).toInt64.toUInt64).toInt64)).toInt32) * (31 : Int32)) + (((0 : Int64) ^^^ (((0 : Int64).toUInt64 >>> ((32 : Int32) &&& 0x3f).toInt64.toUInt64).toInt64)).toInt32)) * (31 : Int32)) + (((0 : Int64) ^^^ (((0 : Int64).toUInt64 >>> ((32 : Int32) &&& 0x3f).toInt64.toUInt64).toInt64)).toInt32)) + (((((((0 : Int64) ^^^ (((0 : Int64).toUInt64 >>> ((32 : Int32) &&& 0x3f).toInt64.toUInt64).toInt64)).toInt32) * (31 : Int32)) + ((b ^^^ ((b.toUInt64 >>> ((32 : Int32) &&& 0x3f).toInt64.toUInt64).toInt64)).toInt32)) * (31 : Int32)) + (((0 : Int64) ^^^ (((0 : Int64).toUInt64 >>> ((32 : Int32) &&& 0x3f).toInt64.toUInt64).toInt64)).toInt32))) + (((((((0 : Int64) ^^^ (((0 : Int64).toUInt64 >>> ((32 : Int32) &&& 0x3f).toInt64.toUInt64).toInt64)).toInt32) * (31 : Int32)) + (((0 : Int64) ^^^ (((0 : Int64).toUInt64 >>> ((32 : Int32) &&& 0x3f).toInt64.toUInt64).toInt64)).toInt32)) * (31 : Int32)) + ((c ^^^ ((c.toUInt64 >>> ((32 : Int32) &&& 0x3f).toInt64.toUInt64).toInt64)).toInt32))) := by
  rw [own_z]
  generalize ((a ^^^ ((a.toUInt64 >>> ((32 : Int32) &&& 0x3f).toInt64.toUInt64).toInt64)).toInt32) = x; generalize ((b ^^^ ((b.toUInt64 >>> ((32 : Int32) &&& 0x3f).toInt64.toUInt64).toInt64)).toInt32) = y; generalize ((c ^^^ ((c.toUInt64 >>> ((32 : Int32) &&& 0x3f).toInt64.toUInt64).toInt64)).toInt32) = z
  grind
theorem own_h2 (c : Int64) : (((((((0 : Int64) ^^^ (((0 : Int64).toUInt64 >>> ((32 : Int32) &&& 0x3f).toInt64.toUInt64).toInt64)).toInt32) * (31 : Int32)) + (((0 : Int64) ^^^ (((0 : Int64).toUInt64 >>> ((32 : Int32) &&& 0x3f).toInt64.toUInt64).toInt64)).toInt32)) * (31 : Int32)) + ((c ^^^ ((c.toUInt64 >>> ((32 : Int32) &&& 0x3f).toInt64.toUInt64).toInt64)).toInt32)) = ((c ^^^ ((c.toUInt64 >>> ((32 : Int32) &&& 0x3f).toInt64.toUInt64).toInt64)).toInt32) := by
  rw [own_z]; grind
theorem own_h3 (b : Int64) : (((((((0 : Int64) ^^^ (((0 : Int64).toUInt64 >>> ((32 : Int32) &&& 0x3f).toInt64.toUInt64).toInt64)).toInt32) * (31 : Int32)) + ((b ^^^ ((b.toUInt64 >>> ((32 : Int32) &&& 0x3f).toInt64.toUInt64).toInt64)).toInt32)) * (31 : Int32)) + (((0 : Int64) ^^^ (((0 : Int64).toUInt64 >>> ((32 : Int32) &&& 0x3f).toInt64.toUInt64).toInt64)).toInt32)) = ((31 : Int32) * ((b ^^^ ((b.toUInt64 >>> ((32 : Int32) &&& 0x3f).toInt64.toUInt64).toInt64)).toInt32)) := by
  rw [own_z]; generalize ((b ^^^ ((b.toUInt64 >>> ((32 : Int32) &&& 0x3f).toInt64.toUInt64).toInt64)).toInt32) = y; grind
theorem own_h4 (a : Int64) : ((((((a ^^^ ((a.toUInt64 >>> ((32 : Int32) &&& 0x3f).toInt64.toUInt64).toInt64)).toInt32) * (31 : Int32)) + (((0 : Int64) ^^^ (((0 : Int64).toUInt64 >>> ((32 : Int32) &&& 0x3f).toInt64.toUInt64).toInt64)).toInt32)) * (31 : Int32)) + (((0 : Int64) ^^^ (((0 : Int64).toUInt64 >>> ((32 : Int32) &&& 0x3f).toInt64.toUInt64).toInt64)).toInt32)) = ((961 : Int32) * ((a ^^^ ((a.toUInt64 >>> ((32 : Int32) &&& 0x3f).toInt64.toUInt64).toInt64)).toInt32)) := by
  rw [own_z]; generalize ((a ^^^ ((a.toUInt64 >>> ((32 : Int32) &&& 0x3f).toInt64.toUInt64).toInt64)).toInt32) = y; grind
def Q1 (Z : State) (a1 : Addr) (q1 : Int64) (q2 : Int64) (q3 : Int64) (u_waiting_a1 : Int64) (u_inFlight_a1 : Int64) (u_dead_a1 : Int64) (h0 : Heap) (n0 : Nat) (v : Option Value) (h : Heap) (L : List Loc) : Prop := v = none ∧ Fr n0 L ∧ Keep h0 h [a1] ∧ Exa Z h a1 "com/example/timed_queue/timedqueue/model/QueueCounts" ∧ Fld Z h a1 "com/example/timed_queue/timedqueue/model/QueueCounts" "waiting" "J" (.long q1) ∧ Fld Z h a1 "com/example/timed_queue/timedqueue/model/QueueCounts" "inFlight" "J" (.long q2) ∧ Fld Z h a1 "com/example/timed_queue/timedqueue/model/QueueCounts" "dead" "J" (.long q3)
set_option maxRecDepth 65536 in
set_option maxHeartbeats 40000000 in
theorem rm1 (l : Launch) (Z : State) (a0 : Array Value) (hw : ∀ d ∈ tables_1, d.before a0 Z = true) (ws : List Jvm.Cond) (a1 : Addr) (q1 : Int64) (q2 : Int64) (q3 : Int64) (u_waiting_a1 : Int64) (u_inFlight_a1 : Int64) (u_dead_a1 : Int64) (h0 : Heap) (n0 : Nat) (Z0 : n0 ≤ h0.size) (F_waiting_a1 : Fld Z h0 a1 "com/example/timed_queue/timedqueue/model/QueueCounts" "waiting" "J" (.long u_waiting_a1)) (F_inFlight_a1 : Fld Z h0 a1 "com/example/timed_queue/timedqueue/model/QueueCounts" "inFlight" "J" (.long u_inFlight_a1)) (F_dead_a1 : Fld Z h0 a1 "com/example/timed_queue/timedqueue/model/QueueCounts" "dead" "J" (.long u_dead_a1)) (E_a1 : Exa Z h0 a1 "com/example/timed_queue/timedqueue/model/QueueCounts") (ge_a1 : n0 ≤ a1) :
    MetFree l (⟨"com/example/timed_queue/timedqueue/model/QueueCounts", "<init>", "(JJJ)V"⟩ : MethodName) (head1 (Jvm.Cond.code (⟨"com/example/timed_queue/timedqueue/model/QueueCounts", "<init>", "(JJJ)V"⟩ : MethodName) prog_11_method_1_code 7 none :: ws) ({ frames := 1, cells := 0, slots := 0, locals := 12 } : Room)) (fun a U => a = #[(.ref a1), (.long q1), (.long q2), (.long q3)] ∧ Z.Warmed39 U.vm ∧ U.heap = h0) (fun _ _ _ _ _ => True) (fun _ U o U' => ∃ v L, o = .returned v ∧ Q1 Z a1 q1 q2 q3 u_waiting_a1 u_inFlight_a1 u_dead_a1 h0 n0 v U'.heap L ∧ FrameEnd U o U' L ({ frames := 1, cells := 0, slots := 0, locals := 12 } : Room).cells ({ frames := 1, cells := 0, slots := 0, locals := 12 } : Room).slots) := by
  refine MetFree.of_bodySF (plainFor_of_name pn_1) hisR ?_
  intro p e s m args below meth c s₁ Bd hml0 hP hK
  obtain ⟨rfl, hZ, hh⟩ := hP
  have hx := Bd.exec
  have hby := Bd.bytes
  have hlk := BodyLoose.notSynchronized Bd
  have hml : c.maxLocals = 7 := hml0
  have hown : s.vm.findClass "com/example/timed_queue/timedqueue/model/QueueCounts" = some m.cls := findClass_of_methodNamed Bd.named
  have hnm := (name_of_methodNamed Bd.named Bd.method).1
  have X0 : Stand p l e ({ frames := 1, cells := 0, slots := 0, locals := 12 } : Room) s m #[(.ref a1), (.long q1), (.long q2), (.long q3)] below meth c s₁ [] 0 0 := Stand.of_body Bd
  have e0 : s₁.heap = h0 := by rw [← hh, Bd.state]; rfl
  have N0 := Fr.nil n0
  have K0 := Keep.refl h0 [a1]
  show own_G p.tables e below (own_P s (Q1 Z a1 q1 q2 q3 u_waiting_a1 u_inFlight_a1 u_dead_a1 h0 n0) 0 0) (s₁.setTop (entryFrame m #[(.ref a1), (.long q1), (.long q2), (.long q3)] 7))
  refine own_st (fun t k => castTop (ef_1 m a1 q1 q2 q3) k) ?_
  show own_G p.tables e below _ (s₁.setTop (mkF m 0 #[.val (.ref a1), .val (.long q1), .second, .val (.long q2), .second, .val (.long q3), .second] []))
  refine own_st (fun _ k => XS.aloadN X0.here hx rfl (hb hby d1_0) rfl rfl k) ?_
  show own_G p.tables e below _ (s₁.setTop (mkF m 1 #[.val (.ref a1), .val (.long q1), .second, .val (.long q2), .second, .val (.long q3), .second] [(.ref a1)]))
  obtain ⟨T1, X1, e1, st1⟩ := initO X0 hx hZ hown (hw _ (List.mem_of_getElem? (i := 6) rfl)) (hw _ (List.mem_of_getElem? (i := 7) rfl)) (hw _ (List.mem_of_getElem? (i := 8) rfl)) e0 (g := (mkF m 1 #[.val (.ref a1), .val (.long q1), .second, .val (.long q2), .second, .val (.long q3), .second] [(.ref a1)])) rfl (by rw [hml]; rfl) rfl (hb hby d1_1) (by decide) (W := 0) (by show 2 * 0 + _ ≤ _; exact Nat.le_of_eq rfl) (by decide)
  refine own_st st1 ?_
  show own_G p.tables e below _ (T1.setTop (mkF m 4 #[.val (.ref a1), .val (.long q1), .second, .val (.long q2), .second, .val (.long q3), .second] []))
  refine own_st (fun _ k => XS.aloadN X1.here hx rfl (hb hby d1_4) rfl rfl k) ?_
  show own_G p.tables e below _ (T1.setTop (mkF m 5 #[.val (.ref a1), .val (.long q1), .second, .val (.long q2), .second, .val (.long q3), .second] [(.ref a1)]))
  refine own_st (fun _ k => XS.lloadN X1.here hx rfl (hb hby d1_5) rfl k) ?_
  show own_G p.tables e below _ (T1.setTop (mkF m 6 #[.val (.ref a1), .val (.long q1), .second, .val (.long q2), .second, .val (.long q3), .second] [(.long q1), (.ref a1)]))
  obtain ⟨T2, h2, X2, e2, W2, st2⟩ := putF X1 hx hZ hown (host := "") (Or.inl (hw _ (List.mem_of_getElem? (i := 9) rfl))) Via.refl e1 F_waiting_a1 E_a1 (Or.inr ⟨(hw _ (List.mem_of_getElem? (i := 10) rfl)), rfl, hnm⟩) (hw _ (List.mem_of_getElem? (i := 1) rfl)) (ty := .long) (by decide) rfl rfl (g := (mkF m 6 #[.val (.ref a1), .val (.long q1), .second, .val (.long q2), .second, .val (.long q3), .second] [(.long q1), (.ref a1)])) rfl rfl (hb hby d1_6)
  have N2 := Fr.snoc X2 N0 ge_a1
  have E3 := E_a1.wr W2
  have F4 := F_waiting_a1.same W2
  have F5 := F_inFlight_a1.other W2 (Or.inr (slot_ne (Or.inr (hw _ (List.mem_of_getElem? (i := 12) rfl))) (Or.inr (hw _ (List.mem_of_getElem? (i := 10) rfl))) (by decide) (t := .long) (t' := .long) (by decide) (by decide)))
  have F6 := F_dead_a1.other W2 (Or.inr (slot_ne (Or.inr (hw _ (List.mem_of_getElem? (i := 14) rfl))) (Or.inr (hw _ (List.mem_of_getElem? (i := 10) rfl))) (by decide) (t := .long) (t' := .long) (by decide) (by decide)))
  have Z7 := Nat.le_trans Z0 (Keep.of_wr W2).1
  have K8 := K0.wr W2 (Or.inl (List.mem_of_getElem? (i := 0) rfl))
  refine own_st st2 ?_
  show own_G p.tables e below _ (T2.setTop (mkF m 9 #[.val (.ref a1), .val (.long q1), .second, .val (.long q2), .second, .val (.long q3), .second] []))
  refine own_st (fun _ k => XS.aloadN X2.here hx rfl (hb hby d1_9) rfl rfl k) ?_
  show own_G p.tables e below _ (T2.setTop (mkF m 10 #[.val (.ref a1), .val (.long q1), .second, .val (.long q2), .second, .val (.long q3), .second] [(.ref a1)]))
  refine own_st (fun _ k => XS.lloadN X2.here hx rfl (hb hby d1_10) rfl k) ?_
  show own_G p.tables e below _ (T2.setTop (mkF m 11 #[.val (.ref a1), .val (.long q1), .second, .val (.long q2), .second, .val (.long q3), .second] [(.long q2), (.ref a1)]))
  obtain ⟨T9, h9, X9, e9, W9, st9⟩ := putF X2 hx hZ hown (host := "") (Or.inl (hw _ (List.mem_of_getElem? (i := 11) rfl))) Via.refl e2 F5 E3 (Or.inr ⟨(hw _ (List.mem_of_getElem? (i := 12) rfl)), rfl, hnm⟩) (hw _ (List.mem_of_getElem? (i := 1) rfl)) (ty := .long) (by decide) rfl rfl (g := (mkF m 11 #[.val (.ref a1), .val (.long q1), .second, .val (.long q2), .second, .val (.long q3), .second] [(.long q2), (.ref a1)])) rfl rfl (hb hby d1_11)
  have N9 := Fr.snoc X9 N2 ge_a1
  have E10 := E3.wr W9
  have F11 := F4.other W9 (Or.inr (slot_ne (Or.inr (hw _ (List.mem_of_getElem? (i := 10) rfl))) (Or.inr (hw _ (List.mem_of_getElem? (i := 12) rfl))) (by decide) (t := .long) (t' := .long) (by decide) (by decide)))
  have F12 := F5.same W9
  have F13 := F6.other W9 (Or.inr (slot_ne (Or.inr (hw _ (List.mem_of_getElem? (i := 14) rfl))) (Or.inr (hw _ (List.mem_of_getElem? (i := 12) rfl))) (by decide) (t := .long) (t' := .long) (by decide) (by decide)))
  have Z14 := Nat.le_trans Z7 (Keep.of_wr W9).1
  have K15 := K8.wr W9 (Or.inl (List.mem_of_getElem? (i := 0) rfl))
  refine own_st st9 ?_
  show own_G p.tables e below _ (T9.setTop (mkF m 14 #[.val (.ref a1), .val (.long q1), .second, .val (.long q2), .second, .val (.long q3), .second] []))
  refine own_st (fun _ k => XS.aloadN X9.here hx rfl (hb hby d1_14) rfl rfl k) ?_
  show own_G p.tables e below _ (T9.setTop (mkF m 15 #[.val (.ref a1), .val (.long q1), .second, .val (.long q2), .second, .val (.long q3), .second] [(.ref a1)]))
  refine own_st (fun _ k => XS.lload X9.here hx rfl (hb hby d1_15) rfl k) ?_
  show own_G p.tables e below _ (T9.setTop (mkF m 17 #[.val (.ref a1), .val (.long q1), .second, .val (.long q2), .second, .val (.long q3), .second] [(.long q3), (.ref a1)]))
  obtain ⟨T16, h16, X16, e16, W16, st16⟩ := putF X9 hx hZ hown (host := "") (Or.inl (hw _ (List.mem_of_getElem? (i := 13) rfl))) Via.refl e9 F13 E10 (Or.inr ⟨(hw _ (List.mem_of_getElem? (i := 14) rfl)), rfl, hnm⟩) (hw _ (List.mem_of_getElem? (i := 1) rfl)) (ty := .long) (by decide) rfl rfl (g := (mkF m 17 #[.val (.ref a1), .val (.long q1), .second, .val (.long q2), .second, .val (.long q3), .second] [(.long q3), (.ref a1)])) rfl rfl (hb hby d1_17)
  have N16 := Fr.snoc X16 N9 ge_a1
  have E17 := E10.wr W16
  have F18 := F11.other W16 (Or.inr (slot_ne (Or.inr (hw _ (List.mem_of_getElem? (i := 10) rfl))) (Or.inr (hw _ (List.mem_of_getElem? (i := 14) rfl))) (by decide) (t := .long) (t' := .long) (by decide) (by decide)))
  have F19 := F12.other W16 (Or.inr (slot_ne (Or.inr (hw _ (List.mem_of_getElem? (i := 12) rfl))) (Or.inr (hw _ (List.mem_of_getElem? (i := 14) rfl))) (by decide) (t := .long) (t' := .long) (by decide) (by decide)))
  have F20 := F13.same W16
  have Z21 := Nat.le_trans Z14 (Keep.of_wr W16).1
  have K22 := K15.wr W16 (Or.inl (List.mem_of_getElem? (i := 0) rfl))
  refine own_st st16 ?_
  show own_G p.tables e below _ (T16.setTop (mkF m 20 #[.val (.ref a1), .val (.long q1), .second, .val (.long q2), .second, .val (.long q3), .second] []))
  exact own_retV X16 hx hlk Bd.returns (hb hby d1_20) (by rw [e16]; exact ⟨rfl, N16, K22, E17, F18, F19, F20⟩) (by decide) (by decide)
def Q4 (Z : State) (q1 : Int64) (h0 : Heap) (n0 : Nat) (v : Option Value) (h : Heap) (L : List Loc) : Prop := (∃ z : Int32, v = some (.int z) ∧ z = ((q1 ^^^ ((q1.toUInt64 >>> ((32 : Int32) &&& 0x3f).toInt64.toUInt64).toInt64)).toInt32)) ∧ Fr n0 L ∧ h = h0
set_option maxRecDepth 65536 in
set_option maxHeartbeats 40000000 in
theorem rm4 (l : Launch) (Z : State) (a0 : Array Value) (hw : ∀ d ∈ tables_1, d.before a0 Z = true) (ws : List Jvm.Cond) (q1 : Int64) (h0 : Heap) (n0 : Nat) (Z0 : n0 ≤ h0.size) :
    MetFree l (⟨"java/lang/Long", "hashCode", "(J)I"⟩ : MethodName) (head1 (Jvm.Cond.code (⟨"java/lang/Long", "hashCode", "(J)I"⟩ : MethodName) jdk_35_method_36_code 2 (some .int) :: ws) ({ frames := 0, cells := 0, slots := 0, locals := 0 } : Room)) (fun a U => a = #[(.long q1)] ∧ Z.Warmed39 U.vm ∧ U.heap = h0) (fun _ _ _ _ _ => True) (fun _ U o U' => ∃ v L, o = .returned v ∧ Q4 Z q1 h0 n0 v U'.heap L ∧ FrameEnd U o U' L ({ frames := 0, cells := 0, slots := 0, locals := 0 } : Room).cells ({ frames := 0, cells := 0, slots := 0, locals := 0 } : Room).slots) := by
  refine MetFree.of_bodySF (plainFor_of_name pn_4) hisR ?_
  intro p e s m args below meth c s₁ Bd hml0 hP hK
  obtain ⟨rfl, hZ, hh⟩ := hP
  have hx := Bd.exec
  have hby := Bd.bytes
  have hlk := BodyLoose.notSynchronized Bd
  have hml : c.maxLocals = 2 := hml0
  have hown : s.vm.findClass "java/lang/Long" = some m.cls := findClass_of_methodNamed Bd.named
  have hnm := (name_of_methodNamed Bd.named Bd.method).1
  have X0 : Stand p l e ({ frames := 0, cells := 0, slots := 0, locals := 0 } : Room) s m #[(.long q1)] below meth c s₁ [] 0 0 := Stand.of_body Bd
  have e0 : s₁.heap = h0 := by rw [← hh, Bd.state]; rfl
  have N0 := Fr.nil n0
  have K0 := Keep.refl h0 []
  show own_G p.tables e below (own_P s (Q4 Z q1 h0 n0) 0 0) (s₁.setTop (entryFrame m #[(.long q1)] 2))
  refine own_st (fun t k => castTop (ef_4 m q1) k) ?_
  show own_G p.tables e below _ (s₁.setTop (mkF m 0 #[.val (.long q1), .second] []))
  refine own_st (fun _ k => XS.lloadN X0.here hx rfl (hb hby d4_0) rfl k) ?_
  show own_G p.tables e below _ (s₁.setTop (mkF m 1 #[.val (.long q1), .second] [(.long q1)]))
  refine own_st (fun _ k => XS.lloadN X0.here hx rfl (hb hby d4_1) rfl k) ?_
  show own_G p.tables e below _ (s₁.setTop (mkF m 2 #[.val (.long q1), .second] [(.long q1), (.long q1)]))
  refine own_st (fun _ k => XS.bipush X0.here hx rfl (hb hby d4_2) k) ?_
  show own_G p.tables e below _ (s₁.setTop (mkF m 4 #[.val (.long q1), .second] [(.int (32 : Int32)), (.long q1), (.long q1)]))
  refine own_st (fun _ k => XS.lushr X0.here hx rfl (hb hby d4_4) rfl k) ?_
  show own_G p.tables e below _ (s₁.setTop (mkF m 5 #[.val (.long q1), .second] [(.long ((q1.toUInt64 >>> ((32 : Int32) &&& 0x3f).toInt64.toUInt64).toInt64)), (.long q1)]))
  refine own_st (fun _ k => XS.lxor X0.here hx rfl (hb hby d4_5) rfl k) ?_
  show own_G p.tables e below _ (s₁.setTop (mkF m 6 #[.val (.long q1), .second] [(.long (q1 ^^^ ((q1.toUInt64 >>> ((32 : Int32) &&& 0x3f).toInt64.toUInt64).toInt64)))]))
  refine own_st (fun _ k => XS.l2i X0.here hx rfl (hb hby d4_6) rfl k) ?_
  show own_G p.tables e below _ (s₁.setTop (mkF m 7 #[.val (.long q1), .second] [(.int ((q1 ^^^ ((q1.toUInt64 >>> ((32 : Int32) &&& 0x3f).toInt64.toUInt64).toInt64)).toInt32))]))
  exact own_retI X0 hx hlk Bd.returns (hb hby d4_7) (by rw [e0]; exact ⟨⟨_, rfl, rfl⟩, N0, rfl⟩) (by decide) (by decide)
def Q3 (Z : State) (a1 : Addr) (u_waiting_a1 : Int64) (u_inFlight_a1 : Int64) (u_dead_a1 : Int64) (h0 : Heap) (n0 : Nat) (v : Option Value) (h : Heap) (L : List Loc) : Prop := (∃ z : Int32, v = some (.int z) ∧ z = ((((((u_waiting_a1 ^^^ ((u_waiting_a1.toUInt64 >>> ((32 : Int32) &&& 0x3f).toInt64.toUInt64).toInt64)).toInt32) * (31 : Int32)) + ((u_inFlight_a1 ^^^ ((u_inFlight_a1.toUInt64 >>> ((32 : Int32) &&& 0x3f).toInt64.toUInt64).toInt64)).toInt32)) * (31 : Int32)) + ((u_dead_a1 ^^^ ((u_dead_a1.toUInt64 >>> ((32 : Int32) &&& 0x3f).toInt64.toUInt64).toInt64)).toInt32))) ∧ Fr n0 L ∧ h = h0
set_option maxRecDepth 65536 in
set_option maxHeartbeats 40000000 in
theorem rm3 (l : Launch) (Z : State) (a0 : Array Value) (hw : ∀ d ∈ tables_1, d.before a0 Z = true) (ws : List Jvm.Cond) (a1 : Addr) (u_waiting_a1 : Int64) (u_inFlight_a1 : Int64) (u_dead_a1 : Int64) (h0 : Heap) (n0 : Nat) (Z0 : n0 ≤ h0.size) (F_waiting_a1 : Fld Z h0 a1 "com/example/timed_queue/timedqueue/model/QueueCounts" "waiting" "J" (.long u_waiting_a1)) (F_inFlight_a1 : Fld Z h0 a1 "com/example/timed_queue/timedqueue/model/QueueCounts" "inFlight" "J" (.long u_inFlight_a1)) (F_dead_a1 : Fld Z h0 a1 "com/example/timed_queue/timedqueue/model/QueueCounts" "dead" "J" (.long u_dead_a1)) (E_a1 : Exa Z h0 a1 "com/example/timed_queue/timedqueue/model/QueueCounts") :
    MetFree l (⟨"com/example/timed_queue/timedqueue/model/QueueCounts", "hashCode", "()I"⟩ : MethodName) (head1 (Jvm.Cond.code (⟨"com/example/timed_queue/timedqueue/model/QueueCounts", "hashCode", "()I"⟩ : MethodName) prog_11_method_6_code 1 (some .int) :: ws) ({ frames := 1, cells := 0, slots := 0, locals := 14 } : Room)) (fun a U => a = #[(.ref a1)] ∧ Z.Warmed39 U.vm ∧ U.heap = h0) (fun _ _ _ _ _ => True) (fun _ U o U' => ∃ v L, o = .returned v ∧ Q3 Z a1 u_waiting_a1 u_inFlight_a1 u_dead_a1 h0 n0 v U'.heap L ∧ FrameEnd U o U' L ({ frames := 1, cells := 0, slots := 0, locals := 14 } : Room).cells ({ frames := 1, cells := 0, slots := 0, locals := 14 } : Room).slots) := by
  refine MetFree.of_bodySF (plainFor_of_name pn_3) hisR ?_
  intro p e s m args below meth c s₁ Bd hml0 hP hK
  obtain ⟨rfl, hZ, hh⟩ := hP
  have hx := Bd.exec
  have hby := Bd.bytes
  have hlk := BodyLoose.notSynchronized Bd
  have hml : c.maxLocals = 1 := hml0
  have hown : s.vm.findClass "com/example/timed_queue/timedqueue/model/QueueCounts" = some m.cls := findClass_of_methodNamed Bd.named
  have hnm := (name_of_methodNamed Bd.named Bd.method).1
  have X0 : Stand p l e ({ frames := 1, cells := 0, slots := 0, locals := 14 } : Room) s m #[(.ref a1)] below meth c s₁ [] 0 0 := Stand.of_body Bd
  have e0 : s₁.heap = h0 := by rw [← hh, Bd.state]; rfl
  have N0 := Fr.nil n0
  have K0 := Keep.refl h0 []
  show own_G p.tables e below (own_P s (Q3 Z a1 u_waiting_a1 u_inFlight_a1 u_dead_a1 h0 n0) 0 0) (s₁.setTop (entryFrame m #[(.ref a1)] 1))
  refine own_st (fun t k => castTop (ef_3 m a1) k) ?_
  show own_G p.tables e below _ (s₁.setTop (mkF m 0 #[.val (.ref a1)] []))
  refine own_st (fun _ k => XS.aloadN X0.here hx rfl (hb hby d3_0) rfl rfl k) ?_
  show own_G p.tables e below _ (s₁.setTop (mkF m 1 #[.val (.ref a1)] [(.ref a1)]))
  obtain ⟨T1, X1, e1, st1⟩ := getF X0 hx hZ hown (host := "") (Or.inl (hw _ (List.mem_of_getElem? (i := 9) rfl))) Via.refl e0 F_waiting_a1 (g := (mkF m 1 #[.val (.ref a1)] [(.ref a1)])) rfl rfl (hb hby d3_1)
  refine own_st st1 ?_
  show own_G p.tables e below _ (T1.setTop (mkF m 4 #[.val (.ref a1)] [(.long u_waiting_a1)]))
  obtain ⟨_, _, ⟨T2, L2, k2, n2⟩, -, X2, ⟨Lc2, hQ2, l2, y2, z2⟩, st2⟩ := Jvm.LawKit.callS X1 hx (y := (⟨"java/lang/Long", "hashCode", "(J)I"⟩ : MethodName)) hown (mvT hZ (hw _ (List.mem_of_getElem? (i := 20) rfl))) (mvT hZ (hw _ (List.mem_of_getElem? (i := 21) rfl))) (mvT hZ (hw _ (List.mem_of_getElem? (i := 22) rfl))) (mvT hZ (hw _ (List.mem_of_getElem? (i := 23) rfl))) (by decide) (backOf (W := 0) (rm4 l Z a0 hw [] u_waiting_a1 h0 n0 Z0 ) hZ (hw _ (List.mem_of_getElem? (i := 23) rfl)) (hw _ (List.mem_of_getElem? (i := 22) rfl)) (by decide) (by decide)) (g := (mkF m 4 #[.val (.ref a1)] [(.long u_waiting_a1)])) rfl (by rw [hml]; rfl) (argsL := [(.long u_waiting_a1)]) (rest := []) (lenOf pd_0 rfl) rfl (by show 2 * 0 + _ ≤ _; exact Nat.le_of_eq rfl) (hb hby d3_4) (fun _ _ => ⟨rfl, e1, (by decide : 0 + 0 ≤ _), (by decide : 0 + 0 ≤ _)⟩)
  dsimp only [Pt.U, Pt.locs, Pt.cells, Pt.slots] at X2 l2 y2 z2 st2 hQ2
  subst l2 y2 z2
  obtain ⟨⟨r2, rfl, hr2⟩, N2q, e2⟩ := hQ2
  have N2 := Fr.app N0 N2q
  refine own_st st2 ?_
  show own_G p.tables e below _ (T2.setTop (mkF m 7 #[.val (.ref a1)] [(.int r2)]))
  refine own_st (fun _ k => XS.bipush X2.here hx rfl (hb hby d3_7) k) ?_
  show own_G p.tables e below _ (T2.setTop (mkF m 9 #[.val (.ref a1)] [(.int (31 : Int32)), (.int r2)]))
  refine own_st (fun _ k => XS.imul X2.here hx rfl (hb hby d3_9) rfl k) ?_
  show own_G p.tables e below _ (T2.setTop (mkF m 10 #[.val (.ref a1)] [(.int (r2 * (31 : Int32)))]))
  refine own_st (fun _ k => XS.aloadN X2.here hx rfl (hb hby d3_10) rfl rfl k) ?_
  show own_G p.tables e below _ (T2.setTop (mkF m 11 #[.val (.ref a1)] [(.ref a1), (.int (r2 * (31 : Int32)))]))
  obtain ⟨T3, X3, e3, st3⟩ := getF X2 hx hZ hown (host := "") (Or.inl (hw _ (List.mem_of_getElem? (i := 11) rfl))) Via.refl e2 F_inFlight_a1 (g := (mkF m 11 #[.val (.ref a1)] [(.ref a1), (.int (r2 * (31 : Int32)))])) rfl rfl (hb hby d3_11)
  refine own_st st3 ?_
  show own_G p.tables e below _ (T3.setTop (mkF m 14 #[.val (.ref a1)] [(.long u_inFlight_a1), (.int (r2 * (31 : Int32)))]))
  obtain ⟨_, _, ⟨T4, L4, k4, n4⟩, -, X4, ⟨Lc4, hQ4, l4, y4, z4⟩, st4⟩ := Jvm.LawKit.callS X3 hx (y := (⟨"java/lang/Long", "hashCode", "(J)I"⟩ : MethodName)) hown (mvT hZ (hw _ (List.mem_of_getElem? (i := 20) rfl))) (mvT hZ (hw _ (List.mem_of_getElem? (i := 21) rfl))) (mvT hZ (hw _ (List.mem_of_getElem? (i := 22) rfl))) (mvT hZ (hw _ (List.mem_of_getElem? (i := 23) rfl))) (by decide) (backOf (W := 1) (rm4 l Z a0 hw [] u_inFlight_a1 h0 n0 Z0 ) hZ (hw _ (List.mem_of_getElem? (i := 23) rfl)) (hw _ (List.mem_of_getElem? (i := 22) rfl)) (by decide) (by decide)) (g := (mkF m 14 #[.val (.ref a1)] [(.long u_inFlight_a1), (.int (r2 * (31 : Int32)))])) rfl (by rw [hml]; rfl) (argsL := [(.long u_inFlight_a1)]) (rest := [(.int (r2 * (31 : Int32)))]) (lenOf pd_0 rfl) rfl (by show 2 * 0 + _ ≤ _; exact Nat.le_of_eq rfl) (hb hby d3_14) (fun _ _ => ⟨rfl, e3, (by decide : 0 + 0 ≤ _), (by decide : 0 + 0 ≤ _)⟩)
  dsimp only [Pt.U, Pt.locs, Pt.cells, Pt.slots] at X4 l4 y4 z4 st4 hQ4
  subst l4 y4 z4
  obtain ⟨⟨r4, rfl, hr4⟩, N4q, e4⟩ := hQ4
  have N4 := Fr.app N2 N4q
  refine own_st st4 ?_
  show own_G p.tables e below _ (T4.setTop (mkF m 17 #[.val (.ref a1)] [(.int r4), (.int (r2 * (31 : Int32)))]))
  refine own_st (fun _ k => XS.iadd X4.here hx rfl (hb hby d3_17) rfl k) ?_
  show own_G p.tables e below _ (T4.setTop (mkF m 18 #[.val (.ref a1)] [(.int ((r2 * (31 : Int32)) + r4))]))
  refine own_st (fun _ k => XS.bipush X4.here hx rfl (hb hby d3_18) k) ?_
  show own_G p.tables e below _ (T4.setTop (mkF m 20 #[.val (.ref a1)] [(.int (31 : Int32)), (.int ((r2 * (31 : Int32)) + r4))]))
  refine own_st (fun _ k => XS.imul X4.here hx rfl (hb hby d3_20) rfl k) ?_
  show own_G p.tables e below _ (T4.setTop (mkF m 21 #[.val (.ref a1)] [(.int (((r2 * (31 : Int32)) + r4) * (31 : Int32)))]))
  refine own_st (fun _ k => XS.aloadN X4.here hx rfl (hb hby d3_21) rfl rfl k) ?_
  show own_G p.tables e below _ (T4.setTop (mkF m 22 #[.val (.ref a1)] [(.ref a1), (.int (((r2 * (31 : Int32)) + r4) * (31 : Int32)))]))
  obtain ⟨T5, X5, e5, st5⟩ := getF X4 hx hZ hown (host := "") (Or.inl (hw _ (List.mem_of_getElem? (i := 13) rfl))) Via.refl e4 F_dead_a1 (g := (mkF m 22 #[.val (.ref a1)] [(.ref a1), (.int (((r2 * (31 : Int32)) + r4) * (31 : Int32)))])) rfl rfl (hb hby d3_22)
  refine own_st st5 ?_
  show own_G p.tables e below _ (T5.setTop (mkF m 25 #[.val (.ref a1)] [(.long u_dead_a1), (.int (((r2 * (31 : Int32)) + r4) * (31 : Int32)))]))
  obtain ⟨_, _, ⟨T6, L6, k6, n6⟩, -, X6, ⟨Lc6, hQ6, l6, y6, z6⟩, st6⟩ := Jvm.LawKit.callS X5 hx (y := (⟨"java/lang/Long", "hashCode", "(J)I"⟩ : MethodName)) hown (mvT hZ (hw _ (List.mem_of_getElem? (i := 20) rfl))) (mvT hZ (hw _ (List.mem_of_getElem? (i := 21) rfl))) (mvT hZ (hw _ (List.mem_of_getElem? (i := 22) rfl))) (mvT hZ (hw _ (List.mem_of_getElem? (i := 23) rfl))) (by decide) (backOf (W := 1) (rm4 l Z a0 hw [] u_dead_a1 h0 n0 Z0 ) hZ (hw _ (List.mem_of_getElem? (i := 23) rfl)) (hw _ (List.mem_of_getElem? (i := 22) rfl)) (by decide) (by decide)) (g := (mkF m 25 #[.val (.ref a1)] [(.long u_dead_a1), (.int (((r2 * (31 : Int32)) + r4) * (31 : Int32)))])) rfl (by rw [hml]; rfl) (argsL := [(.long u_dead_a1)]) (rest := [(.int (((r2 * (31 : Int32)) + r4) * (31 : Int32)))]) (lenOf pd_0 rfl) rfl (by show 2 * 0 + _ ≤ _; exact Nat.le_of_eq rfl) (hb hby d3_25) (fun _ _ => ⟨rfl, e5, (by decide : 0 + 0 ≤ _), (by decide : 0 + 0 ≤ _)⟩)
  dsimp only [Pt.U, Pt.locs, Pt.cells, Pt.slots] at X6 l6 y6 z6 st6 hQ6
  subst l6 y6 z6
  obtain ⟨⟨r6, rfl, hr6⟩, N6q, e6⟩ := hQ6
  have N6 := Fr.app N4 N6q
  refine own_st st6 ?_
  show own_G p.tables e below _ (T6.setTop (mkF m 28 #[.val (.ref a1)] [(.int r6), (.int (((r2 * (31 : Int32)) + r4) * (31 : Int32)))]))
  refine own_st (fun _ k => XS.iadd X6.here hx rfl (hb hby d3_28) rfl k) ?_
  show own_G p.tables e below _ (T6.setTop (mkF m 29 #[.val (.ref a1)] [(.int ((((r2 * (31 : Int32)) + r4) * (31 : Int32)) + r6))]))
  exact own_retI X6 hx hlk Bd.returns (hb hby d3_29) (by rw [e6]; exact ⟨⟨_, rfl, (by subst hr6; subst hr4; subst hr2; exact rfl)⟩, N6, rfl⟩) (by decide) (by decide)
def Q5 (Z : State) (q1 : Int64) (h0 : Heap) (n0 : Nat) (v : Option Value) (h : Heap) (L : List Loc) : Prop := (∃ z : Int32, v = some (.int z) ∧ z = ((q1 ^^^ ((q1.toUInt64 >>> ((32 : Int32) &&& 0x3f).toInt64.toUInt64).toInt64)).toInt32)) ∧ Fr n0 L ∧ h = h0
set_option maxRecDepth 65536 in
set_option maxHeartbeats 40000000 in
theorem rm5 (l : Launch) (Z : State) (a0 : Array Value) (hw : ∀ d ∈ tables_1, d.before a0 Z = true) (ws : List Jvm.Cond) (q1 : Int64) (h0 : Heap) (n0 : Nat) (Z0 : n0 ≤ h0.size) :
    MetFree l (⟨"com/example/timed_queue/timedqueue/model/QueueCountsHashCodePinLaw", "lh", "(J)I"⟩ : MethodName) (head1 (Jvm.Cond.code (⟨"com/example/timed_queue/timedqueue/model/QueueCountsHashCodePinLaw", "lh", "(J)I"⟩ : MethodName) method_2_code 2 (some .int) :: ws) ({ frames := 0, cells := 0, slots := 0, locals := 0 } : Room)) (fun a U => a = #[(.long q1)] ∧ Z.Warmed39 U.vm ∧ U.heap = h0) (fun _ _ _ _ _ => True) (fun _ U o U' => ∃ v L, o = .returned v ∧ Q5 Z q1 h0 n0 v U'.heap L ∧ FrameEnd U o U' L ({ frames := 0, cells := 0, slots := 0, locals := 0 } : Room).cells ({ frames := 0, cells := 0, slots := 0, locals := 0 } : Room).slots) := by
  refine MetFree.of_bodySF (plainFor_of_name pn_5) hisR ?_
  intro p e s m args below meth c s₁ Bd hml0 hP hK
  obtain ⟨rfl, hZ, hh⟩ := hP
  have hx := Bd.exec
  have hby := Bd.bytes
  have hlk := BodyLoose.notSynchronized Bd
  have hml : c.maxLocals = 2 := hml0
  have hown : s.vm.findClass "com/example/timed_queue/timedqueue/model/QueueCountsHashCodePinLaw" = some m.cls := findClass_of_methodNamed Bd.named
  have hnm := (name_of_methodNamed Bd.named Bd.method).1
  have X0 : Stand p l e ({ frames := 0, cells := 0, slots := 0, locals := 0 } : Room) s m #[(.long q1)] below meth c s₁ [] 0 0 := Stand.of_body Bd
  have e0 : s₁.heap = h0 := by rw [← hh, Bd.state]; rfl
  have N0 := Fr.nil n0
  have K0 := Keep.refl h0 []
  show own_G p.tables e below (own_P s (Q5 Z q1 h0 n0) 0 0) (s₁.setTop (entryFrame m #[(.long q1)] 2))
  refine own_st (fun t k => castTop (ef_5 m q1) k) ?_
  show own_G p.tables e below _ (s₁.setTop (mkF m 0 #[.val (.long q1), .second] []))
  refine own_st (fun _ k => XS.lloadN X0.here hx rfl (hb hby d5_0) rfl k) ?_
  show own_G p.tables e below _ (s₁.setTop (mkF m 1 #[.val (.long q1), .second] [(.long q1)]))
  refine own_st (fun _ k => XS.lloadN X0.here hx rfl (hb hby d5_1) rfl k) ?_
  show own_G p.tables e below _ (s₁.setTop (mkF m 2 #[.val (.long q1), .second] [(.long q1), (.long q1)]))
  refine own_st (fun _ k => XS.bipush X0.here hx rfl (hb hby d5_2) k) ?_
  show own_G p.tables e below _ (s₁.setTop (mkF m 4 #[.val (.long q1), .second] [(.int (32 : Int32)), (.long q1), (.long q1)]))
  refine own_st (fun _ k => XS.lushr X0.here hx rfl (hb hby d5_4) rfl k) ?_
  show own_G p.tables e below _ (s₁.setTop (mkF m 5 #[.val (.long q1), .second] [(.long ((q1.toUInt64 >>> ((32 : Int32) &&& 0x3f).toInt64.toUInt64).toInt64)), (.long q1)]))
  refine own_st (fun _ k => XS.lxor X0.here hx rfl (hb hby d5_5) rfl k) ?_
  show own_G p.tables e below _ (s₁.setTop (mkF m 6 #[.val (.long q1), .second] [(.long (q1 ^^^ ((q1.toUInt64 >>> ((32 : Int32) &&& 0x3f).toInt64.toUInt64).toInt64)))]))
  refine own_st (fun _ k => XS.l2i X0.here hx rfl (hb hby d5_6) rfl k) ?_
  show own_G p.tables e below _ (s₁.setTop (mkF m 7 #[.val (.long q1), .second] [(.int ((q1 ^^^ ((q1.toUInt64 >>> ((32 : Int32) &&& 0x3f).toInt64.toUInt64).toInt64)).toInt32))]))
  exact own_retI X0 hx hlk Bd.returns (hb hby d5_7) (by rw [e0]; exact ⟨⟨_, rfl, rfl⟩, N0, rfl⟩) (by decide) (by decide)
def Q0 (n0 : Nat) (v : Option Value) (h : Heap) (L : List Loc) : Prop := v = some (.int 1) ∧ Fr n0 L
set_option maxRecDepth 65536 in
set_option maxHeartbeats 40000000 in
theorem rm0 (l : Launch) (Z : State) (a0 : Array Value) (hw : ∀ d ∈ tables_1, d.before a0 Z = true) (ws : List Jvm.Cond) (i0 : Int64) (i1 : Int64) (i2 : Int64) (h0 : Heap) (n0 : Nat) (Z0 : n0 ≤ h0.size) :
    MetFree l x (head1 (Jvm.Cond.code x code maxLocals ret :: ws) room_1) (fun a U => a = #[(.long i0), (.long i1), (.long i2)] ∧ Z.Warmed39 U.vm ∧ U.heap = h0) (fun _ _ _ _ _ => True) (fun _ U o U' => ∃ v L, o = .returned v ∧ Q0 n0 v U'.heap L ∧ FrameEnd U o U' L 16 128) := by
  refine MetFree.of_bodySF (plainFor_of_name pn_0) hisR ?_
  intro p e s m args below meth c s₁ Bd hml0 hP hK
  obtain ⟨rfl, hZ, hh⟩ := hP
  have hx := Bd.exec
  have hby := Bd.bytes
  have hlk := BodyLoose.notSynchronized Bd
  have hml : c.maxLocals = 14 := hml0
  have hown : s.vm.findClass "com/example/timed_queue/timedqueue/model/QueueCountsHashCodePinLaw" = some m.cls := findClass_of_methodNamed Bd.named
  have hnm := (name_of_methodNamed Bd.named Bd.method).1
  have X0 : Stand p l e room_1 s m #[(.long i0), (.long i1), (.long i2)] below meth c s₁ [] 0 0 := Stand.of_body Bd
  have e0 : s₁.heap = h0 := by rw [← hh, Bd.state]; rfl
  have N0 := Fr.nil n0
  have K0 := Keep.refl h0 []
  show own_G p.tables e below (own_P s (Q0 n0) 16 128) (s₁.setTop (entryFrame m #[(.long i0), (.long i1), (.long i2)] maxLocals))
  refine own_st (fun t k => castTop (ef_0 m i0 i1 i2) k) ?_
  show own_G p.tables e below _ (s₁.setTop (mkF m 0 #[.val (.long i0), .second, .val (.long i1), .second, .val (.long i2), .second, .unset, .unset, .unset, .unset, .unset, .unset, .unset, .unset] []))
  obtain ⟨T1, h1, X1, e1, E1, A1, D1, -, st1⟩ := newO X0 hx hZ hown (hw _ (List.mem_of_getElem? (i := 0) rfl)) (hw _ (List.mem_of_getElem? (i := 1) rfl)) (hw _ (List.mem_of_getElem? (i := 2) rfl)) e0 (g := (mkF m 0 #[.val (.long i0), .second, .val (.long i1), .second, .val (.long i2), .second, .unset, .unset, .unset, .unset, .unset, .unset, .unset, .unset] [])) rfl (hb hby at_0) (by decide) (by decide)
  obtain ⟨b1, g1⟩ : ∃ z, z = h0.size := ⟨_, rfl⟩
  rw [← g1] at A1 D1 st1
  have ge_b1 : n0 ≤ b1 := Nat.le_trans Z0 (Nat.le_of_eq g1.symm)
  have Z2 := Nat.le_trans Z0 E1.1
  have F3 : Fld Z h1 b1 "com/example/timed_queue/timedqueue/model/QueueCounts" "waiting" "J" (.long (0 : Int64)) := D1 (Or.inr (hw _ (List.mem_of_getElem? (i := 10) rfl))) (ty := .long) (by decide)
  have F4 : Fld Z h1 b1 "com/example/timed_queue/timedqueue/model/QueueCounts" "inFlight" "J" (.long (0 : Int64)) := D1 (Or.inr (hw _ (List.mem_of_getElem? (i := 12) rfl))) (ty := .long) (by decide)
  have F5 : Fld Z h1 b1 "com/example/timed_queue/timedqueue/model/QueueCounts" "dead" "J" (.long (0 : Int64)) := D1 (Or.inr (hw _ (List.mem_of_getElem? (i := 14) rfl))) (ty := .long) (by decide)
  refine own_st st1 ?_
  show own_G p.tables e below _ (T1.setTop (mkF m 3 #[.val (.long i0), .second, .val (.long i1), .second, .val (.long i2), .second, .unset, .unset, .unset, .unset, .unset, .unset, .unset, .unset] [(.ref b1)]))
  refine own_st (fun _ k => XS.dup X1.here hx rfl (hb hby at_3) rfl rfl k) ?_
  show own_G p.tables e below _ (T1.setTop (mkF m 4 #[.val (.long i0), .second, .val (.long i1), .second, .val (.long i2), .second, .unset, .unset, .unset, .unset, .unset, .unset, .unset, .unset] [(.ref b1), (.ref b1)]))
  refine own_st (fun _ k => XS.lloadN X1.here hx rfl (hb hby at_4) rfl k) ?_
  show own_G p.tables e below _ (T1.setTop (mkF m 5 #[.val (.long i0), .second, .val (.long i1), .second, .val (.long i2), .second, .unset, .unset, .unset, .unset, .unset, .unset, .unset, .unset] [(.long i0), (.ref b1), (.ref b1)]))
  refine own_st (fun _ k => XS.lloadN X1.here hx rfl (hb hby at_5) rfl k) ?_
  show own_G p.tables e below _ (T1.setTop (mkF m 6 #[.val (.long i0), .second, .val (.long i1), .second, .val (.long i2), .second, .unset, .unset, .unset, .unset, .unset, .unset, .unset, .unset] [(.long i1), (.long i0), (.ref b1), (.ref b1)]))
  refine own_st (fun _ k => XS.lload X1.here hx rfl (hb hby at_6) rfl k) ?_
  show own_G p.tables e below _ (T1.setTop (mkF m 8 #[.val (.long i0), .second, .val (.long i1), .second, .val (.long i2), .second, .unset, .unset, .unset, .unset, .unset, .unset, .unset, .unset] [(.long i2), (.long i1), (.long i0), (.ref b1), (.ref b1)]))
  obtain ⟨_, _, ⟨T6, L6, k6, n6⟩, -, X6, ⟨Lc6, hQ6, l6, y6, z6⟩, st6⟩ := X1.specialBack hx (y := (⟨"com/example/timed_queue/timedqueue/model/QueueCounts", "<init>", "(JJJ)V"⟩ : MethodName)) rfl hown (mvT hZ (hw _ (List.mem_of_getElem? (i := 3) rfl))) (mvT hZ (hw _ (List.mem_of_getElem? (i := 4) rfl))) (mvT hZ (hw _ (List.mem_of_getElem? (i := 5) rfl))) (by decide) (backOf (W := 1) (rm1 l Z a0 hw [] b1 i0 i1 i2 (0 : Int64) (0 : Int64) (0 : Int64) h1 n0 Z2 F3 F4 F5 A1 ge_b1) hZ (hw _ (List.mem_of_getElem? (i := 5) rfl)) (hw _ (List.mem_of_getElem? (i := 2) rfl)) (by decide) (by decide)) (g := (mkF m 8 #[.val (.long i0), .second, .val (.long i1), .second, .val (.long i2), .second, .unset, .unset, .unset, .unset, .unset, .unset, .unset, .unset] [(.long i2), (.long i1), (.long i0), (.ref b1), (.ref b1)])) rfl (by rw [hml]; rfl) (Steps.refl _) (a := b1) (argsL := [(.long i0), (.long i1), (.long i2)]) (rest := [(.ref b1)]) (lenOf pd_1 rfl) rfl (by show 2 * 0 + _ ≤ _; exact Nat.le_of_eq rfl) (hb hby at_8) (fun _ _ => ⟨rfl, e1, (by decide : 1 + 0 ≤ _), (by decide : 3 + 0 ≤ _)⟩)
  dsimp only [Pt.U, Pt.locs, Pt.cells, Pt.slots] at X6 l6 y6 z6 st6 hQ6
  subst l6 y6 z6
  obtain ⟨rfl, N6q, K6q, E7, F8, F9, F10⟩ := hQ6
  have N6 := Fr.app N0 N6q
  have Z12 := Nat.le_trans Z2 K6q.1
  refine own_st (fun _ k => st6.trans k) ?_
  show own_G p.tables e below _ (T6.setTop (mkF m 11 #[.val (.long i0), .second, .val (.long i1), .second, .val (.long i2), .second, .unset, .unset, .unset, .unset, .unset, .unset, .unset, .unset] [(.ref b1)]))
  obtain ⟨cq16, kq16, q16a, q16b, q16c⟩ := isOf hZ rfl E7
  obtain ⟨_, _, ⟨T16, L16, k16, n16⟩, -, X16, ⟨Lc16, hQ16, l16, y16, z16⟩, st16⟩ := X6.virtualBack hx (y := (⟨"com/example/timed_queue/timedqueue/model/QueueCounts", "hashCode", "()I"⟩ : MethodName)) (z := (⟨"com/example/timed_queue/timedqueue/model/QueueCounts", "hashCode", "()I"⟩ : MethodName)) hown (mvT hZ (hw _ (List.mem_of_getElem? (i := 15) rfl))) (mvT hZ (hw _ (List.mem_of_getElem? (i := 16) rfl))) (notFace_of_selects (args := #[]) (mvT hZ (hw _ (List.mem_of_getElem? (i := 18) rfl)))) (mvT hZ (hw _ (List.mem_of_getElem? (i := 18) rfl))) (mvT hZ (hw _ (List.mem_of_getElem? (i := 17) rfl))) (by decide) (backOf (W := 0) (rm3 l Z a0 hw [] b1 i0 i1 i2 T6.heap n0 Z12 F8 F9 F10 E7) hZ (hw _ (List.mem_of_getElem? (i := 19) rfl)) (hw _ (List.mem_of_getElem? (i := 2) rfl)) (by decide) (by decide)) q16a q16c (g := (mkF m 11 #[.val (.long i0), .second, .val (.long i1), .second, .val (.long i2), .second, .unset, .unset, .unset, .unset, .unset, .unset, .unset, .unset] [(.ref b1)])) rfl (by rw [hml]; rfl) (Steps.refl _) (argsL := []) (rest := []) (lenOf pd_2 rfl) rfl (by show 2 * 0 + _ ≤ _; exact Nat.le_of_eq rfl) (hb hby at_11) (fun _ _ => ⟨rfl, rfl, (by decide : 1 + 0 ≤ _), (by decide : 3 + 0 ≤ _)⟩)
  dsimp only [Pt.U, Pt.locs, Pt.cells, Pt.slots] at X16 l16 y16 z16 st16 hQ16
  subst l16 y16 z16
  obtain ⟨⟨r16, rfl, hr16⟩, N16q, e16⟩ := hQ16
  have N16 := Fr.app N6 N16q
  refine own_st (fun _ k => st16.trans k) ?_
  show own_G p.tables e below _ (T16.setTop (mkF m 14 #[.val (.long i0), .second, .val (.long i1), .second, .val (.long i2), .second, .unset, .unset, .unset, .unset, .unset, .unset, .unset, .unset] [(.int r16)]))
  refine own_st (fun _ k => XS.istore X16.here hx rfl (hb hby at_14) rfl (l' := #[.val (.long i0), .second, .val (.long i1), .second, .val (.long i2), .second, .val (.int r16), .unset, .unset, .unset, .unset, .unset, .unset, .unset]) rfl k) ?_
  show own_G p.tables e below _ (T16.setTop (mkF m 16 #[.val (.long i0), .second, .val (.long i1), .second, .val (.long i2), .second, .val (.int r16), .unset, .unset, .unset, .unset, .unset, .unset, .unset] []))
  obtain ⟨T17, h17, X17, e17, E17, A17, D17, -, st17⟩ := newO X16 hx hZ hown (hw _ (List.mem_of_getElem? (i := 0) rfl)) (hw _ (List.mem_of_getElem? (i := 1) rfl)) (hw _ (List.mem_of_getElem? (i := 2) rfl)) e16 (g := (mkF m 16 #[.val (.long i0), .second, .val (.long i1), .second, .val (.long i2), .second, .val (.int r16), .unset, .unset, .unset, .unset, .unset, .unset, .unset] [])) rfl (hb hby at_16) (by decide) (by decide)
  obtain ⟨b17, g17⟩ : ∃ z, z = T6.heap.size := ⟨_, rfl⟩
  rw [← g17] at A17 D17 st17
  have ge_b17 : n0 ≤ b17 := Nat.le_trans Z12 (Nat.le_of_eq g17.symm)
  have ne_b1_b17 : b1 ≠ b17 := fun q => Nat.lt_irrefl _ (Nat.lt_of_lt_of_eq E7.lt (g17.symm.trans q.symm))
  have E18 := E7.ext E17
  have F19 := F8.ext E17
  have F20 := F9.ext E17
  have F21 := F10.ext E17
  have Z22 := Nat.le_trans Z12 E17.1
  have F23 : Fld Z h17 b17 "com/example/timed_queue/timedqueue/model/QueueCounts" "waiting" "J" (.long (0 : Int64)) := D17 (Or.inr (hw _ (List.mem_of_getElem? (i := 10) rfl))) (ty := .long) (by decide)
  have F24 : Fld Z h17 b17 "com/example/timed_queue/timedqueue/model/QueueCounts" "inFlight" "J" (.long (0 : Int64)) := D17 (Or.inr (hw _ (List.mem_of_getElem? (i := 12) rfl))) (ty := .long) (by decide)
  have F25 : Fld Z h17 b17 "com/example/timed_queue/timedqueue/model/QueueCounts" "dead" "J" (.long (0 : Int64)) := D17 (Or.inr (hw _ (List.mem_of_getElem? (i := 14) rfl))) (ty := .long) (by decide)
  refine own_st st17 ?_
  show own_G p.tables e below _ (T17.setTop (mkF m 19 #[.val (.long i0), .second, .val (.long i1), .second, .val (.long i2), .second, .val (.int r16), .unset, .unset, .unset, .unset, .unset, .unset, .unset] [(.ref b17)]))
  refine own_st (fun _ k => XS.dup X17.here hx rfl (hb hby at_19) rfl rfl k) ?_
  show own_G p.tables e below _ (T17.setTop (mkF m 20 #[.val (.long i0), .second, .val (.long i1), .second, .val (.long i2), .second, .val (.int r16), .unset, .unset, .unset, .unset, .unset, .unset, .unset] [(.ref b17), (.ref b17)]))
  refine own_st (fun _ k => XS.lloadN X17.here hx rfl (hb hby at_20) rfl k) ?_
  show own_G p.tables e below _ (T17.setTop (mkF m 21 #[.val (.long i0), .second, .val (.long i1), .second, .val (.long i2), .second, .val (.int r16), .unset, .unset, .unset, .unset, .unset, .unset, .unset] [(.long i0), (.ref b17), (.ref b17)]))
  refine own_st (fun _ k => XS.lconst X17.here hx rfl (hb hby at_21) k) ?_
  show own_G p.tables e below _ (T17.setTop (mkF m 22 #[.val (.long i0), .second, .val (.long i1), .second, .val (.long i2), .second, .val (.int r16), .unset, .unset, .unset, .unset, .unset, .unset, .unset] [(.long (0 : Int64)), (.long i0), (.ref b17), (.ref b17)]))
  refine own_st (fun _ k => XS.lconst X17.here hx rfl (hb hby at_22) k) ?_
  show own_G p.tables e below _ (T17.setTop (mkF m 23 #[.val (.long i0), .second, .val (.long i1), .second, .val (.long i2), .second, .val (.int r16), .unset, .unset, .unset, .unset, .unset, .unset, .unset] [(.long (0 : Int64)), (.long (0 : Int64)), (.long i0), (.ref b17), (.ref b17)]))
  obtain ⟨_, _, ⟨T26, L26, k26, n26⟩, -, X26, ⟨Lc26, hQ26, l26, y26, z26⟩, st26⟩ := X17.specialBack hx (y := (⟨"com/example/timed_queue/timedqueue/model/QueueCounts", "<init>", "(JJJ)V"⟩ : MethodName)) rfl hown (mvT hZ (hw _ (List.mem_of_getElem? (i := 3) rfl))) (mvT hZ (hw _ (List.mem_of_getElem? (i := 4) rfl))) (mvT hZ (hw _ (List.mem_of_getElem? (i := 5) rfl))) (by decide) (backOf (W := 1) (rm1 l Z a0 hw [] b17 i0 (0 : Int64) (0 : Int64) (0 : Int64) (0 : Int64) (0 : Int64) h17 n0 Z22 F23 F24 F25 A17 ge_b17) hZ (hw _ (List.mem_of_getElem? (i := 5) rfl)) (hw _ (List.mem_of_getElem? (i := 2) rfl)) (by decide) (by decide)) (g := (mkF m 23 #[.val (.long i0), .second, .val (.long i1), .second, .val (.long i2), .second, .val (.int r16), .unset, .unset, .unset, .unset, .unset, .unset, .unset] [(.long (0 : Int64)), (.long (0 : Int64)), (.long i0), (.ref b17), (.ref b17)])) rfl (by rw [hml]; rfl) (Steps.refl _) (a := b17) (argsL := [(.long i0), (.long (0 : Int64)), (.long (0 : Int64))]) (rest := [(.ref b17)]) (lenOf pd_1 rfl) rfl (by show 2 * 0 + _ ≤ _; exact Nat.le_of_eq rfl) (hb hby at_23) (fun _ _ => ⟨rfl, e17, (by decide : 2 + 0 ≤ _), (by decide : 6 + 0 ≤ _)⟩)
  dsimp only [Pt.U, Pt.locs, Pt.cells, Pt.slots] at X26 l26 y26 z26 st26 hQ26
  subst l26 y26 z26
  obtain ⟨rfl, N26q, K26q, E27, F28, F29, F30⟩ := hQ26
  have N26 := Fr.app N16 N26q
  have E31 := E18.keep K26q
  have F32 := F19.keep K26q (ninS ne_b1_b17 nin0)
  have F33 := F20.keep K26q (ninS ne_b1_b17 nin0)
  have F34 := F21.keep K26q (ninS ne_b1_b17 nin0)
  have Z36 := Nat.le_trans Z22 K26q.1
  refine own_st (fun _ k => st26.trans k) ?_
  show own_G p.tables e below _ (T26.setTop (mkF m 26 #[.val (.long i0), .second, .val (.long i1), .second, .val (.long i2), .second, .val (.int r16), .unset, .unset, .unset, .unset, .unset, .unset, .unset] [(.ref b17)]))
  obtain ⟨cq40, kq40, q40a, q40b, q40c⟩ := isOf hZ rfl E27
  obtain ⟨_, _, ⟨T40, L40, k40, n40⟩, -, X40, ⟨Lc40, hQ40, l40, y40, z40⟩, st40⟩ := X26.virtualBack hx (y := (⟨"com/example/timed_queue/timedqueue/model/QueueCounts", "hashCode", "()I"⟩ : MethodName)) (z := (⟨"com/example/timed_queue/timedqueue/model/QueueCounts", "hashCode", "()I"⟩ : MethodName)) hown (mvT hZ (hw _ (List.mem_of_getElem? (i := 15) rfl))) (mvT hZ (hw _ (List.mem_of_getElem? (i := 16) rfl))) (notFace_of_selects (args := #[]) (mvT hZ (hw _ (List.mem_of_getElem? (i := 18) rfl)))) (mvT hZ (hw _ (List.mem_of_getElem? (i := 18) rfl))) (mvT hZ (hw _ (List.mem_of_getElem? (i := 17) rfl))) (by decide) (backOf (W := 0) (rm3 l Z a0 hw [] b17 i0 (0 : Int64) (0 : Int64) T26.heap n0 Z36 F28 F29 F30 E27) hZ (hw _ (List.mem_of_getElem? (i := 19) rfl)) (hw _ (List.mem_of_getElem? (i := 2) rfl)) (by decide) (by decide)) q40a q40c (g := (mkF m 26 #[.val (.long i0), .second, .val (.long i1), .second, .val (.long i2), .second, .val (.int r16), .unset, .unset, .unset, .unset, .unset, .unset, .unset] [(.ref b17)])) rfl (by rw [hml]; rfl) (Steps.refl _) (argsL := []) (rest := []) (lenOf pd_2 rfl) rfl (by show 2 * 0 + _ ≤ _; exact Nat.le_of_eq rfl) (hb hby at_26) (fun _ _ => ⟨rfl, rfl, (by decide : 2 + 0 ≤ _), (by decide : 6 + 0 ≤ _)⟩)
  dsimp only [Pt.U, Pt.locs, Pt.cells, Pt.slots] at X40 l40 y40 z40 st40 hQ40
  subst l40 y40 z40
  obtain ⟨⟨r40, rfl, hr40⟩, N40q, e40⟩ := hQ40
  have N40 := Fr.app N26 N40q
  refine own_st (fun _ k => st40.trans k) ?_
  show own_G p.tables e below _ (T40.setTop (mkF m 29 #[.val (.long i0), .second, .val (.long i1), .second, .val (.long i2), .second, .val (.int r16), .unset, .unset, .unset, .unset, .unset, .unset, .unset] [(.int r40)]))
  refine own_st (fun _ k => XS.istore X40.here hx rfl (hb hby at_29) rfl (l' := #[.val (.long i0), .second, .val (.long i1), .second, .val (.long i2), .second, .val (.int r16), .val (.int r40), .unset, .unset, .unset, .unset, .unset, .unset]) rfl k) ?_
  show own_G p.tables e below _ (T40.setTop (mkF m 31 #[.val (.long i0), .second, .val (.long i1), .second, .val (.long i2), .second, .val (.int r16), .val (.int r40), .unset, .unset, .unset, .unset, .unset, .unset] []))
  obtain ⟨T41, h41, X41, e41, E41, A41, D41, -, st41⟩ := newO X40 hx hZ hown (hw _ (List.mem_of_getElem? (i := 0) rfl)) (hw _ (List.mem_of_getElem? (i := 1) rfl)) (hw _ (List.mem_of_getElem? (i := 2) rfl)) e40 (g := (mkF m 31 #[.val (.long i0), .second, .val (.long i1), .second, .val (.long i2), .second, .val (.int r16), .val (.int r40), .unset, .unset, .unset, .unset, .unset, .unset] [])) rfl (hb hby at_31) (by decide) (by decide)
  obtain ⟨b41, g41⟩ : ∃ z, z = T26.heap.size := ⟨_, rfl⟩
  rw [← g41] at A41 D41 st41
  have ge_b41 : n0 ≤ b41 := Nat.le_trans Z36 (Nat.le_of_eq g41.symm)
  have ne_b1_b41 : b1 ≠ b41 := fun q => Nat.lt_irrefl _ (Nat.lt_of_lt_of_eq E31.lt (g41.symm.trans q.symm))
  have ne_b17_b41 : b17 ≠ b41 := fun q => Nat.lt_irrefl _ (Nat.lt_of_lt_of_eq E27.lt (g41.symm.trans q.symm))
  have E42 := E31.ext E41
  have F43 := F32.ext E41
  have F44 := F33.ext E41
  have F45 := F34.ext E41
  have E46 := E27.ext E41
  have F47 := F28.ext E41
  have F48 := F29.ext E41
  have F49 := F30.ext E41
  have Z50 := Nat.le_trans Z36 E41.1
  have F51 : Fld Z h41 b41 "com/example/timed_queue/timedqueue/model/QueueCounts" "waiting" "J" (.long (0 : Int64)) := D41 (Or.inr (hw _ (List.mem_of_getElem? (i := 10) rfl))) (ty := .long) (by decide)
  have F52 : Fld Z h41 b41 "com/example/timed_queue/timedqueue/model/QueueCounts" "inFlight" "J" (.long (0 : Int64)) := D41 (Or.inr (hw _ (List.mem_of_getElem? (i := 12) rfl))) (ty := .long) (by decide)
  have F53 : Fld Z h41 b41 "com/example/timed_queue/timedqueue/model/QueueCounts" "dead" "J" (.long (0 : Int64)) := D41 (Or.inr (hw _ (List.mem_of_getElem? (i := 14) rfl))) (ty := .long) (by decide)
  refine own_st st41 ?_
  show own_G p.tables e below _ (T41.setTop (mkF m 34 #[.val (.long i0), .second, .val (.long i1), .second, .val (.long i2), .second, .val (.int r16), .val (.int r40), .unset, .unset, .unset, .unset, .unset, .unset] [(.ref b41)]))
  refine own_st (fun _ k => XS.dup X41.here hx rfl (hb hby at_34) rfl rfl k) ?_
  show own_G p.tables e below _ (T41.setTop (mkF m 35 #[.val (.long i0), .second, .val (.long i1), .second, .val (.long i2), .second, .val (.int r16), .val (.int r40), .unset, .unset, .unset, .unset, .unset, .unset] [(.ref b41), (.ref b41)]))
  refine own_st (fun _ k => XS.lconst X41.here hx rfl (hb hby at_35) k) ?_
  show own_G p.tables e below _ (T41.setTop (mkF m 36 #[.val (.long i0), .second, .val (.long i1), .second, .val (.long i2), .second, .val (.int r16), .val (.int r40), .unset, .unset, .unset, .unset, .unset, .unset] [(.long (0 : Int64)), (.ref b41), (.ref b41)]))
  refine own_st (fun _ k => XS.lloadN X41.here hx rfl (hb hby at_36) rfl k) ?_
  show own_G p.tables e below _ (T41.setTop (mkF m 37 #[.val (.long i0), .second, .val (.long i1), .second, .val (.long i2), .second, .val (.int r16), .val (.int r40), .unset, .unset, .unset, .unset, .unset, .unset] [(.long i1), (.long (0 : Int64)), (.ref b41), (.ref b41)]))
  refine own_st (fun _ k => XS.lconst X41.here hx rfl (hb hby at_37) k) ?_
  show own_G p.tables e below _ (T41.setTop (mkF m 38 #[.val (.long i0), .second, .val (.long i1), .second, .val (.long i2), .second, .val (.int r16), .val (.int r40), .unset, .unset, .unset, .unset, .unset, .unset] [(.long (0 : Int64)), (.long i1), (.long (0 : Int64)), (.ref b41), (.ref b41)]))
  obtain ⟨_, _, ⟨T54, L54, k54, n54⟩, -, X54, ⟨Lc54, hQ54, l54, y54, z54⟩, st54⟩ := X41.specialBack hx (y := (⟨"com/example/timed_queue/timedqueue/model/QueueCounts", "<init>", "(JJJ)V"⟩ : MethodName)) rfl hown (mvT hZ (hw _ (List.mem_of_getElem? (i := 3) rfl))) (mvT hZ (hw _ (List.mem_of_getElem? (i := 4) rfl))) (mvT hZ (hw _ (List.mem_of_getElem? (i := 5) rfl))) (by decide) (backOf (W := 1) (rm1 l Z a0 hw [] b41 (0 : Int64) i1 (0 : Int64) (0 : Int64) (0 : Int64) (0 : Int64) h41 n0 Z50 F51 F52 F53 A41 ge_b41) hZ (hw _ (List.mem_of_getElem? (i := 5) rfl)) (hw _ (List.mem_of_getElem? (i := 2) rfl)) (by decide) (by decide)) (g := (mkF m 38 #[.val (.long i0), .second, .val (.long i1), .second, .val (.long i2), .second, .val (.int r16), .val (.int r40), .unset, .unset, .unset, .unset, .unset, .unset] [(.long (0 : Int64)), (.long i1), (.long (0 : Int64)), (.ref b41), (.ref b41)])) rfl (by rw [hml]; rfl) (Steps.refl _) (a := b41) (argsL := [(.long (0 : Int64)), (.long i1), (.long (0 : Int64))]) (rest := [(.ref b41)]) (lenOf pd_1 rfl) rfl (by show 2 * 0 + _ ≤ _; exact Nat.le_of_eq rfl) (hb hby at_38) (fun _ _ => ⟨rfl, e41, (by decide : 3 + 0 ≤ _), (by decide : 9 + 0 ≤ _)⟩)
  dsimp only [Pt.U, Pt.locs, Pt.cells, Pt.slots] at X54 l54 y54 z54 st54 hQ54
  subst l54 y54 z54
  obtain ⟨rfl, N54q, K54q, E55, F56, F57, F58⟩ := hQ54
  have N54 := Fr.app N40 N54q
  have E59 := E42.keep K54q
  have F60 := F43.keep K54q (ninS ne_b1_b41 nin0)
  have F61 := F44.keep K54q (ninS ne_b1_b41 nin0)
  have F62 := F45.keep K54q (ninS ne_b1_b41 nin0)
  have E63 := E46.keep K54q
  have F64 := F47.keep K54q (ninS ne_b17_b41 nin0)
  have F65 := F48.keep K54q (ninS ne_b17_b41 nin0)
  have F66 := F49.keep K54q (ninS ne_b17_b41 nin0)
  have Z68 := Nat.le_trans Z50 K54q.1
  refine own_st (fun _ k => st54.trans k) ?_
  show own_G p.tables e below _ (T54.setTop (mkF m 41 #[.val (.long i0), .second, .val (.long i1), .second, .val (.long i2), .second, .val (.int r16), .val (.int r40), .unset, .unset, .unset, .unset, .unset, .unset] [(.ref b41)]))
  obtain ⟨cq72, kq72, q72a, q72b, q72c⟩ := isOf hZ rfl E55
  obtain ⟨_, _, ⟨T72, L72, k72, n72⟩, -, X72, ⟨Lc72, hQ72, l72, y72, z72⟩, st72⟩ := X54.virtualBack hx (y := (⟨"com/example/timed_queue/timedqueue/model/QueueCounts", "hashCode", "()I"⟩ : MethodName)) (z := (⟨"com/example/timed_queue/timedqueue/model/QueueCounts", "hashCode", "()I"⟩ : MethodName)) hown (mvT hZ (hw _ (List.mem_of_getElem? (i := 15) rfl))) (mvT hZ (hw _ (List.mem_of_getElem? (i := 16) rfl))) (notFace_of_selects (args := #[]) (mvT hZ (hw _ (List.mem_of_getElem? (i := 18) rfl)))) (mvT hZ (hw _ (List.mem_of_getElem? (i := 18) rfl))) (mvT hZ (hw _ (List.mem_of_getElem? (i := 17) rfl))) (by decide) (backOf (W := 0) (rm3 l Z a0 hw [] b41 (0 : Int64) i1 (0 : Int64) T54.heap n0 Z68 F56 F57 F58 E55) hZ (hw _ (List.mem_of_getElem? (i := 19) rfl)) (hw _ (List.mem_of_getElem? (i := 2) rfl)) (by decide) (by decide)) q72a q72c (g := (mkF m 41 #[.val (.long i0), .second, .val (.long i1), .second, .val (.long i2), .second, .val (.int r16), .val (.int r40), .unset, .unset, .unset, .unset, .unset, .unset] [(.ref b41)])) rfl (by rw [hml]; rfl) (Steps.refl _) (argsL := []) (rest := []) (lenOf pd_2 rfl) rfl (by show 2 * 0 + _ ≤ _; exact Nat.le_of_eq rfl) (hb hby at_41) (fun _ _ => ⟨rfl, rfl, (by decide : 3 + 0 ≤ _), (by decide : 9 + 0 ≤ _)⟩)
  dsimp only [Pt.U, Pt.locs, Pt.cells, Pt.slots] at X72 l72 y72 z72 st72 hQ72
  subst l72 y72 z72
  obtain ⟨⟨r72, rfl, hr72⟩, N72q, e72⟩ := hQ72
  have N72 := Fr.app N54 N72q
  refine own_st (fun _ k => st72.trans k) ?_
  show own_G p.tables e below _ (T72.setTop (mkF m 44 #[.val (.long i0), .second, .val (.long i1), .second, .val (.long i2), .second, .val (.int r16), .val (.int r40), .unset, .unset, .unset, .unset, .unset, .unset] [(.int r72)]))
  refine own_st (fun _ k => XS.istore X72.here hx rfl (hb hby at_44) rfl (l' := #[.val (.long i0), .second, .val (.long i1), .second, .val (.long i2), .second, .val (.int r16), .val (.int r40), .val (.int r72), .unset, .unset, .unset, .unset, .unset]) rfl k) ?_
  show own_G p.tables e below _ (T72.setTop (mkF m 46 #[.val (.long i0), .second, .val (.long i1), .second, .val (.long i2), .second, .val (.int r16), .val (.int r40), .val (.int r72), .unset, .unset, .unset, .unset, .unset] []))
  obtain ⟨T73, h73, X73, e73, E73, A73, D73, -, st73⟩ := newO X72 hx hZ hown (hw _ (List.mem_of_getElem? (i := 0) rfl)) (hw _ (List.mem_of_getElem? (i := 1) rfl)) (hw _ (List.mem_of_getElem? (i := 2) rfl)) e72 (g := (mkF m 46 #[.val (.long i0), .second, .val (.long i1), .second, .val (.long i2), .second, .val (.int r16), .val (.int r40), .val (.int r72), .unset, .unset, .unset, .unset, .unset] [])) rfl (hb hby at_46) (by decide) (by decide)
  obtain ⟨b73, g73⟩ : ∃ z, z = T54.heap.size := ⟨_, rfl⟩
  rw [← g73] at A73 D73 st73
  have ge_b73 : n0 ≤ b73 := Nat.le_trans Z68 (Nat.le_of_eq g73.symm)
  have ne_b1_b73 : b1 ≠ b73 := fun q => Nat.lt_irrefl _ (Nat.lt_of_lt_of_eq E59.lt (g73.symm.trans q.symm))
  have ne_b17_b73 : b17 ≠ b73 := fun q => Nat.lt_irrefl _ (Nat.lt_of_lt_of_eq E63.lt (g73.symm.trans q.symm))
  have ne_b41_b73 : b41 ≠ b73 := fun q => Nat.lt_irrefl _ (Nat.lt_of_lt_of_eq E55.lt (g73.symm.trans q.symm))
  have E74 := E59.ext E73
  have F75 := F60.ext E73
  have F76 := F61.ext E73
  have F77 := F62.ext E73
  have E78 := E63.ext E73
  have F79 := F64.ext E73
  have F80 := F65.ext E73
  have F81 := F66.ext E73
  have E82 := E55.ext E73
  have F83 := F56.ext E73
  have F84 := F57.ext E73
  have F85 := F58.ext E73
  have Z86 := Nat.le_trans Z68 E73.1
  have F87 : Fld Z h73 b73 "com/example/timed_queue/timedqueue/model/QueueCounts" "waiting" "J" (.long (0 : Int64)) := D73 (Or.inr (hw _ (List.mem_of_getElem? (i := 10) rfl))) (ty := .long) (by decide)
  have F88 : Fld Z h73 b73 "com/example/timed_queue/timedqueue/model/QueueCounts" "inFlight" "J" (.long (0 : Int64)) := D73 (Or.inr (hw _ (List.mem_of_getElem? (i := 12) rfl))) (ty := .long) (by decide)
  have F89 : Fld Z h73 b73 "com/example/timed_queue/timedqueue/model/QueueCounts" "dead" "J" (.long (0 : Int64)) := D73 (Or.inr (hw _ (List.mem_of_getElem? (i := 14) rfl))) (ty := .long) (by decide)
  refine own_st st73 ?_
  show own_G p.tables e below _ (T73.setTop (mkF m 49 #[.val (.long i0), .second, .val (.long i1), .second, .val (.long i2), .second, .val (.int r16), .val (.int r40), .val (.int r72), .unset, .unset, .unset, .unset, .unset] [(.ref b73)]))
  refine own_st (fun _ k => XS.dup X73.here hx rfl (hb hby at_49) rfl rfl k) ?_
  show own_G p.tables e below _ (T73.setTop (mkF m 50 #[.val (.long i0), .second, .val (.long i1), .second, .val (.long i2), .second, .val (.int r16), .val (.int r40), .val (.int r72), .unset, .unset, .unset, .unset, .unset] [(.ref b73), (.ref b73)]))
  refine own_st (fun _ k => XS.lconst X73.here hx rfl (hb hby at_50) k) ?_
  show own_G p.tables e below _ (T73.setTop (mkF m 51 #[.val (.long i0), .second, .val (.long i1), .second, .val (.long i2), .second, .val (.int r16), .val (.int r40), .val (.int r72), .unset, .unset, .unset, .unset, .unset] [(.long (0 : Int64)), (.ref b73), (.ref b73)]))
  refine own_st (fun _ k => XS.lconst X73.here hx rfl (hb hby at_51) k) ?_
  show own_G p.tables e below _ (T73.setTop (mkF m 52 #[.val (.long i0), .second, .val (.long i1), .second, .val (.long i2), .second, .val (.int r16), .val (.int r40), .val (.int r72), .unset, .unset, .unset, .unset, .unset] [(.long (0 : Int64)), (.long (0 : Int64)), (.ref b73), (.ref b73)]))
  refine own_st (fun _ k => XS.lload X73.here hx rfl (hb hby at_52) rfl k) ?_
  show own_G p.tables e below _ (T73.setTop (mkF m 54 #[.val (.long i0), .second, .val (.long i1), .second, .val (.long i2), .second, .val (.int r16), .val (.int r40), .val (.int r72), .unset, .unset, .unset, .unset, .unset] [(.long i2), (.long (0 : Int64)), (.long (0 : Int64)), (.ref b73), (.ref b73)]))
  obtain ⟨_, _, ⟨T90, L90, k90, n90⟩, -, X90, ⟨Lc90, hQ90, l90, y90, z90⟩, st90⟩ := X73.specialBack hx (y := (⟨"com/example/timed_queue/timedqueue/model/QueueCounts", "<init>", "(JJJ)V"⟩ : MethodName)) rfl hown (mvT hZ (hw _ (List.mem_of_getElem? (i := 3) rfl))) (mvT hZ (hw _ (List.mem_of_getElem? (i := 4) rfl))) (mvT hZ (hw _ (List.mem_of_getElem? (i := 5) rfl))) (by decide) (backOf (W := 1) (rm1 l Z a0 hw [] b73 (0 : Int64) (0 : Int64) i2 (0 : Int64) (0 : Int64) (0 : Int64) h73 n0 Z86 F87 F88 F89 A73 ge_b73) hZ (hw _ (List.mem_of_getElem? (i := 5) rfl)) (hw _ (List.mem_of_getElem? (i := 2) rfl)) (by decide) (by decide)) (g := (mkF m 54 #[.val (.long i0), .second, .val (.long i1), .second, .val (.long i2), .second, .val (.int r16), .val (.int r40), .val (.int r72), .unset, .unset, .unset, .unset, .unset] [(.long i2), (.long (0 : Int64)), (.long (0 : Int64)), (.ref b73), (.ref b73)])) rfl (by rw [hml]; rfl) (Steps.refl _) (a := b73) (argsL := [(.long (0 : Int64)), (.long (0 : Int64)), (.long i2)]) (rest := [(.ref b73)]) (lenOf pd_1 rfl) rfl (by show 2 * 0 + _ ≤ _; exact Nat.le_of_eq rfl) (hb hby at_54) (fun _ _ => ⟨rfl, e73, (by decide : 4 + 0 ≤ _), (by decide : 12 + 0 ≤ _)⟩)
  dsimp only [Pt.U, Pt.locs, Pt.cells, Pt.slots] at X90 l90 y90 z90 st90 hQ90
  subst l90 y90 z90
  obtain ⟨rfl, N90q, K90q, E91, F92, F93, F94⟩ := hQ90
  have N90 := Fr.app N72 N90q
  have E95 := E74.keep K90q
  have F96 := F75.keep K90q (ninS ne_b1_b73 nin0)
  have F97 := F76.keep K90q (ninS ne_b1_b73 nin0)
  have F98 := F77.keep K90q (ninS ne_b1_b73 nin0)
  have E99 := E78.keep K90q
  have F100 := F79.keep K90q (ninS ne_b17_b73 nin0)
  have F101 := F80.keep K90q (ninS ne_b17_b73 nin0)
  have F102 := F81.keep K90q (ninS ne_b17_b73 nin0)
  have E103 := E82.keep K90q
  have F104 := F83.keep K90q (ninS ne_b41_b73 nin0)
  have F105 := F84.keep K90q (ninS ne_b41_b73 nin0)
  have F106 := F85.keep K90q (ninS ne_b41_b73 nin0)
  have Z108 := Nat.le_trans Z86 K90q.1
  refine own_st (fun _ k => st90.trans k) ?_
  show own_G p.tables e below _ (T90.setTop (mkF m 57 #[.val (.long i0), .second, .val (.long i1), .second, .val (.long i2), .second, .val (.int r16), .val (.int r40), .val (.int r72), .unset, .unset, .unset, .unset, .unset] [(.ref b73)]))
  obtain ⟨cq112, kq112, q112a, q112b, q112c⟩ := isOf hZ rfl E91
  obtain ⟨_, _, ⟨T112, L112, k112, n112⟩, -, X112, ⟨Lc112, hQ112, l112, y112, z112⟩, st112⟩ := X90.virtualBack hx (y := (⟨"com/example/timed_queue/timedqueue/model/QueueCounts", "hashCode", "()I"⟩ : MethodName)) (z := (⟨"com/example/timed_queue/timedqueue/model/QueueCounts", "hashCode", "()I"⟩ : MethodName)) hown (mvT hZ (hw _ (List.mem_of_getElem? (i := 15) rfl))) (mvT hZ (hw _ (List.mem_of_getElem? (i := 16) rfl))) (notFace_of_selects (args := #[]) (mvT hZ (hw _ (List.mem_of_getElem? (i := 18) rfl)))) (mvT hZ (hw _ (List.mem_of_getElem? (i := 18) rfl))) (mvT hZ (hw _ (List.mem_of_getElem? (i := 17) rfl))) (by decide) (backOf (W := 0) (rm3 l Z a0 hw [] b73 (0 : Int64) (0 : Int64) i2 T90.heap n0 Z108 F92 F93 F94 E91) hZ (hw _ (List.mem_of_getElem? (i := 19) rfl)) (hw _ (List.mem_of_getElem? (i := 2) rfl)) (by decide) (by decide)) q112a q112c (g := (mkF m 57 #[.val (.long i0), .second, .val (.long i1), .second, .val (.long i2), .second, .val (.int r16), .val (.int r40), .val (.int r72), .unset, .unset, .unset, .unset, .unset] [(.ref b73)])) rfl (by rw [hml]; rfl) (Steps.refl _) (argsL := []) (rest := []) (lenOf pd_2 rfl) rfl (by show 2 * 0 + _ ≤ _; exact Nat.le_of_eq rfl) (hb hby at_57) (fun _ _ => ⟨rfl, rfl, (by decide : 4 + 0 ≤ _), (by decide : 12 + 0 ≤ _)⟩)
  dsimp only [Pt.U, Pt.locs, Pt.cells, Pt.slots] at X112 l112 y112 z112 st112 hQ112
  subst l112 y112 z112
  obtain ⟨⟨r112, rfl, hr112⟩, N112q, e112⟩ := hQ112
  have N112 := Fr.app N90 N112q
  refine own_st (fun _ k => st112.trans k) ?_
  show own_G p.tables e below _ (T112.setTop (mkF m 60 #[.val (.long i0), .second, .val (.long i1), .second, .val (.long i2), .second, .val (.int r16), .val (.int r40), .val (.int r72), .unset, .unset, .unset, .unset, .unset] [(.int r112)]))
  refine own_st (fun _ k => XS.istore X112.here hx rfl (hb hby at_60) rfl (l' := #[.val (.long i0), .second, .val (.long i1), .second, .val (.long i2), .second, .val (.int r16), .val (.int r40), .val (.int r72), .val (.int r112), .unset, .unset, .unset, .unset]) rfl k) ?_
  show own_G p.tables e below _ (T112.setTop (mkF m 62 #[.val (.long i0), .second, .val (.long i1), .second, .val (.long i2), .second, .val (.int r16), .val (.int r40), .val (.int r72), .val (.int r112), .unset, .unset, .unset, .unset] []))
  refine own_st (fun _ k => XS.iload X112.here hx rfl (hb hby at_62) rfl k) ?_
  show own_G p.tables e below _ (T112.setTop (mkF m 64 #[.val (.long i0), .second, .val (.long i1), .second, .val (.long i2), .second, .val (.int r16), .val (.int r40), .val (.int r72), .val (.int r112), .unset, .unset, .unset, .unset] [(.int r16)]))
  refine own_st (fun _ k => XS.iload X112.here hx rfl (hb hby at_64) rfl k) ?_
  show own_G p.tables e below _ (T112.setTop (mkF m 66 #[.val (.long i0), .second, .val (.long i1), .second, .val (.long i2), .second, .val (.int r16), .val (.int r40), .val (.int r72), .val (.int r112), .unset, .unset, .unset, .unset] [(.int r40), (.int r16)]))
  refine own_st (fun _ k => XS.iload X112.here hx rfl (hb hby at_66) rfl k) ?_
  show own_G p.tables e below _ (T112.setTop (mkF m 68 #[.val (.long i0), .second, .val (.long i1), .second, .val (.long i2), .second, .val (.int r16), .val (.int r40), .val (.int r72), .val (.int r112), .unset, .unset, .unset, .unset] [(.int r72), (.int r40), (.int r16)]))
  refine own_st (fun _ k => XS.iadd X112.here hx rfl (hb hby at_68) rfl k) ?_
  show own_G p.tables e below _ (T112.setTop (mkF m 69 #[.val (.long i0), .second, .val (.long i1), .second, .val (.long i2), .second, .val (.int r16), .val (.int r40), .val (.int r72), .val (.int r112), .unset, .unset, .unset, .unset] [(.int (r40 + r72)), (.int r16)]))
  refine own_st (fun _ k => XS.iload X112.here hx rfl (hb hby at_69) rfl k) ?_
  show own_G p.tables e below _ (T112.setTop (mkF m 71 #[.val (.long i0), .second, .val (.long i1), .second, .val (.long i2), .second, .val (.int r16), .val (.int r40), .val (.int r72), .val (.int r112), .unset, .unset, .unset, .unset] [(.int r112), (.int (r40 + r72)), (.int r16)]))
  refine own_st (fun _ k => XS.iadd X112.here hx rfl (hb hby at_71) rfl k) ?_
  show own_G p.tables e below _ (T112.setTop (mkF m 72 #[.val (.long i0), .second, .val (.long i1), .second, .val (.long i2), .second, .val (.int r16), .val (.int r40), .val (.int r72), .val (.int r112), .unset, .unset, .unset, .unset] [(.int ((r40 + r72) + r112)), (.int r16)]))
  have hf113 : r16 = ((r40 + r72) + r112) := by subst_vars; exact own_h1 _ _ _
  refine own_st (fun _ k => XS.icmpNo X112.here hx rfl (hb hby at_72) rfl (teq hf113).2 k) ?_
  show own_G p.tables e below _ (T112.setTop (mkF m 75 #[.val (.long i0), .second, .val (.long i1), .second, .val (.long i2), .second, .val (.int r16), .val (.int r40), .val (.int r72), .val (.int r112), .unset, .unset, .unset, .unset] []))
  refine own_st (fun _ k => XS.iconst X112.here hx rfl (hb hby at_75) k) ?_
  show own_G p.tables e below _ (T112.setTop (mkF m 76 #[.val (.long i0), .second, .val (.long i1), .second, .val (.long i2), .second, .val (.int r16), .val (.int r40), .val (.int r72), .val (.int r112), .unset, .unset, .unset, .unset] [(.int (1 : Int32))]))
  refine own_st (fun _ k => XS.goto X112.here hx rfl (pc0 := 76) (pc' := 80) rfl (hb hby at_76) (by decide) (by decide) k) ?_
  show own_G p.tables e below _ (T112.setTop (mkF m 80 #[.val (.long i0), .second, .val (.long i1), .second, .val (.long i2), .second, .val (.int r16), .val (.int r40), .val (.int r72), .val (.int r112), .unset, .unset, .unset, .unset] [(.int (1 : Int32))]))
  refine own_st (fun _ k => XS.istore X112.here hx rfl (hb hby at_80) rfl (l' := #[.val (.long i0), .second, .val (.long i1), .second, .val (.long i2), .second, .val (.int r16), .val (.int r40), .val (.int r72), .val (.int r112), .val (.int (1 : Int32)), .unset, .unset, .unset]) rfl k) ?_
  show own_G p.tables e below _ (T112.setTop (mkF m 82 #[.val (.long i0), .second, .val (.long i1), .second, .val (.long i2), .second, .val (.int r16), .val (.int r40), .val (.int r72), .val (.int r112), .val (.int (1 : Int32)), .unset, .unset, .unset] []))
  refine own_st (fun _ k => XS.iload X112.here hx rfl (hb hby at_82) rfl k) ?_
  show own_G p.tables e below _ (T112.setTop (mkF m 84 #[.val (.long i0), .second, .val (.long i1), .second, .val (.long i2), .second, .val (.int r16), .val (.int r40), .val (.int r72), .val (.int r112), .val (.int (1 : Int32)), .unset, .unset, .unset] [(.int r112)]))
  refine own_st (fun _ k => XS.lload X112.here hx rfl (hb hby at_84) rfl k) ?_
  show own_G p.tables e below _ (T112.setTop (mkF m 86 #[.val (.long i0), .second, .val (.long i1), .second, .val (.long i2), .second, .val (.int r16), .val (.int r40), .val (.int r72), .val (.int r112), .val (.int (1 : Int32)), .unset, .unset, .unset] [(.long i2), (.int r112)]))
  obtain ⟨_, _, ⟨T114, L114, k114, n114⟩, -, X114, ⟨Lc114, hQ114, l114, y114, z114⟩, st114⟩ := Jvm.LawKit.callS X112 hx (y := (⟨"com/example/timed_queue/timedqueue/model/QueueCountsHashCodePinLaw", "lh", "(J)I"⟩ : MethodName)) hown (mvT hZ (hw _ (List.mem_of_getElem? (i := 24) rfl))) (mvT hZ (hw _ (List.mem_of_getElem? (i := 25) rfl))) (mvT hZ (hw _ (List.mem_of_getElem? (i := 26) rfl))) (mvT hZ (hw _ (List.mem_of_getElem? (i := 27) rfl))) (by decide) (backOf (W := 1) (rm5 l Z a0 hw [] i2 T90.heap n0 Z108 ) hZ (hw _ (List.mem_of_getElem? (i := 27) rfl)) (hw _ (List.mem_of_getElem? (i := 26) rfl)) (by decide) (by decide)) (g := (mkF m 86 #[.val (.long i0), .second, .val (.long i1), .second, .val (.long i2), .second, .val (.int r16), .val (.int r40), .val (.int r72), .val (.int r112), .val (.int (1 : Int32)), .unset, .unset, .unset] [(.long i2), (.int r112)])) rfl (by rw [hml]; rfl) (argsL := [(.long i2)]) (rest := [(.int r112)]) (lenOf pd_0 rfl) rfl (by show 2 * 0 + _ ≤ _; exact Nat.le_of_eq rfl) (hb hby at_86) (fun _ _ => ⟨rfl, e112, (by decide : 4 + 0 ≤ _), (by decide : 12 + 0 ≤ _)⟩)
  dsimp only [Pt.U, Pt.locs, Pt.cells, Pt.slots] at X114 l114 y114 z114 st114 hQ114
  subst l114 y114 z114
  obtain ⟨⟨r114, rfl, hr114⟩, N114q, e114⟩ := hQ114
  have N114 := Fr.app N112 N114q
  refine own_st st114 ?_
  show own_G p.tables e below _ (T114.setTop (mkF m 89 #[.val (.long i0), .second, .val (.long i1), .second, .val (.long i2), .second, .val (.int r16), .val (.int r40), .val (.int r72), .val (.int r112), .val (.int (1 : Int32)), .unset, .unset, .unset] [(.int r114), (.int r112)]))
  have hf115 : r112 = r114 := by subst_vars; exact own_h2 _
  refine own_st (fun _ k => XS.icmpNo X114.here hx rfl (hb hby at_89) rfl (teq hf115).2 k) ?_
  show own_G p.tables e below _ (T114.setTop (mkF m 92 #[.val (.long i0), .second, .val (.long i1), .second, .val (.long i2), .second, .val (.int r16), .val (.int r40), .val (.int r72), .val (.int r112), .val (.int (1 : Int32)), .unset, .unset, .unset] []))
  refine own_st (fun _ k => XS.iconst X114.here hx rfl (hb hby at_92) k) ?_
  show own_G p.tables e below _ (T114.setTop (mkF m 93 #[.val (.long i0), .second, .val (.long i1), .second, .val (.long i2), .second, .val (.int r16), .val (.int r40), .val (.int r72), .val (.int r112), .val (.int (1 : Int32)), .unset, .unset, .unset] [(.int (1 : Int32))]))
  refine own_st (fun _ k => XS.goto X114.here hx rfl (pc0 := 93) (pc' := 97) rfl (hb hby at_93) (by decide) (by decide) k) ?_
  show own_G p.tables e below _ (T114.setTop (mkF m 97 #[.val (.long i0), .second, .val (.long i1), .second, .val (.long i2), .second, .val (.int r16), .val (.int r40), .val (.int r72), .val (.int r112), .val (.int (1 : Int32)), .unset, .unset, .unset] [(.int (1 : Int32))]))
  refine own_st (fun _ k => XS.istore X114.here hx rfl (hb hby at_97) rfl (l' := #[.val (.long i0), .second, .val (.long i1), .second, .val (.long i2), .second, .val (.int r16), .val (.int r40), .val (.int r72), .val (.int r112), .val (.int (1 : Int32)), .val (.int (1 : Int32)), .unset, .unset]) rfl k) ?_
  show own_G p.tables e below _ (T114.setTop (mkF m 99 #[.val (.long i0), .second, .val (.long i1), .second, .val (.long i2), .second, .val (.int r16), .val (.int r40), .val (.int r72), .val (.int r112), .val (.int (1 : Int32)), .val (.int (1 : Int32)), .unset, .unset] []))
  refine own_st (fun _ k => XS.iload X114.here hx rfl (hb hby at_99) rfl k) ?_
  show own_G p.tables e below _ (T114.setTop (mkF m 101 #[.val (.long i0), .second, .val (.long i1), .second, .val (.long i2), .second, .val (.int r16), .val (.int r40), .val (.int r72), .val (.int r112), .val (.int (1 : Int32)), .val (.int (1 : Int32)), .unset, .unset] [(.int r72)]))
  refine own_st (fun _ k => XS.bipush X114.here hx rfl (hb hby at_101) k) ?_
  show own_G p.tables e below _ (T114.setTop (mkF m 103 #[.val (.long i0), .second, .val (.long i1), .second, .val (.long i2), .second, .val (.int r16), .val (.int r40), .val (.int r72), .val (.int r112), .val (.int (1 : Int32)), .val (.int (1 : Int32)), .unset, .unset] [(.int (31 : Int32)), (.int r72)]))
  refine own_st (fun _ k => XS.lloadN X114.here hx rfl (hb hby at_103) rfl k) ?_
  show own_G p.tables e below _ (T114.setTop (mkF m 104 #[.val (.long i0), .second, .val (.long i1), .second, .val (.long i2), .second, .val (.int r16), .val (.int r40), .val (.int r72), .val (.int r112), .val (.int (1 : Int32)), .val (.int (1 : Int32)), .unset, .unset] [(.long i1), (.int (31 : Int32)), (.int r72)]))
  obtain ⟨_, _, ⟨T116, L116, k116, n116⟩, -, X116, ⟨Lc116, hQ116, l116, y116, z116⟩, st116⟩ := Jvm.LawKit.callS X114 hx (y := (⟨"com/example/timed_queue/timedqueue/model/QueueCountsHashCodePinLaw", "lh", "(J)I"⟩ : MethodName)) hown (mvT hZ (hw _ (List.mem_of_getElem? (i := 24) rfl))) (mvT hZ (hw _ (List.mem_of_getElem? (i := 25) rfl))) (mvT hZ (hw _ (List.mem_of_getElem? (i := 26) rfl))) (mvT hZ (hw _ (List.mem_of_getElem? (i := 27) rfl))) (by decide) (backOf (W := 2) (rm5 l Z a0 hw [] i1 T90.heap n0 Z108 ) hZ (hw _ (List.mem_of_getElem? (i := 27) rfl)) (hw _ (List.mem_of_getElem? (i := 26) rfl)) (by decide) (by decide)) (g := (mkF m 104 #[.val (.long i0), .second, .val (.long i1), .second, .val (.long i2), .second, .val (.int r16), .val (.int r40), .val (.int r72), .val (.int r112), .val (.int (1 : Int32)), .val (.int (1 : Int32)), .unset, .unset] [(.long i1), (.int (31 : Int32)), (.int r72)])) rfl (by rw [hml]; rfl) (argsL := [(.long i1)]) (rest := [(.int (31 : Int32)), (.int r72)]) (lenOf pd_0 rfl) rfl (by show 2 * 0 + _ ≤ _; exact Nat.le_of_eq rfl) (hb hby at_104) (fun _ _ => ⟨rfl, e114, (by decide : 4 + 0 ≤ _), (by decide : 12 + 0 ≤ _)⟩)
  dsimp only [Pt.U, Pt.locs, Pt.cells, Pt.slots] at X116 l116 y116 z116 st116 hQ116
  subst l116 y116 z116
  obtain ⟨⟨r116, rfl, hr116⟩, N116q, e116⟩ := hQ116
  have N116 := Fr.app N114 N116q
  refine own_st st116 ?_
  show own_G p.tables e below _ (T116.setTop (mkF m 107 #[.val (.long i0), .second, .val (.long i1), .second, .val (.long i2), .second, .val (.int r16), .val (.int r40), .val (.int r72), .val (.int r112), .val (.int (1 : Int32)), .val (.int (1 : Int32)), .unset, .unset] [(.int r116), (.int (31 : Int32)), (.int r72)]))
  refine own_st (fun _ k => XS.imul X116.here hx rfl (hb hby at_107) rfl k) ?_
  show own_G p.tables e below _ (T116.setTop (mkF m 108 #[.val (.long i0), .second, .val (.long i1), .second, .val (.long i2), .second, .val (.int r16), .val (.int r40), .val (.int r72), .val (.int r112), .val (.int (1 : Int32)), .val (.int (1 : Int32)), .unset, .unset] [(.int ((31 : Int32) * r116)), (.int r72)]))
  have hf117 : r72 = ((31 : Int32) * r116) := by subst_vars; exact own_h3 _
  refine own_st (fun _ k => XS.icmpNo X116.here hx rfl (hb hby at_108) rfl (teq hf117).2 k) ?_
  show own_G p.tables e below _ (T116.setTop (mkF m 111 #[.val (.long i0), .second, .val (.long i1), .second, .val (.long i2), .second, .val (.int r16), .val (.int r40), .val (.int r72), .val (.int r112), .val (.int (1 : Int32)), .val (.int (1 : Int32)), .unset, .unset] []))
  refine own_st (fun _ k => XS.iconst X116.here hx rfl (hb hby at_111) k) ?_
  show own_G p.tables e below _ (T116.setTop (mkF m 112 #[.val (.long i0), .second, .val (.long i1), .second, .val (.long i2), .second, .val (.int r16), .val (.int r40), .val (.int r72), .val (.int r112), .val (.int (1 : Int32)), .val (.int (1 : Int32)), .unset, .unset] [(.int (1 : Int32))]))
  refine own_st (fun _ k => XS.goto X116.here hx rfl (pc0 := 112) (pc' := 116) rfl (hb hby at_112) (by decide) (by decide) k) ?_
  show own_G p.tables e below _ (T116.setTop (mkF m 116 #[.val (.long i0), .second, .val (.long i1), .second, .val (.long i2), .second, .val (.int r16), .val (.int r40), .val (.int r72), .val (.int r112), .val (.int (1 : Int32)), .val (.int (1 : Int32)), .unset, .unset] [(.int (1 : Int32))]))
  refine own_st (fun _ k => XS.istore X116.here hx rfl (hb hby at_116) rfl (l' := #[.val (.long i0), .second, .val (.long i1), .second, .val (.long i2), .second, .val (.int r16), .val (.int r40), .val (.int r72), .val (.int r112), .val (.int (1 : Int32)), .val (.int (1 : Int32)), .val (.int (1 : Int32)), .unset]) rfl k) ?_
  show own_G p.tables e below _ (T116.setTop (mkF m 118 #[.val (.long i0), .second, .val (.long i1), .second, .val (.long i2), .second, .val (.int r16), .val (.int r40), .val (.int r72), .val (.int r112), .val (.int (1 : Int32)), .val (.int (1 : Int32)), .val (.int (1 : Int32)), .unset] []))
  refine own_st (fun _ k => XS.iload X116.here hx rfl (hb hby at_118) rfl k) ?_
  show own_G p.tables e below _ (T116.setTop (mkF m 120 #[.val (.long i0), .second, .val (.long i1), .second, .val (.long i2), .second, .val (.int r16), .val (.int r40), .val (.int r72), .val (.int r112), .val (.int (1 : Int32)), .val (.int (1 : Int32)), .val (.int (1 : Int32)), .unset] [(.int r40)]))
  refine own_st (fun _ k => XS.sipush X116.here hx rfl (hb hby at_120) k) ?_
  show own_G p.tables e below _ (T116.setTop (mkF m 123 #[.val (.long i0), .second, .val (.long i1), .second, .val (.long i2), .second, .val (.int r16), .val (.int r40), .val (.int r72), .val (.int r112), .val (.int (1 : Int32)), .val (.int (1 : Int32)), .val (.int (1 : Int32)), .unset] [(.int (961 : Int32)), (.int r40)]))
  refine own_st (fun _ k => XS.lloadN X116.here hx rfl (hb hby at_123) rfl k) ?_
  show own_G p.tables e below _ (T116.setTop (mkF m 124 #[.val (.long i0), .second, .val (.long i1), .second, .val (.long i2), .second, .val (.int r16), .val (.int r40), .val (.int r72), .val (.int r112), .val (.int (1 : Int32)), .val (.int (1 : Int32)), .val (.int (1 : Int32)), .unset] [(.long i0), (.int (961 : Int32)), (.int r40)]))
  obtain ⟨_, _, ⟨T118, L118, k118, n118⟩, -, X118, ⟨Lc118, hQ118, l118, y118, z118⟩, st118⟩ := Jvm.LawKit.callS X116 hx (y := (⟨"com/example/timed_queue/timedqueue/model/QueueCountsHashCodePinLaw", "lh", "(J)I"⟩ : MethodName)) hown (mvT hZ (hw _ (List.mem_of_getElem? (i := 24) rfl))) (mvT hZ (hw _ (List.mem_of_getElem? (i := 25) rfl))) (mvT hZ (hw _ (List.mem_of_getElem? (i := 26) rfl))) (mvT hZ (hw _ (List.mem_of_getElem? (i := 27) rfl))) (by decide) (backOf (W := 2) (rm5 l Z a0 hw [] i0 T90.heap n0 Z108 ) hZ (hw _ (List.mem_of_getElem? (i := 27) rfl)) (hw _ (List.mem_of_getElem? (i := 26) rfl)) (by decide) (by decide)) (g := (mkF m 124 #[.val (.long i0), .second, .val (.long i1), .second, .val (.long i2), .second, .val (.int r16), .val (.int r40), .val (.int r72), .val (.int r112), .val (.int (1 : Int32)), .val (.int (1 : Int32)), .val (.int (1 : Int32)), .unset] [(.long i0), (.int (961 : Int32)), (.int r40)])) rfl (by rw [hml]; rfl) (argsL := [(.long i0)]) (rest := [(.int (961 : Int32)), (.int r40)]) (lenOf pd_0 rfl) rfl (by show 2 * 0 + _ ≤ _; exact Nat.le_of_eq rfl) (hb hby at_124) (fun _ _ => ⟨rfl, e116, (by decide : 4 + 0 ≤ _), (by decide : 12 + 0 ≤ _)⟩)
  dsimp only [Pt.U, Pt.locs, Pt.cells, Pt.slots] at X118 l118 y118 z118 st118 hQ118
  subst l118 y118 z118
  obtain ⟨⟨r118, rfl, hr118⟩, N118q, e118⟩ := hQ118
  have N118 := Fr.app N116 N118q
  refine own_st st118 ?_
  show own_G p.tables e below _ (T118.setTop (mkF m 127 #[.val (.long i0), .second, .val (.long i1), .second, .val (.long i2), .second, .val (.int r16), .val (.int r40), .val (.int r72), .val (.int r112), .val (.int (1 : Int32)), .val (.int (1 : Int32)), .val (.int (1 : Int32)), .unset] [(.int r118), (.int (961 : Int32)), (.int r40)]))
  refine own_st (fun _ k => XS.imul X118.here hx rfl (hb hby at_127) rfl k) ?_
  show own_G p.tables e below _ (T118.setTop (mkF m 128 #[.val (.long i0), .second, .val (.long i1), .second, .val (.long i2), .second, .val (.int r16), .val (.int r40), .val (.int r72), .val (.int r112), .val (.int (1 : Int32)), .val (.int (1 : Int32)), .val (.int (1 : Int32)), .unset] [(.int ((961 : Int32) * r118)), (.int r40)]))
  have hf119 : r40 = ((961 : Int32) * r118) := by subst_vars; exact own_h4 _
  refine own_st (fun _ k => XS.icmpNo X118.here hx rfl (hb hby at_128) rfl (teq hf119).2 k) ?_
  show own_G p.tables e below _ (T118.setTop (mkF m 131 #[.val (.long i0), .second, .val (.long i1), .second, .val (.long i2), .second, .val (.int r16), .val (.int r40), .val (.int r72), .val (.int r112), .val (.int (1 : Int32)), .val (.int (1 : Int32)), .val (.int (1 : Int32)), .unset] []))
  refine own_st (fun _ k => XS.iconst X118.here hx rfl (hb hby at_131) k) ?_
  show own_G p.tables e below _ (T118.setTop (mkF m 132 #[.val (.long i0), .second, .val (.long i1), .second, .val (.long i2), .second, .val (.int r16), .val (.int r40), .val (.int r72), .val (.int r112), .val (.int (1 : Int32)), .val (.int (1 : Int32)), .val (.int (1 : Int32)), .unset] [(.int (1 : Int32))]))
  refine own_st (fun _ k => XS.goto X118.here hx rfl (pc0 := 132) (pc' := 136) rfl (hb hby at_132) (by decide) (by decide) k) ?_
  show own_G p.tables e below _ (T118.setTop (mkF m 136 #[.val (.long i0), .second, .val (.long i1), .second, .val (.long i2), .second, .val (.int r16), .val (.int r40), .val (.int r72), .val (.int r112), .val (.int (1 : Int32)), .val (.int (1 : Int32)), .val (.int (1 : Int32)), .unset] [(.int (1 : Int32))]))
  refine own_st (fun _ k => XS.istore X118.here hx rfl (hb hby at_136) rfl (l' := #[.val (.long i0), .second, .val (.long i1), .second, .val (.long i2), .second, .val (.int r16), .val (.int r40), .val (.int r72), .val (.int r112), .val (.int (1 : Int32)), .val (.int (1 : Int32)), .val (.int (1 : Int32)), .val (.int (1 : Int32))]) rfl k) ?_
  show own_G p.tables e below _ (T118.setTop (mkF m 138 #[.val (.long i0), .second, .val (.long i1), .second, .val (.long i2), .second, .val (.int r16), .val (.int r40), .val (.int r72), .val (.int r112), .val (.int (1 : Int32)), .val (.int (1 : Int32)), .val (.int (1 : Int32)), .val (.int (1 : Int32))] []))
  refine own_st (fun _ k => XS.iload X118.here hx rfl (hb hby at_138) rfl k) ?_
  show own_G p.tables e below _ (T118.setTop (mkF m 140 #[.val (.long i0), .second, .val (.long i1), .second, .val (.long i2), .second, .val (.int r16), .val (.int r40), .val (.int r72), .val (.int r112), .val (.int (1 : Int32)), .val (.int (1 : Int32)), .val (.int (1 : Int32)), .val (.int (1 : Int32))] [(.int (1 : Int32))]))
  refine own_st (fun _ k => XS.ifNo X118.here hx rfl (hb hby at_140) rfl (by decide) k) ?_
  show own_G p.tables e below _ (T118.setTop (mkF m 143 #[.val (.long i0), .second, .val (.long i1), .second, .val (.long i2), .second, .val (.int r16), .val (.int r40), .val (.int r72), .val (.int r112), .val (.int (1 : Int32)), .val (.int (1 : Int32)), .val (.int (1 : Int32)), .val (.int (1 : Int32))] []))
  refine own_st (fun _ k => XS.iload X118.here hx rfl (hb hby at_143) rfl k) ?_
  show own_G p.tables e below _ (T118.setTop (mkF m 145 #[.val (.long i0), .second, .val (.long i1), .second, .val (.long i2), .second, .val (.int r16), .val (.int r40), .val (.int r72), .val (.int r112), .val (.int (1 : Int32)), .val (.int (1 : Int32)), .val (.int (1 : Int32)), .val (.int (1 : Int32))] [(.int (1 : Int32))]))
  refine own_st (fun _ k => XS.ifNo X118.here hx rfl (hb hby at_145) rfl (by decide) k) ?_
  show own_G p.tables e below _ (T118.setTop (mkF m 148 #[.val (.long i0), .second, .val (.long i1), .second, .val (.long i2), .second, .val (.int r16), .val (.int r40), .val (.int r72), .val (.int r112), .val (.int (1 : Int32)), .val (.int (1 : Int32)), .val (.int (1 : Int32)), .val (.int (1 : Int32))] []))
  refine own_st (fun _ k => XS.iload X118.here hx rfl (hb hby at_148) rfl k) ?_
  show own_G p.tables e below _ (T118.setTop (mkF m 150 #[.val (.long i0), .second, .val (.long i1), .second, .val (.long i2), .second, .val (.int r16), .val (.int r40), .val (.int r72), .val (.int r112), .val (.int (1 : Int32)), .val (.int (1 : Int32)), .val (.int (1 : Int32)), .val (.int (1 : Int32))] [(.int (1 : Int32))]))
  refine own_st (fun _ k => XS.ifNo X118.here hx rfl (hb hby at_150) rfl (by decide) k) ?_
  show own_G p.tables e below _ (T118.setTop (mkF m 153 #[.val (.long i0), .second, .val (.long i1), .second, .val (.long i2), .second, .val (.int r16), .val (.int r40), .val (.int r72), .val (.int r112), .val (.int (1 : Int32)), .val (.int (1 : Int32)), .val (.int (1 : Int32)), .val (.int (1 : Int32))] []))
  refine own_st (fun _ k => XS.iload X118.here hx rfl (hb hby at_153) rfl k) ?_
  show own_G p.tables e below _ (T118.setTop (mkF m 155 #[.val (.long i0), .second, .val (.long i1), .second, .val (.long i2), .second, .val (.int r16), .val (.int r40), .val (.int r72), .val (.int r112), .val (.int (1 : Int32)), .val (.int (1 : Int32)), .val (.int (1 : Int32)), .val (.int (1 : Int32))] [(.int (1 : Int32))]))
  refine own_st (fun _ k => XS.ifNo X118.here hx rfl (hb hby at_155) rfl (by decide) k) ?_
  show own_G p.tables e below _ (T118.setTop (mkF m 158 #[.val (.long i0), .second, .val (.long i1), .second, .val (.long i2), .second, .val (.int r16), .val (.int r40), .val (.int r72), .val (.int r112), .val (.int (1 : Int32)), .val (.int (1 : Int32)), .val (.int (1 : Int32)), .val (.int (1 : Int32))] []))
  refine own_st (fun _ k => XS.iconst X118.here hx rfl (hb hby at_158) k) ?_
  show own_G p.tables e below _ (T118.setTop (mkF m 159 #[.val (.long i0), .second, .val (.long i1), .second, .val (.long i2), .second, .val (.int r16), .val (.int r40), .val (.int r72), .val (.int r112), .val (.int (1 : Int32)), .val (.int (1 : Int32)), .val (.int (1 : Int32)), .val (.int (1 : Int32))] [(.int (1 : Int32))]))
  refine own_st (fun _ k => XS.goto X118.here hx rfl (pc0 := 159) (pc' := 163) rfl (hb hby at_159) (by decide) (by decide) k) ?_
  show own_G p.tables e below _ (T118.setTop (mkF m 163 #[.val (.long i0), .second, .val (.long i1), .second, .val (.long i2), .second, .val (.int r16), .val (.int r40), .val (.int r72), .val (.int r112), .val (.int (1 : Int32)), .val (.int (1 : Int32)), .val (.int (1 : Int32)), .val (.int (1 : Int32))] [(.int (1 : Int32))]))
  exact own_retZ X118 hx hlk Bd.returns (hb hby at_163) (by decide) ⟨rfl, N118⟩ (by decide) (by decide)
set_option maxRecDepth 65536 in
set_option maxHeartbeats 40000000 in
theorem comes_1 {Post : Tables → Env → Array Value → State → Outcome → State → Prop} (hpost : ∀ tb e args s v u, (limb_1_1.after args s (.returned v) u = true ∧ limb_1_2.after args s (.returned v) u = true ∧ True) → FrameEnd s (.returned v) u (Jvm.fieldLocs frame_1_writes args s ++ Jvm.arrayLocs frame_1_arrays args s ++ Jvm.staticLocs frame_1_statics s) 16 128 → Post tb e args s (.returned v) u) :
    ArmFor flags0 classFile x code maxLocals ret World_1 tables_1 room_1 Calls_1 rest_1 Pre_1 Post := by
  intro l hfl _ _ p e ha hc hk s m args below hf hA hF happ hP
  obtain ⟨hcalls, hrest, hpre⟩ := hP
  obtain ⟨-, -, -, hnamed, -, -, -, hat⟩ := (Spec.applies_iff hf).mp happ
  obtain ⟨hg, hn⟩ := and_e (Cond.before_iff.mp (show (Jvm.Cond.and given_1 narrow_1).before args s = true from hpre))
  obtain ⟨gc, g0⟩ := and_e hg
  obtain ⟨ga0, g1⟩ := and_e g0
  obtain ⟨ga1, g2⟩ := and_e g1
  obtain ⟨w0, w1, w2, rfl⟩ : ∃ w0 w1 w2 : Value, args = #[w0, w1, w2] := by
    have hs : args.size = 3 := by simpa [Cond.value, given_1] using gc
    obtain ⟨L⟩ := args
    match L, hs with
    | [w0, w1, w2], _ => exact ⟨w0, w1, w2, rfl⟩
  have hw := fun d (hd : d ∈ tables_1) => atoms_spec (ws := Jvm.Cond.code x code maxLocals ret :: tables_1) hat d (List.mem_cons_of_mem _ hd)
  have hfit : Fit s := fun {y c} hc i hi => by
    obtain ⟨ha, rfl⟩ := Array.getElem?_eq_some_iff.mp hc
    have q := List.all_eq_true.mp ((Array.all_eq_true_iff_forall_mem.mp hF) _ (Array.getElem_mem ha)) i (List.mem_range.mpr hi)
    simpa [Array.getElem?_eq_getElem hi] using q
  obtain ⟨i0, ei0⟩ := isL_v ga0
  obtain rfl : w0 = (.long i0) := Option.some.inj ei0
  obtain ⟨i1, ei1⟩ := isL_v ga1
  obtain rfl : w1 = (.long i1) := Option.some.inj ei1
  obtain ⟨i2, ei2⟩ := isL_v g2
  obtain rfl : w2 = (.long i2) := Option.some.inj ei2
  obtain ⟨n, o, h1, h2, h3, _, L, rfl, ⟨rfl, N⟩, hq⟩ := rm0 l s _ hw tables_1 i0 i1 i2  s.heap s.heap.size (Nat.le_refl _)   p e ha hc hk s m _ below hf ((Spec.applies_iff_loose hf).mp happ).1 ⟨rfl, State.Warmed39.refl s, rfl⟩ trivial
  refine ⟨n, _, h1, h2, h3, hpost _ _ _ _ _ _ ⟨Cond.after_iff.mpr rfl, Cond.after_iff.mpr (eq_i res_at (Term.int_eval (1)) rfl), trivial⟩ ⟨hq.1, hq.2.1, (hq.2.2.sift fun y hy => Or.inr (N y hy)).mono (by decide) (by decide)⟩⟩
theorem main_1_1 : Claimed_1_1 := comes_1 fun _ _ _ _ _ _ h hF => ⟨h.1, hF⟩
theorem main_1_2 : Claimed_1_2 := comes_1 fun _ _ _ _ _ _ h hF => ⟨h.2.1, hF⟩
end Jvm.Pilot.@@N@@
namespace Jvm.Pilot.@@N@@
open Jvm Jvm.ClassFile Sem Op Lib Jvm.Free Jvm.Stand Jvm.Pilot.@@N@@.Jvm.D
/-! MADE BY PROGRAM (witnessworld.py) out of the Statement's table words and the real class files: 14 classes; the members and pool entries that the words name. The judged class is class 1, her method 2. -/
namespace start1
open Jvm.ClassFile
def u (s : String) : CpInfo := .utf8 (stringToUtf16 s)
/-- a pool by its gaps: so many unusable entries, then the entry; so many at the end -/
def gap : Nat → List CpInfo → List CpInfo
  | 0, r => r
  | n + 1, r => .unusable :: gap n r
def poolList (es : List (Nat × CpInfo)) (last : Nat) : List CpInfo := es.foldr (fun e r => gap e.1 (e.2 :: r)) (gap last [])
def pool (es : List (Nat × CpInfo)) (last : Nat) : Array CpInfo := ⟨poolList es last⟩
def fileOf (pool : Array CpInfo) (this : Nat) (attrs : Array Attribute := #[]) (ms : Array MethodInfo := #[]) (fl : Nat := 33) (sup : Nat := 0) (ifs : Array Nat := #[]) (fds : Array FieldInfo := #[]) : ClassFile where
  minorVersion := 0
  majorVersion := 65
  constantPool := pool
  accessFlags := fl
  thisClass := this
  superClass := sup
  interfaces := ifs
  fields := fds
  methods := ms
  attributes := attrs
def plain (name : String) (sup : Option ClassId) : Class where
  name := name
  kind := .ordinary
  loader := none
  accessFlags := 33
  super := sup
  interfaces := #[]
  cf := none
  fields := #[]
  methods := #[]
  instanceTypes := #[]
  staticTypes := #[]
  resolved := #[]
  callSites := []
  init := .initialized
  statics := none
  mirror := none

def pool0 : Array CpInfo := pool [(5, u "<init>"), (0, u "()V"), (1, .class_ 10), (1, u "java/lang/Object")] 113

def k0c0 : Code := { maxStack := 0, maxLocals := 1, code := object_method_1_code, exceptionTable := #[], attributes := #[] }
def k0m0 : Method := { name := "<init>", desc := "()V", sig := { parameters := [], returnType := none }, accessFlags := 1, code := some k0c0 }
/-- java/lang/Object -/
def k0 : Class := { plain "java/lang/Object" none with
  accessFlags := 33
  interfaces := #[]
  cf := some (fileOf pool0 8 #[] #[{ accessFlags := 1, nameIndex := 5, descriptorIndex := 6, attributes := #[] }] 33 0 #[] #[])
  fields := #[]
  methods := #[k0m0]
  instanceTypes := #[]
  staticTypes := #[]
  resolved := Array.replicate 124 none
  statics := none }

def pool1 : Array CpInfo := pool [(2, .class_ 4), (1, u "java/lang/Object"), (0, u "<init>"), (0, u "()V"), (0, .class_ 8), (0, u "com/example/timed_queue/timedqueue/model/QueueCounts"), (0, .methodref 7 10), (0, .nameAndType 5 11), (0, u "(JJJ)V"), (0, .methodref 7 13), (0, .nameAndType 14 15), (0, u "hashCode"), (0, u "()I"), (0, .methodref 17 18), (0, .class_ 19), (0, .nameAndType 20 21), (0, u "com/example/timed_queue/timedqueue/model/QueueCountsHashCodePinLaw"), (0, u "lh"), (0, u "(J)I"), (2, u "law"), (0, u "(JJJ)Z")] 3

def k1m0 : Method := { name := "<init>", desc := "()V", sig := { parameters := [], returnType := none }, accessFlags := 1, code := none }
def k1c1 : Code := { maxStack := 5, maxLocals := 2, code := method_2_code, exceptionTable := #[], attributes := #[] }
def k1m1 : Method := { name := "lh", desc := "(J)I", sig := { parameters := [.long], returnType := some .int }, accessFlags := 10, code := some k1c1 }
def k1c2 : Code := { maxStack := 8, maxLocals := 14, code := code, exceptionTable := #[], attributes := #[] }
def k1m2 : Method := { name := "law", desc := "(JJJ)Z", sig := { parameters := [.long, .long, .long], returnType := some .boolean }, accessFlags := 9, code := some k1c2 }
/-- com/example/timed_queue/timedqueue/model/QueueCountsHashCodePinLaw -/
def k1 : Class := { plain "com/example/timed_queue/timedqueue/model/QueueCountsHashCodePinLaw" (some 0) with
  accessFlags := 49
  interfaces := #[]
  cf := some (fileOf pool1 17 #[] #[{ accessFlags := 1, nameIndex := 5, descriptorIndex := 6, attributes := #[] }, { accessFlags := 10, nameIndex := 20, descriptorIndex := 21, attributes := #[] }, { accessFlags := 9, nameIndex := 24, descriptorIndex := 25, attributes := #[] }] 49 2 #[] #[])
  fields := #[]
  methods := #[k1m0, k1m1, k1m2]
  instanceTypes := #[]
  staticTypes := #[]
  resolved := Array.replicate 29 none
  statics := none }

def pool2 : Array CpInfo := pool [(1, .methodref 2 3), (0, .class_ 4), (0, .nameAndType 5 6), (0, u "java/lang/Object"), (0, u "<init>"), (0, u "()V"), (0, .fieldref 8 9), (0, .class_ 10), (0, .nameAndType 11 12), (0, u "com/example/timed_queue/timedqueue/model/QueueCounts"), (0, u "waiting"), (0, u "J"), (0, .fieldref 8 14), (0, .nameAndType 15 12), (0, u "inFlight"), (0, .fieldref 8 17), (0, .nameAndType 18 12), (0, u "dead"), (0, .methodref 20 21), (0, .class_ 22), (0, .nameAndType 23 24), (0, u "java/lang/Long"), (0, u "hashCode"), (0, u "(J)I"), (4, u "(JJJ)V"), (6, u "()I")] 19

def k2c0 : Code := { maxStack := 3, maxLocals := 7, code := prog_11_method_1_code, exceptionTable := #[], attributes := #[] }
def k2m0 : Method := { name := "<init>", desc := "(JJJ)V", sig := { parameters := [.long, .long, .long], returnType := none }, accessFlags := 1, code := some k2c0 }
def k2c1 : Code := { maxStack := 3, maxLocals := 1, code := prog_11_method_6_code, exceptionTable := #[], attributes := #[] }
def k2m1 : Method := { name := "hashCode", desc := "()I", sig := { parameters := [], returnType := some .int }, accessFlags := 1, code := some k2c1 }
/-- com/example/timed_queue/timedqueue/model/QueueCounts -/
def k2 : Class := { plain "com/example/timed_queue/timedqueue/model/QueueCounts" (some 0) with
  accessFlags := 49
  interfaces := #[]
  cf := some (fileOf pool2 8 #[] #[{ accessFlags := 1, nameIndex := 5, descriptorIndex := 29, attributes := #[] }, { accessFlags := 1, nameIndex := 23, descriptorIndex := 36, attributes := #[] }] 49 2 #[] #[{ accessFlags := 18, nameIndex := 11, descriptorIndex := 12, attributes := #[] }, { accessFlags := 18, nameIndex := 15, descriptorIndex := 12, attributes := #[] }, { accessFlags := 18, nameIndex := 18, descriptorIndex := 12, attributes := #[] }])
  fields := #[{ name := "waiting", type := .long, accessFlags := 18, slot := 0, constantValue := 0 }, { name := "inFlight", type := .long, accessFlags := 18, slot := 1, constantValue := 0 }, { name := "dead", type := .long, accessFlags := 18, slot := 2, constantValue := 0 }]
  methods := #[k2m0, k2m1]
  instanceTypes := #[.long, .long, .long]
  staticTypes := #[]
  resolved := Array.replicate 56 none
  statics := none }

def pool3 : Array CpInfo := pool [(1, .class_ 2), (0, u "java/io/Serializable"), (0, .class_ 4), (0, u "java/lang/Object")] 2

/-- java/io/Serializable -/
def k3 : Class := { plain "java/io/Serializable" (some 0) with
  accessFlags := 1537
  interfaces := #[]
  cf := some (fileOf pool3 1 #[] #[] 1537 3 #[] #[])
  fields := #[]
  methods := #[]
  instanceTypes := #[]
  staticTypes := #[]
  resolved := Array.replicate 7 none
  statics := none }

def pool4 : Array CpInfo := pool [(2, .class_ 4), (1, u "java/lang/Object"), (0, u "<init>"), (0, u "()V"), (1, .class_ 10), (1, u "java/lang/Number"), (2, .class_ 14), (0, u "java/io/Serializable"), (0, u "serialVersionUID"), (0, u "J")] 20

def k4m0 : Method := { name := "<init>", desc := "()V", sig := { parameters := [], returnType := none }, accessFlags := 1, code := none }
/-- java/lang/Number -/
def k4 : Class := { plain "java/lang/Number" (some 0) with
  accessFlags := 1057
  interfaces := #[3]
  cf := some (fileOf pool4 8 #[] #[{ accessFlags := 1, nameIndex := 5, descriptorIndex := 6, attributes := #[] }] 1057 2 #[13] #[{ accessFlags := 26, nameIndex := 15, descriptorIndex := 16, attributes := #[] }])
  fields := #[{ name := "serialVersionUID", type := .long, accessFlags := 26, slot := 0, constantValue := 0 }]
  methods := #[k4m0]
  instanceTypes := #[]
  staticTypes := #[.long]
  resolved := Array.replicate 37 none
  statics := none }

def pool5 : Array CpInfo := pool [(1, .class_ 2), (0, u "java/lang/Comparable"), (0, .class_ 4), (0, u "java/lang/Object")] 7

/-- java/lang/Comparable -/
def k5 : Class := { plain "java/lang/Comparable" (some 0) with
  accessFlags := 1537
  interfaces := #[]
  cf := some (fileOf pool5 1 #[] #[] 1537 3 #[] #[])
  fields := #[]
  methods := #[]
  instanceTypes := #[]
  staticTypes := #[]
  resolved := Array.replicate 12 none
  statics := none }

def pool6 : Array CpInfo := pool [(1, .class_ 2), (0, u "java/lang/constant/Constable"), (0, .class_ 4), (0, u "java/lang/Object")] 6

/-- java/lang/constant/Constable -/
def k6 : Class := { plain "java/lang/constant/Constable" (some 0) with
  accessFlags := 1537
  interfaces := #[]
  cf := some (fileOf pool6 1 #[] #[] 1537 3 #[] #[])
  fields := #[]
  methods := #[]
  instanceTypes := #[]
  staticTypes := #[]
  resolved := Array.replicate 11 none
  statics := none }

def pool7 : Array CpInfo := pool [(1, .class_ 2), (0, u "java/lang/constant/ConstantDesc"), (0, .class_ 4), (0, u "java/lang/Object")] 32

/-- java/lang/constant/ConstantDesc -/
def k7 : Class := { plain "java/lang/constant/ConstantDesc" (some 0) with
  accessFlags := 1537
  interfaces := #[]
  cf := some (fileOf pool7 1 #[] #[] 1537 3 #[] #[])
  fields := #[]
  methods := #[]
  instanceTypes := #[]
  staticTypes := #[]
  resolved := Array.replicate 37 none
  statics := none }

def pool8 : Array CpInfo := pool [(1, .class_ 2), (0, u "java/lang/Long"), (98, u "(J)I"), (133, .class_ 237), (1, u "java/lang/Long$LongCache"), (33, .class_ 272), (0, u "java/lang/Number"), (2, u "value"), (0, u "J"), (2, u "hashCode"), (81, u "TYPE"), (0, u "Ljava/lang/Class;"), (0, .class_ 364), (0, u "java/lang/Comparable"), (0, .class_ 366), (0, u "java/lang/constant/Constable"), (0, .class_ 368), (0, u "java/lang/constant/ConstantDesc"), (0, u "MIN_VALUE"), (1, u "MAX_VALUE"), (4, u "SIZE"), (0, u "I"), (1, u "BYTES"), (1, u "serialVersionUID")] 142

def k8c0 : Code := { maxStack := 5, maxLocals := 2, code := jdk_35_method_36_code, exceptionTable := #[], attributes := #[] }
def k8m0 : Method := { name := "hashCode", desc := "(J)I", sig := { parameters := [.long], returnType := some .int }, accessFlags := 9, code := some k8c0 }
/-- java/lang/Long -/
def k8 : Class := { plain "java/lang/Long" (some 4) with
  accessFlags := 49
  interfaces := #[5, 6, 7]
  cf := some (fileOf pool8 1 #[.nestMembers #[235]] #[{ accessFlags := 9, nameIndex := 279, descriptorIndex := 101, attributes := #[] }] 49 271 #[363, 365, 367] #[{ accessFlags := 25, nameIndex := 369, descriptorIndex := 276, attributes := #[] }, { accessFlags := 25, nameIndex := 371, descriptorIndex := 276, attributes := #[] }, { accessFlags := 25, nameIndex := 361, descriptorIndex := 362, attributes := #[] }, { accessFlags := 18, nameIndex := 275, descriptorIndex := 276, attributes := #[] }, { accessFlags := 25, nameIndex := 376, descriptorIndex := 377, attributes := #[] }, { accessFlags := 25, nameIndex := 379, descriptorIndex := 377, attributes := #[] }, { accessFlags := 26, nameIndex := 381, descriptorIndex := 276, attributes := #[] }])
  fields := #[{ name := "MIN_VALUE", type := .long, accessFlags := 25, slot := 0, constantValue := 0 }, { name := "MAX_VALUE", type := .long, accessFlags := 25, slot := 1, constantValue := 0 }, { name := "TYPE", type := (.object "java/lang/Class"), accessFlags := 25, slot := 2, constantValue := 0 }, { name := "value", type := .long, accessFlags := 18, slot := 0, constantValue := 0 }, { name := "SIZE", type := .int, accessFlags := 25, slot := 3, constantValue := 0 }, { name := "BYTES", type := .int, accessFlags := 25, slot := 4, constantValue := 0 }, { name := "serialVersionUID", type := .long, accessFlags := 26, slot := 5, constantValue := 0 }]
  methods := #[k8m0]
  instanceTypes := #[.long]
  staticTypes := #[.long, .long, (.object "java/lang/Class"), .int, .int, .long]
  resolved := Array.replicate 524 none
  statics := none }

def pool9 : Array CpInfo := pool [(1, u "java/lang/Cloneable"), (0, .class_ 1), (0, u "java/lang/Object"), (0, .class_ 3)] 3

/-- java/lang/Cloneable -/
def k9 : Class := { plain "java/lang/Cloneable" (some 0) with
  accessFlags := 1537
  interfaces := #[]
  cf := some (fileOf pool9 2 #[] #[] 1537 4 #[] #[])
  fields := #[]
  methods := #[]
  instanceTypes := #[]
  staticTypes := #[]
  resolved := Array.replicate 8 none
  statics := none }

/-- the primitive byte -/
def k10 : Class := { plain "byte" none with kind := .primitive 'B', accessFlags := 0x411 }
/-- [B -/
def k11 : Class := { plain "[B" (some 0) with kind := .array 10 .byte, interfaces := #[9, 3], accessFlags := 1041 }

/-- the primitive int -/
def k12 : Class := { plain "int" none with kind := .primitive 'I', accessFlags := 0x411 }
/-- [I -/
def k13 : Class := { plain "[I" (some 0) with kind := .array 12 .int, interfaces := #[9, 3], accessFlags := 1041 }

def heap : Heap := #[]
def classes : Array Class := #[k0, k1, k2, k3, k4, k5, k6, k7, k8, k9, k10, k11, k12, k13]
def interned : List (Array UInt16 × Addr) := []
def slotsUsed : Nat := 0
def theMethod : MethodId := ⟨1, 2⟩
def args0 : Array Value := #[.long 5, .long 5, .long 5]
def aboutOver (below : List Frame) : State where
  vm := { classes := classes, interned := interned.toArray }
  heap := heap
  slotsUsed := slotsUsed
  threads := #[{ frames := .invoking theMethod args0 :: below }]
def below0 : List Frame := [.native { method := ⟨0, 0⟩, args := #[] }]
def about1 : State := aboutOver below0
def p0 : Program := .bare "" "" ""
def e0 : Env := launch0.env 0 0 0
theorem w_frames : about1.frames = Frame.invoking theMethod args0 :: below0 := rfl
set_option maxRecDepth 65536 in
theorem w_args : argsFit about1.vm theMethod args0 = true := by decide +kernel
set_option maxRecDepth 65536 in
theorem w_heap : heapFits about1 = true := by decide +kernel
set_option maxRecDepth 65536 in
theorem w_runnable : about1.curStatus? = some .runnable := by decide +kernel
set_option maxRecDepth 65536 in
theorem w_alone : about1.alone = true := by decide +kernel
set_option maxRecDepth 65536 in
theorem w_named : about1.methodNamed? x = some theMethod := by decide +kernel
set_option maxRecDepth 65536 in
theorem w_hears : about1.hears theMethod below0 = true := by decide +kernel
set_option maxRecDepth 65536 in
theorem w_ripe : about1.ripe theMethod args0 below0 = true := by decide +kernel
theorem w_running : about1.status = .running := rfl
set_option maxRecDepth 65536 in
theorem w_room : about1.hasRoom e0.platform room_1 = true :=
  launch0.hasRoom_least _ room_1 (by decide +kernel) (by decide +kernel) (by decide +kernel) (by decide +kernel) (by decide +kernel) (by decide +kernel)
theorem allAtoms_all (ts : List Jvm.Cond) (a : Array Jvm.Value) (st : Jvm.State) : (allAtoms ts).before a st = ts.all (fun c => c.before a st) := by
  induction ts with
  | nil => rfl
  | cons c t ih =>
    show (Jvm.Cond.and c (allAtoms t)).before a st = _
    rw [Jvm.Cond.before_and, ih, List.all_cons]
def words1 : List Jvm.Cond := Jvm.Cond.code x code maxLocals ret :: tables_1
/-- a 'code' word, met by the world's own term for the bytes: nothing is compared byte by byte -/
theorem code_word {y : MethodName} {bytes : ByteArray} {mx : Nat} {rt : Option FieldType} {a : Array Value} {s : State} {m : MethodId} {meth : Method} {c : Code} (h1 : s.methodNamed? y = some m) (h2 : s.vm.method? m = some meth) (h3 : meth.code = some c) (h4 : c.code = bytes)
    (h5 : (c.maxLocals == mx && c.exceptionTable.isEmpty && decide (c.maxStack ≤ mostOperands) && decide (meth.sig.returnType = rt) && !meth.locks && decide (parseMethodDescriptor y.desc = some meth.sig)) = true) : (Jvm.Cond.code y bytes mx rt).before a s = true := by
  simp only [Bool.and_eq_true, beq_iff_eq, Bool.not_eq_true', decide_eq_true_eq] at h5
  obtain ⟨⟨⟨⟨⟨g1, g2⟩, g3⟩, g4⟩, g5⟩, g6⟩ := h5
  simp [Cond.before, Cond.holds, Cond.value, h1, h2, h3, h4, g1, g2, g3, g4, g5, g6]
def isCode : Jvm.Cond → Bool
  | .code _ _ _ _ => true
  | _ => false
theorem all_split {L : List Jvm.Cond} {P : Jvm.Cond → Bool} (h1 : L.all (fun c => isCode c || P c) = true) (h2 : ∀ c ∈ L.filter isCode, P c = true) : L.all P = true := by
  refine List.all_eq_true.mpr fun c hc => ?_
  have h := List.all_eq_true.mp h1 c hc
  rcases Bool.eq_false_or_eq_true (isCode c) with hi | hi
  · exact h2 c (List.mem_filter.mpr ⟨hc, hi⟩)
  · simpa [hi] using h
set_option maxRecDepth 65536 in
theorem w_c0 : (Jvm.Cond.code x code maxLocals ret).before args0 about1 = true := code_word (m := ⟨1, 2⟩) (meth := k1m2) (c := k1c2) (by decide +kernel) rfl rfl rfl (by decide +kernel)
set_option maxRecDepth 65536 in
theorem w_c1 : (Jvm.Cond.code ({ cls := "com/example/timed_queue/timedqueue/model/QueueCounts", name := "<init>", desc := "(JJJ)V" } : Jvm.MethodName) prog_11_method_1_code (7 : Nat) (Option.none : Option Jvm.ClassFile.FieldType)).before args0 about1 = true := code_word (m := ⟨2, 0⟩) (meth := k2m0) (c := k2c0) (by decide +kernel) rfl rfl rfl (by decide +kernel)
set_option maxRecDepth 65536 in
theorem w_c2 : (Jvm.Cond.code ({ cls := "java/lang/Object", name := "<init>", desc := "()V" } : Jvm.MethodName) object_method_1_code (1 : Nat) (Option.none : Option Jvm.ClassFile.FieldType)).before args0 about1 = true := code_word (m := ⟨0, 0⟩) (meth := k0m0) (c := k0c0) (by decide +kernel) rfl rfl rfl (by decide +kernel)
set_option maxRecDepth 65536 in
theorem w_c3 : (Jvm.Cond.code ({ cls := "com/example/timed_queue/timedqueue/model/QueueCounts", name := "hashCode", desc := "()I" } : Jvm.MethodName) prog_11_method_6_code (1 : Nat) (Option.some Jvm.ClassFile.FieldType.int)).before args0 about1 = true := code_word (m := ⟨2, 1⟩) (meth := k2m1) (c := k2c1) (by decide +kernel) rfl rfl rfl (by decide +kernel)
set_option maxRecDepth 65536 in
theorem w_c4 : (Jvm.Cond.code ({ cls := "java/lang/Long", name := "hashCode", desc := "(J)I" } : Jvm.MethodName) jdk_35_method_36_code (2 : Nat) (Option.some Jvm.ClassFile.FieldType.int)).before args0 about1 = true := code_word (m := ⟨8, 0⟩) (meth := k8m0) (c := k8c0) (by decide +kernel) rfl rfl rfl (by decide +kernel)
set_option maxRecDepth 65536 in
theorem w_c5 : (Jvm.Cond.code ({ cls := "com/example/timed_queue/timedqueue/model/QueueCountsHashCodePinLaw", name := "lh", desc := "(J)I" } : Jvm.MethodName) method_2_code (2 : Nat) (Option.some Jvm.ClassFile.FieldType.int)).before args0 about1 = true := code_word (m := ⟨1, 1⟩) (meth := k1m1) (c := k1c1) (by decide +kernel) rfl rfl rfl (by decide +kernel)
def codes1 : List Jvm.Cond := [Jvm.Cond.code x code maxLocals ret, Jvm.Cond.code ({ cls := "com/example/timed_queue/timedqueue/model/QueueCounts", name := "<init>", desc := "(JJJ)V" } : Jvm.MethodName) prog_11_method_1_code (7 : Nat) (Option.none : Option Jvm.ClassFile.FieldType), Jvm.Cond.code ({ cls := "java/lang/Object", name := "<init>", desc := "()V" } : Jvm.MethodName) object_method_1_code (1 : Nat) (Option.none : Option Jvm.ClassFile.FieldType), Jvm.Cond.code ({ cls := "com/example/timed_queue/timedqueue/model/QueueCounts", name := "hashCode", desc := "()I" } : Jvm.MethodName) prog_11_method_6_code (1 : Nat) (Option.some Jvm.ClassFile.FieldType.int), Jvm.Cond.code ({ cls := "java/lang/Long", name := "hashCode", desc := "(J)I" } : Jvm.MethodName) jdk_35_method_36_code (2 : Nat) (Option.some Jvm.ClassFile.FieldType.int), Jvm.Cond.code ({ cls := "com/example/timed_queue/timedqueue/model/QueueCountsHashCodePinLaw", name := "lh", desc := "(J)I" } : Jvm.MethodName) method_2_code (2 : Nat) (Option.some Jvm.ClassFile.FieldType.int)]
set_option maxRecDepth 65536 in
theorem codes_eq : words1.filter isCode = codes1 := rfl
theorem w_codes : ∀ c ∈ words1.filter isCode, c.before args0 about1 = true := by
  rw [codes_eq]
  intro c hc
  simp only [codes1, List.mem_cons, List.not_mem_nil, or_false] at hc
  rcases hc with rfl | rfl | rfl | rfl | rfl | rfl
  · exact w_c0
  · exact w_c1
  · exact w_c2
  · exact w_c3
  · exact w_c4
  · exact w_c5
set_option maxRecDepth 65536 in
theorem w_t1 : (words1.take 24).all (fun c => isCode c || c.before args0 about1) = true := by decide +kernel
set_option maxRecDepth 65536 in
theorem w_t2 : (words1.drop 24).all (fun c => isCode c || c.before args0 about1) = true := by decide +kernel
theorem w_tables : (allAtoms (Jvm.Cond.code x code maxLocals ret :: tables_1)).before args0 about1 = true := by
  rw [allAtoms_all]
  show words1.all (fun c => c.before args0 about1) = true
  refine all_split ?_ w_codes
  rw [← List.take_append_drop 24 words1, List.all_append, w_t1, w_t2]
  rfl
set_option maxRecDepth 65536 in
theorem w_case : (Jvm.Cond.and given_1 narrow_1).before args0 about1 = true := by decide +kernel
theorem w_applies : (headSpec (Jvm.Cond.code x code maxLocals ret :: tables_1) room_1).applies x e0.platform about1 = true :=
  (Spec.applies_iff w_frames).mpr ⟨w_running, w_runnable, w_alone, w_named, w_hears, w_ripe, w_room, w_tables⟩
theorem atStart : AtStart classFile x code maxLocals ret World_1 tables_1 room_1 Calls_1 rest_1 Pre_1 launch0 p0 e0 about1 theMethod args0 below0 :=
  ⟨lists_1, trivial, launch0.admits_env _ _ _, launch0.least_env, fairChoices_fair.cas, fairChoices_fair.clock, w_frames, w_args, w_heap, w_applies, trivial, trivial, w_case⟩
end start1
theorem witness_1 : WitnessClaimed_1 := ⟨start1.p0, start1.e0, start1.about1, start1.theMethod, start1.args0, start1.below0, start1.atStart⟩
end Jvm.Pilot.@@N@@
