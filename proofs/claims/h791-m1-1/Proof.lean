import JvmDerived
import JvmDerived.Pilot.@@N@@Statement
import JvmDerived.Pilot.@@N@@Code
set_option linter.unusedVariables false
set_option linter.unusedSimpArgs false
namespace Jvm.RoadKit
open Sem ClassFile Op Lib Jvm.Stand Jvm.Free Jvm.LawKit
section Own
variable {p : Program} {l : Launch} {e : Env} {R : Room} {s : State} {m : MethodId} {args : Array Value} {below : List Frame} {meth : Method} {c : Code} {T : State} {locs : List Loc} {cells slots : Nat}
theorem retI (X : Stand p l e R s m args below meth c T locs cells slots) (hx : p.tables.exec = Jvm.exec) {pc : Nat} {Ls : Array Slot} {z : Int32} {rest : List Value} (hret : meth.sig.returnType = some .int) (hd : decode c.code pc = .ok (.ireturn, 1)) {fs : List Frame}
    (hl : ∀ (f : JFrame) (acts : List Action), f.method = m → f.locked = none → f.entered = [] → (doReturn e (T.setTop f) acts (some (.int z))).1 = T.setFrames fs) : Steps p.tables e below (T.setTop (mkF m pc Ls (.int z :: rest))) (T.setFrames fs) := by
  have hm' : T.vm.method? m = some meth := X.method'
  have hn : narrow .int (.int z) = .int z := rfl
  show Steps p.tables e below (T.setTop { method := m, pc := pc, locals := Ls, stack := _ :: rest, locked := none }) _
  jvm_step X.here [X.here.top, hx, hd, hm', hret, hn]
  first | (intro acts; rw [hl _ acts rfl rfl rfl]) | rw [hl _ _ rfl rfl rfl]
  exact Steps.refl _
/-- the run from st comes to an end of which P holds -/
def own_G (tb : Tables) (e : Env) (below : List Frame) (P : Outcome → State → Prop) (st : State) : Prop :=
  ∃ s₂ o, Steps tb e below st s₂ ∧ s₂.status = .running ∧ Ended s₂ below o ∧ P o s₂
theorem own_st {tb : Tables} {P : Outcome → State → Prop} {st st' : State} (h : ∀ t, Steps tb e below st' t → Steps tb e below st t) (k : own_G tb e below P st') : own_G tb e below P st := by
  obtain ⟨s2, o, h1, h2⟩ := k
  exact ⟨s2, o, h _ h1, h2⟩
def own_P (s : State) (Q : Option Value → Heap → List Loc → Prop) (k n : Nat) (o : Outcome) (U' : State) : Prop :=
  ∃ v L, o = .returned v ∧ Q v U'.heap L ∧ FrameEnd s o U' L k n
theorem own_end {Q : Option Value → Heap → List Loc → Prop} {k n : Nat} {st : State} {v : Option Value} (X : Stand p l e R s m args below meth c T locs cells slots) (hlk : meth.locks = false) (hv : meth.sig.returnType = none → v = none)
    (hst : ∀ fs, (∀ (f : JFrame) (acts : List Action), f.method = m → f.locked = none → f.entered = [] → (doReturn e (T.setTop f) acts v).1 = T.setFrames fs) → Steps p.tables e below st (T.setFrames fs))
    (hQ : Q v T.heap locs) (hk : cells ≤ k) (hn : slots ≤ n) : own_G p.tables e below (own_P s Q k n) st := by
  obtain ⟨fs, hr, hrun, hended, hW, hsame⟩ := X.leave hv hlk
  exact ⟨_, _, hst fs hr, hrun, hended, _, _, rfl, hQ, ⟨_, rfl⟩, hW, hsame.mono hk hn⟩
theorem own_retZ {Q : Option Value → Heap → List Loc → Prop} {k n : Nat} (X : Stand p l e R s m args below meth c T locs cells slots) (hx : p.tables.exec = Jvm.exec) (hlk : meth.locks = false) (hret : meth.sig.returnType = some .boolean) {pc : Nat} {Ls : Array Slot} {z : Int32} {rest : List Value}
    (hd : decode c.code pc = .ok (.ireturn, 1)) (hz : nar .boolean z = z) (hQ : Q (some (.int z)) T.heap locs) (hk : cells ≤ k) (hn : slots ≤ n) : own_G p.tables e below (own_P s Q k n) (T.setTop (mkF m pc Ls (.int z :: rest))) :=
  own_end X hlk (fun h => by rw [hret] at h; cases h) (fun fs hr => retN X hx (t := .boolean) hret (by simp) hd (by rw [hz]; exact hr)) hQ hk hn
theorem own_retI {Q : Option Value → Heap → List Loc → Prop} {k n : Nat} (X : Stand p l e R s m args below meth c T locs cells slots) (hx : p.tables.exec = Jvm.exec) (hlk : meth.locks = false) (hret : meth.sig.returnType = some .int) {pc : Nat} {Ls : Array Slot} {z : Int32} {rest : List Value}
    (hd : decode c.code pc = .ok (.ireturn, 1)) (hQ : Q (some (.int z)) T.heap locs) (hk : cells ≤ k) (hn : slots ≤ n) : own_G p.tables e below (own_P s Q k n) (T.setTop (mkF m pc Ls (.int z :: rest))) :=
  own_end X hlk (fun h => by rw [hret] at h; cases h) (fun fs hr => retI X hx hret hd hr) hQ hk hn
theorem own_retJ {Q : Option Value → Heap → List Loc → Prop} {k n : Nat} (X : Stand p l e R s m args below meth c T locs cells slots) (hx : p.tables.exec = Jvm.exec) (hlk : meth.locks = false) (hret : meth.sig.returnType = some .long) {pc : Nat} {Ls : Array Slot} {z : Int64} {rest : List Value}
    (hd : decode c.code pc = .ok (.lreturn, 1)) (hQ : Q (some (.long z)) T.heap locs) (hk : cells ≤ k) (hn : slots ≤ n) : own_G p.tables e below (own_P s Q k n) (T.setTop (mkF m pc Ls (.long z :: rest))) :=
  own_end X hlk (fun h => by rw [hret] at h; cases h) (fun fs hr => retOut X hx hret rfl (Or.inr (Or.inl ⟨rfl, rfl, _, rfl⟩)) hd hr) hQ hk hn
theorem own_retR {Q : Option Value → Heap → List Loc → Prop} {k n : Nat} {t : FieldType} (X : Stand p l e R s m args below meth c T locs cells slots) (hx : p.tables.exec = Jvm.exec) (hlk : meth.locks = false) (hret : meth.sig.returnType = some t) (ht : t.isReference = true) {pc : Nat} {Ls : Array Slot} {w : Value} {rest : List Value} (hw : w.isRef = true) (hnw : narrow t w = w)
    (hd : decode c.code pc = .ok (.areturn, 1)) (hQ : Q (some w) T.heap locs) (hk : cells ≤ k) (hn : slots ≤ n) : own_G p.tables e below (own_P s Q k n) (T.setTop (mkF m pc Ls (w :: rest))) :=
  own_end X hlk (fun h => by rw [hret] at h; cases h) (fun fs hr => retOut X hx hret hnw (Or.inr (Or.inr (Or.inr (Or.inr ⟨rfl, ht, hw⟩)))) hd hr) hQ hk hn
theorem own_retV {Q : Option Value → Heap → List Loc → Prop} {k n : Nat} (X : Stand p l e R s m args below meth c T locs cells slots) (hx : p.tables.exec = Jvm.exec) (hlk : meth.locks = false) (hret : meth.sig.returnType = none) {pc : Nat} {Ls : Array Slot}
    (hd : decode c.code pc = .ok (.return_, 1)) (hQ : Q none T.heap locs) (hk : cells ≤ k) (hn : slots ≤ n) : own_G p.tables e below (own_P s Q k n) (T.setTop (mkF m pc Ls [])) :=
  own_end X hlk (fun _ => rfl) (fun fs hr => X.returnOut hx hret hd hr) hQ hk hn
theorem own_mono {cells' slots' : Nat} (X : Stand p l e R s m args below meth c T locs cells slots) (h1 : cells ≤ cells') (h2 : slots ≤ slots') : Stand p l e R s m args below meth c T locs cells' slots' :=
  ⟨X.admits, X.cas, X.clock, X.frames, X.room, X.hears, X.method, X.code, X.here, X.tail, X.warmed, X.limits, X.bytes, X.same.mono h1 h2⟩
theorem own_fld {Z : State} {h : Heap} {a : Addr} {C n d : String} {v w : Value} (F : Fld Z h a C n d v) (q : v = w) : Fld Z h a C n d w := q ▸ F
end Own
/-- a boolean as the machine holds it -/
def own_b (P : Prop) [Decidable P] : Int32 := if P then 1 else 0
theorem own_bt {P : Prop} [Decidable P] (h : P) : own_b P = 1 := if_pos h
theorem own_bf {P : Prop} [Decidable P] (h : ¬ P) : own_b P = 0 := if_neg h
theorem own_b1 {P : Prop} [Decidable P] {z : Int32} (hz : z = own_b P) (h : P) : ¬ z = 0 := by rw [hz, own_bt h]; decide
theorem own_b0 {P : Prop} [Decidable P] {z : Int32} (hz : z = own_b P) (h : ¬ P) : z = 0 := by rw [hz, own_bf h]
theorem own_nar {P : Prop} [Decidable P] {z : Int32} (hz : z = own_b P) : nar .boolean z = z := by
  rw [hz]; by_cases h : P
  · rw [own_bt h]; decide
  · rw [own_bf h]; decide
theorem own_fitZ {P : Prop} [Decidable P] {z : Int32} (hz : z = own_b P) : fits .boolean (.int z) = true := by
  rw [hz]; by_cases h : P
  · rw [own_bt h]; decide
  · rw [own_bf h]; decide
theorem own_bc {P Q : Prop} [Decidable P] [Decidable Q] (h : P ↔ Q) : own_b P = own_b Q := by
  by_cases q : Q
  · rw [own_bt q, own_bt (h.mpr q)]
  · rw [own_bf q, own_bf (fun r => q (h.mp r))]
theorem own_bi {P Q : Prop} [Decidable P] [Decidable Q] (h : own_b P = own_b Q) : P ↔ Q := by
  by_cases p : P <;> by_cases q : Q <;> simp_all [own_b]
end Jvm.RoadKit
namespace Jvm.Pilot.@@N@@
open Jvm Jvm.ClassFile Sem Op Lib Jvm.Free Jvm.Stand Jvm.LawKit Jvm.RoadKit Bundle Jvm.Pilot.@@N@@.Jvm.D
theorem pn_0 : plainName "com/example/spool/spool/storage/IndexEntryEqualsPinLaw" = true := by first | (simp [plainName, overriddenIn]; done) | decide +kernel
theorem d1_0 : decode prog_20_method_1_code 0 = .ok (.aload_n 0, 1) := by decide +kernel
theorem d1_1 : decode prog_20_method_1_code 1 = .ok (.invokespecial 1, 3) := by decide +kernel
theorem d1_4 : decode prog_20_method_1_code 4 = .ok (.aload_n 0, 1) := by decide +kernel
theorem d1_5 : decode prog_20_method_1_code 5 = .ok (.lload_n 1, 1) := by decide +kernel
theorem d1_6 : decode prog_20_method_1_code 6 = .ok (.putfield 7, 3) := by decide +kernel
theorem d1_9 : decode prog_20_method_1_code 9 = .ok (.aload_n 0, 1) := by decide +kernel
theorem d1_10 : decode prog_20_method_1_code 10 = .ok (.iload_n 3, 1) := by decide +kernel
theorem d1_11 : decode prog_20_method_1_code 11 = .ok (.putfield 13, 3) := by decide +kernel
theorem d1_14 : decode prog_20_method_1_code 14 = .ok (.aload_n 0, 1) := by decide +kernel
theorem d1_15 : decode prog_20_method_1_code 15 = .ok (.lload 4, 2) := by decide +kernel
theorem d1_17 : decode prog_20_method_1_code 17 = .ok (.putfield 17, 3) := by decide +kernel
theorem d1_20 : decode prog_20_method_1_code 20 = .ok (.return_, 1) := by decide +kernel
theorem pn_1 : plainName "com/example/spool/spool/storage/IndexEntry" = true := by first | (simp [plainName, overriddenIn]; done) | decide +kernel
theorem d3_0 : decode jdk_35_method_24_code 0 = .ok (.sipush 128, 3) := by decide +kernel
theorem d3_3 : decode jdk_35_method_24_code 3 = .ok (.istore_n 2, 1) := by decide +kernel
theorem d3_4 : decode jdk_35_method_24_code 4 = .ok (.lload_n 0, 1) := by decide +kernel
theorem d3_5 : decode jdk_35_method_24_code 5 = .ok (.ldc2_w 230, 3) := by decide +kernel
theorem d3_8 : decode jdk_35_method_24_code 8 = .ok (.lcmp, 1) := by decide +kernel
theorem d3_9 : decode jdk_35_method_24_code 9 = .ok (.ifCond .lt 22, 3) := by decide +kernel
theorem d3_12 : decode jdk_35_method_24_code 12 = .ok (.lload_n 0, 1) := by decide +kernel
theorem d3_13 : decode jdk_35_method_24_code 13 = .ok (.ldc2_w 232, 3) := by decide +kernel
theorem d3_16 : decode jdk_35_method_24_code 16 = .ok (.lcmp, 1) := by decide +kernel
theorem d3_17 : decode jdk_35_method_24_code 17 = .ok (.ifCond .gt 14, 3) := by decide +kernel
theorem d3_20 : decode jdk_35_method_24_code 20 = .ok (.getstatic 234, 3) := by decide +kernel
theorem d3_23 : decode jdk_35_method_24_code 23 = .ok (.lload_n 0, 1) := by decide +kernel
theorem d3_24 : decode jdk_35_method_24_code 24 = .ok (.l2i, 1) := by decide +kernel
theorem d3_25 : decode jdk_35_method_24_code 25 = .ok (.sipush 128, 3) := by decide +kernel
theorem d3_28 : decode jdk_35_method_24_code 28 = .ok (.iadd, 1) := by decide +kernel
theorem d3_29 : decode jdk_35_method_24_code 29 = .ok (.aaload, 1) := by decide +kernel
theorem d3_30 : decode jdk_35_method_24_code 30 = .ok (.areturn, 1) := by decide +kernel
theorem d3_31 : decode jdk_35_method_24_code 31 = .ok (.new 1, 3) := by decide +kernel
theorem d3_34 : decode jdk_35_method_24_code 34 = .ok (.dup, 1) := by decide +kernel
theorem d3_35 : decode jdk_35_method_24_code 35 = .ok (.lload_n 0, 1) := by decide +kernel
theorem d3_36 : decode jdk_35_method_24_code 36 = .ok (.invokespecial 240, 3) := by decide +kernel
theorem d3_39 : decode jdk_35_method_24_code 39 = .ok (.areturn, 1) := by decide +kernel
theorem pn_3 : plainName "java/lang/Long" = true := by first | (simp [plainName, overriddenIn]; done) | decide +kernel
theorem d4_0 : decode prog_20_method_6_code 0 = .ok (.aload_n 1, 1) := by decide +kernel
theorem d4_1 : decode prog_20_method_6_code 1 = .ok (.instanceof 8, 3) := by decide +kernel
theorem d4_4 : decode prog_20_method_6_code 4 = .ok (.ifCond .ne 5, 3) := by decide +kernel
theorem d4_7 : decode prog_20_method_6_code 7 = .ok (.iconst 0, 1) := by decide +kernel
theorem d4_8 : decode prog_20_method_6_code 8 = .ok (.ireturn, 1) := by decide +kernel
theorem d4_9 : decode prog_20_method_6_code 9 = .ok (.aload_n 1, 1) := by decide +kernel
theorem d4_10 : decode prog_20_method_6_code 10 = .ok (.checkcast 8, 3) := by decide +kernel
theorem d4_13 : decode prog_20_method_6_code 13 = .ok (.astore_n 2, 1) := by decide +kernel
theorem d4_14 : decode prog_20_method_6_code 14 = .ok (.aload_n 0, 1) := by decide +kernel
theorem d4_15 : decode prog_20_method_6_code 15 = .ok (.getfield 7, 3) := by decide +kernel
theorem d4_18 : decode prog_20_method_6_code 18 = .ok (.aload_n 2, 1) := by decide +kernel
theorem d4_19 : decode prog_20_method_6_code 19 = .ok (.getfield 7, 3) := by decide +kernel
theorem d4_22 : decode prog_20_method_6_code 22 = .ok (.lcmp, 1) := by decide +kernel
theorem d4_23 : decode prog_20_method_6_code 23 = .ok (.ifCond .ne 30, 3) := by decide +kernel
theorem d4_26 : decode prog_20_method_6_code 26 = .ok (.aload_n 0, 1) := by decide +kernel
theorem d4_27 : decode prog_20_method_6_code 27 = .ok (.getfield 13, 3) := by decide +kernel
theorem d4_30 : decode prog_20_method_6_code 30 = .ok (.aload_n 2, 1) := by decide +kernel
theorem d4_31 : decode prog_20_method_6_code 31 = .ok (.getfield 13, 3) := by decide +kernel
theorem d4_34 : decode prog_20_method_6_code 34 = .ok (.if_icmp .ne 19, 3) := by decide +kernel
theorem d4_37 : decode prog_20_method_6_code 37 = .ok (.aload_n 0, 1) := by decide +kernel
theorem d4_38 : decode prog_20_method_6_code 38 = .ok (.getfield 17, 3) := by decide +kernel
theorem d4_41 : decode prog_20_method_6_code 41 = .ok (.aload_n 2, 1) := by decide +kernel
theorem d4_42 : decode prog_20_method_6_code 42 = .ok (.getfield 17, 3) := by decide +kernel
theorem d4_45 : decode prog_20_method_6_code 45 = .ok (.lcmp, 1) := by decide +kernel
theorem d4_46 : decode prog_20_method_6_code 46 = .ok (.ifCond .ne 7, 3) := by decide +kernel
theorem d4_49 : decode prog_20_method_6_code 49 = .ok (.iconst 1, 1) := by decide +kernel
theorem d4_50 : decode prog_20_method_6_code 50 = .ok (.goto 4, 3) := by decide +kernel
theorem d4_53 : decode prog_20_method_6_code 53 = .ok (.iconst 0, 1) := by decide +kernel
theorem d4_54 : decode prog_20_method_6_code 54 = .ok (.ireturn, 1) := by decide +kernel
theorem pn_4 : plainName "com/example/spool/spool/storage/IndexEntry" = true := by first | (simp [plainName, overriddenIn]; done) | decide +kernel
theorem d5_0 : decode jdk_35_method_26_code 0 = .ok (.aload_n 0, 1) := by decide +kernel
theorem d5_1 : decode jdk_35_method_26_code 1 = .ok (.invokespecial 270, 3) := by decide +kernel
theorem d5_4 : decode jdk_35_method_26_code 4 = .ok (.aload_n 0, 1) := by decide +kernel
theorem d5_5 : decode jdk_35_method_26_code 5 = .ok (.lload_n 1, 1) := by decide +kernel
theorem d5_6 : decode jdk_35_method_26_code 6 = .ok (.putfield 273, 3) := by decide +kernel
theorem d5_9 : decode jdk_35_method_26_code 9 = .ok (.return_, 1) := by decide +kernel
theorem pn_5 : plainName "java/lang/Long" = true := by first | (simp [plainName, overriddenIn]; done) | decide +kernel
theorem d6_0 : decode jdk_18_method_1_code 0 = .ok (.aload_n 0, 1) := by decide +kernel
theorem d6_1 : decode jdk_18_method_1_code 1 = .ok (.invokespecial 1, 3) := by decide +kernel
theorem d6_4 : decode jdk_18_method_1_code 4 = .ok (.return_, 1) := by decide +kernel
theorem pn_6 : plainName "java/lang/Number" = true := by first | (simp [plainName, overriddenIn]; done) | decide +kernel
theorem pd_0 : parseMethodDescriptor "()V" = some ⟨[], none⟩ := by decide +kernel
theorem pd_1 : parseMethodDescriptor "(J)V" = some ⟨[.long], none⟩ := by decide +kernel
theorem pd_2 : parseMethodDescriptor "(JIJ)V" = some ⟨[.long, .int, .long], none⟩ := by decide +kernel
theorem pd_3 : parseMethodDescriptor "(J)Ljava/lang/Long;" = some ⟨[.long], some (.object "java/lang/Long")⟩ := by decide +kernel
theorem pd_4 : parseMethodDescriptor "(Ljava/lang/Object;)Z" = some ⟨[(.object "java/lang/Object")], some .boolean⟩ := by decide +kernel
theorem ef_6 (m : MethodId) (x0 : Addr) : entryFrame m #[(.ref x0)] 1 = mkF m 0 #[.val (.ref x0)] [] := by first | (simp [entryFrame, mkF, argsToLocals, Value.category]; done) | rfl
theorem ef_5 (m : MethodId) (x0 : Addr) (x1 : Int64) : entryFrame m #[(.ref x0), (.long x1)] 3 = mkF m 0 #[.val (.ref x0), .val (.long x1), .second] [] := by first | (simp [entryFrame, mkF, argsToLocals, Value.category]; done) | rfl
theorem ef_3 (m : MethodId) (x0 : Int64) : entryFrame m #[(.long x0)] 3 = mkF m 0 #[.val (.long x0), .second, .unset] [] := by first | (simp [entryFrame, mkF, argsToLocals, Value.category]; done) | rfl
theorem ef_1 (m : MethodId) (x0 : Addr) (x1 : Int64) (x2 : Int32) (x3 : Int64) : entryFrame m #[(.ref x0), (.long x1), (.int x2), (.long x3)] 6 = mkF m 0 #[.val (.ref x0), .val (.long x1), .second, .val (.int x2), .val (.long x3), .second] [] := by first | (simp [entryFrame, mkF, argsToLocals, Value.category]; done) | rfl
theorem ef_4n (m : MethodId) (x0 : Addr) : entryFrame m #[(.ref x0), .null] 3 = mkF m 0 #[.val (.ref x0), .val .null, .unset] [] := by first | (simp [entryFrame, mkF, argsToLocals, Value.category]; done) | rfl
theorem ef_4l (m : MethodId) (x0 : Addr) (x1 : Addr) : entryFrame m #[(.ref x0), (.ref x1)] 3 = mkF m 0 #[.val (.ref x0), .val (.ref x1), .unset] [] := by first | (simp [entryFrame, mkF, argsToLocals, Value.category]; done) | rfl
theorem ef_4q (m : MethodId) (x0 : Addr) (x1 : Addr) : entryFrame m #[(.ref x0), (.ref x1)] 3 = mkF m 0 #[.val (.ref x0), .val (.ref x1), .unset] [] := by first | (simp [entryFrame, mkF, argsToLocals, Value.category]; done) | rfl
theorem ef_0 (m : MethodId) (x0 : Int64) (x1 : Int32) (x2 : Int64) (x3 : Int32) (x4 : Int64) (x5 : Int64) : entryFrame m #[(.long x0), (.int x1), (.long x2), (.int x3), (.long x4), (.long x5)] maxLocals = mkF m 0 #[.val (.long x0), .second, .val (.int x1), .val (.long x2), .second, .val (.int x3), .val (.long x4), .second, .val (.long x5), .second, .unset, .unset, .unset, .unset, .unset, .unset, .unset, .unset, .unset, .unset] [] := by first | (simp [entryFrame, mkF, argsToLocals, Value.category, maxLocals]; done) | rfl
theorem own_lcj (q : Int64) (h1 : ¬ (q < (-128 : Int64))) (h2 : ¬ ((127 : Int64) < q)) : ((q.toInt32) + (128 : Int32)).toInt = q.toInt + 128 := by
  have a1 := c_l2i q; have a2 := rng32 q.toInt32; have a3 := c_iadd q.toInt32 128; have a4 := rng32 (q.toInt32 + 128)
  have c1 : (-128 : Int64).toInt = -128 := rfl
  have c2 : (127 : Int64).toInt = 127 := rfl
  have c3 : (128 : Int32).toInt = 128 := rfl
  rw [Int64.lt_iff_toInt_lt, c1] at h1; rw [Int64.lt_iff_toInt_lt, c2] at h2
  omega
theorem own_j0 {q : Int64} (h1 : ¬ (q < (-128 : Int64))) (h2 : ¬ ((127 : Int64) < q)) : ¬ ((q.toInt32) + (128 : Int32)) < 0 := by
  have a := own_lcj q h1 h2
  have c1 : (-128 : Int64).toInt = -128 := rfl
  have c0 : (0 : Int32).toInt = 0 := rfl
  rw [Int64.lt_iff_toInt_lt, c1] at h1
  rw [Int32.lt_iff_toInt_lt, a, c0]; omega
theorem own_j1 {q : Int64} (h1 : ¬ (q < (-128 : Int64))) (h2 : ¬ ((127 : Int64) < q)) : ((q.toInt32) + (128 : Int32)) < (256 : Int32) := by
  have a := own_lcj q h1 h2
  have c2 : (127 : Int64).toInt = 127 := rfl
  have c0 : (256 : Int32).toInt = 256 := rfl
  rw [Int64.lt_iff_toInt_lt, c2] at h2
  rw [Int32.lt_iff_toInt_lt, a, c0]; omega
theorem own_root {Z : State} {a0 : Array Value} {O K : String} {n : Nat} (w : (Cond.noSuperclass O).before a0 Z = true) (wk : (Cond.instantiable K n).before a0 Z = true) (hn : O ≠ K) : NS Z O K := by
  obtain ⟨c, k, h1, h2, h3, -, -⟩ := Cond.noSuperclass_spec w
  obtain ⟨t, k', g1, -⟩ := Cond.instantiable_spec wk
  have ne := ids_ne h1 g1 hn
  refine ⟨c, t, h1, g1, fun fuel => ?_⟩
  cases fuel with
  | zero => rfl
  | succ f => simp [Vm.isSubclassAux, ne, h2, h3]
theorem own_no {Z : State} {a0 : Array Value} {C S K : String} {m : Nat} (w : (Cond.superclass C S).before a0 Z = true) (wk : (Cond.instantiable K m).before a0 Z = true) (n : NS Z C K) (hn : C ≠ K) : ∃ c t, Z.vm.findClass C = some c ∧ Z.vm.findClass K = some t ∧ Z.vm.assignable c t = false := by
  obtain ⟨c, t, h0, g0, n3⟩ := n
  obtain ⟨p, k, kp, h1, h2, h3, h4, h5, -, h7⟩ := Cond.superclass_spec h0 w
  obtain ⟨t', k', g1, g2, g3, g4, -, -⟩ := Cond.instantiable_spec wk
  cases g0.symm.trans g1
  have g7 : k'.isInterface = false := by
    cases hh : k'.isInterface with
    | false => rfl
    | true => rw [hh] at g4; cases g4
  have ne := ids_ne h0 g0 hn
  refine ⟨c, t, h0, g0, ?_⟩
  show Z.vm.assignableAux (255 + 1) c t = false
  simp [Vm.assignableAux, ne, h2, g2, h5, g3, g7, Vm.isSubclass, n3]
theorem own_len {t : Term} {args : Array Value} {s : State} {a : Addr} {cell : Cell} (ev : t.eval args s none [] s = some (.ref a)) (hat : s.arrayAt? a = some cell) (h31 : cell.slots.size < 2 ^ 31) : (Term.length t).eval args s none [] s = some (.int (Int32.ofNat cell.slots.size)) := by
  simp [Term.eval, ev, hat, h31]
theorem own_cache {s : State} {args : Array Value} (hsets : ∀ w ∈ jdkStatics_1, w.before args s = true) :
    ∃ bc clc, Sta s s.heap "java/lang/Long$LongCache" "cache" "[Ljava/lang/Long;" (.ref bc) ∧ Arr s s.heap bc clc (.object "java/lang/Long") ∧ ∀ j : Int32, ¬ j < 0 → j < (256 : Int32) → (¬ (j < 0 ∨ clc.slots.size ≤ j.toNatClampNeg)) ∧ ∃ y, clc.slots[j.toNatClampNeg]? = some (.ref y) ∧ Exa s s.heap y "java/lang/Long" := by
  have w1 : (Cond.initializedFor "java/lang/Long$LongCache" "cache" "[Ljava/lang/Long;").before args s = true := hsets _ (List.mem_of_getElem? (i := 1) rfl)
  have w2 := Cond.before_iff.mp (hsets _ (List.mem_of_getElem? (i := 2) rfl))
  have w4 := hsets _ (List.mem_of_getElem? (i := 4) rfl)
  have w5 := Cond.before_iff.mp (hsets _ (List.mem_of_getElem? (i := 5) rfl))
  obtain ⟨bc, ev⟩ := arr_v w2
  obtain ⟨clc, A⟩ := Arr.start ev w2
  have S := Sta.start ev (Or.inl w1)
  have hat : s.arrayAt? bc = some clc := A.fin (Vm.Alike.refl _)
  have hlen := Cond.eq_int w4 rfl
  have h31 := SBG.length_lt ev hat hlen
  have hsz : clc.slots.size = 256 := by
    have e : (Term.length (.static "java/lang/Long$LongCache" "cache" "[Ljava/lang/Long;")).eval args s none [] s = some (.int (Int32.ofNat clc.slots.size)) := own_len ev hat h31
    have h2 : Int32.ofNat clc.slots.size = 256 := by simpa using Option.some.inj (e.symm.trans hlen)
    have := congrArg Int32.toInt h2
    rw [Int32.toInt_ofNat_small h31] at this
    have c : (256 : Int32).toInt = 256 := rfl
    omega
  refine ⟨bc, clc, S, A, fun j h0 h1 => ?_⟩
  have hn : j.toNatClampNeg < 256 := by
    have e := nat_of h0
    rw [Int32.lt_iff_toInt_lt] at h1
    have c : (256 : Int32).toInt = 256 := rfl
    omega
  have hin : ¬ (j < 0 ∨ clc.slots.size ≤ j.toNatClampNeg) := fun q => q.elim h0 (fun r => by omega)
  refine ⟨hin, ?_⟩
  have q := Cond.all_elim ev hat w5 j.toNatClampNeg (by omega)
  obtain ⟨q1, q2⟩ := and_e q
  obtain ⟨y, c', cell, k, e1, e2, e3, e4, e5, e6, e7⟩ := Cond.exactly_spec (show (Cond.exactly (.elem (.static "java/lang/Long$LongCache" "cache" "[Ljava/lang/Long;") (.index 0)) "java/lang/Long").holds args s none s [j.toNatClampNeg] = true by simp [Cond.holds, q1])
  have hidx : (Term.index 0).eval args s none [j.toNatClampNeg] s = some (.int j) := by simp [Term.eval, (back32 h0).1]
  have he := elem_f (t := .static "java/lang/Long$LongCache" "cache" "[Ljava/lang/Long;") (a := .index 0) (idx := [j.toNatClampNeg]) ev hidx hat h0
  rw [he] at e1
  exact ⟨y, e1, cell, k, e3, by rw [e6]; exact e2, by rw [e6]; exact e4, e5, e7⟩
theorem own_sym (a b : Int64) (c d : Int32) (e f : Int64) : ((a = b) ∧ ((c = d) ∧ (e = f))) ↔ ((b = a) ∧ ((d = c) ∧ (f = e))) :=
  ⟨fun ⟨p, q, r⟩ => ⟨p.symm, q.symm, r.symm⟩, fun ⟨p, q, r⟩ => ⟨p.symm, q.symm, r.symm⟩⟩
def Q6 (Z : State) (a1 : Addr) (h0 : Heap) (n0 : Nat) (v : Option Value) (h : Heap) (L : List Loc) : Prop := v = none ∧ Fr n0 L ∧ h = h0
set_option maxRecDepth 65536 in
set_option maxHeartbeats 40000000 in
theorem rm6 (l : Launch) (Z : State) (a0 : Array Value) (hw : ∀ d ∈ tables_1, d.before a0 Z = true) (ws : List Jvm.Cond) (a1 : Addr) (h0 : Heap) (n0 : Nat) (Z0 : n0 ≤ h0.size) :
    MetFree l (⟨"java/lang/Number", "<init>", "()V"⟩ : MethodName) (head1 (Jvm.Cond.code (⟨"java/lang/Number", "<init>", "()V"⟩ : MethodName) jdk_18_method_1_code 1 none :: ws) ({ frames := 1, cells := 0, slots := 0, locals := 12 } : Room)) (fun a U => a = #[(.ref a1)] ∧ Z.Warmed39 U.vm ∧ U.heap = h0) (fun _ _ _ _ _ => True) (fun _ U o U' => ∃ v L, o = .returned v ∧ Q6 Z a1 h0 n0 v U'.heap L ∧ FrameEnd U o U' L ({ frames := 1, cells := 0, slots := 0, locals := 12 } : Room).cells ({ frames := 1, cells := 0, slots := 0, locals := 12 } : Room).slots) := by
  refine MetFree.of_bodySF (plainFor_of_name pn_6) hisR ?_
  intro p e s m args below meth c s₁ Bd hml0 hP hK
  obtain ⟨rfl, hZ, hh⟩ := hP
  have hx := Bd.exec
  have hby := Bd.bytes
  have hlk := BodyLoose.notSynchronized Bd
  have hml : c.maxLocals = 1 := hml0
  have hown : s.vm.findClass "java/lang/Number" = some m.cls := findClass_of_methodNamed Bd.named
  have hnm := (name_of_methodNamed Bd.named Bd.method).1
  have X0 : Stand p l e ({ frames := 1, cells := 0, slots := 0, locals := 12 } : Room) s m #[(.ref a1)] below meth c s₁ [] 0 0 := Stand.of_body Bd
  have e0 : s₁.heap = h0 := by rw [← hh, Bd.state]; rfl
  have N0 := Fr.nil n0
  have K0 := Keep.refl h0 []
  show own_G p.tables e below (own_P s (Q6 Z a1 h0 n0) 0 0) (s₁.setTop (entryFrame m #[(.ref a1)] 1))
  refine own_st (fun t k => castTop (ef_6 m a1) k) ?_
  show own_G p.tables e below _ (s₁.setTop (mkF m 0 #[.val (.ref a1)] []))
  refine own_st (fun _ k => XS.aloadN X0.here hx rfl (hb hby d6_0) rfl rfl k) ?_
  show own_G p.tables e below _ (s₁.setTop (mkF m 1 #[.val (.ref a1)] [(.ref a1)]))
  obtain ⟨T1, X1, e1, st1⟩ := initO X0 hx hZ hown (hw _ (List.mem_of_getElem? (i := 42) rfl)) (hw _ (List.mem_of_getElem? (i := 7) rfl)) (hw _ (List.mem_of_getElem? (i := 8) rfl)) e0 (g := (mkF m 1 #[.val (.ref a1)] [(.ref a1)])) rfl (by rw [hml]; rfl) rfl (hb hby d6_1) (by decide) (W := 0) (by show 2 * 0 + _ ≤ _; exact Nat.le_of_eq rfl) (by decide)
  refine own_st st1 ?_
  show own_G p.tables e below _ (T1.setTop (mkF m 4 #[.val (.ref a1)] []))
  exact own_retV X1 hx hlk Bd.returns (hb hby d6_4) (by rw [e1]; exact ⟨rfl, N0, rfl⟩) (by decide) (by decide)
def Q5 (Z : State) (a1 : Addr) (q1 : Int64) (u_value_a1 : Int64) (h0 : Heap) (n0 : Nat) (v : Option Value) (h : Heap) (L : List Loc) : Prop := v = none ∧ Fr n0 L ∧ Keep h0 h [a1] ∧ Exa Z h a1 "java/lang/Long" ∧ Fld Z h a1 "java/lang/Long" "value" "J" (.long q1)
set_option maxRecDepth 65536 in
set_option maxHeartbeats 40000000 in
theorem rm5 (l : Launch) (Z : State) (a0 : Array Value) (hw : ∀ d ∈ tables_1, d.before a0 Z = true) (ws : List Jvm.Cond) (a1 : Addr) (q1 : Int64) (u_value_a1 : Int64) (h0 : Heap) (n0 : Nat) (Z0 : n0 ≤ h0.size) (F_value_a1 : Fld Z h0 a1 "java/lang/Long" "value" "J" (.long u_value_a1)) (E_a1 : Exa Z h0 a1 "java/lang/Long") (ge_a1 : n0 ≤ a1) :
    MetFree l (⟨"java/lang/Long", "<init>", "(J)V"⟩ : MethodName) (head1 (Jvm.Cond.code (⟨"java/lang/Long", "<init>", "(J)V"⟩ : MethodName) jdk_35_method_26_code 3 none :: ws) ({ frames := 2, cells := 0, slots := 0, locals := 24 } : Room)) (fun a U => a = #[(.ref a1), (.long q1)] ∧ Z.Warmed39 U.vm ∧ U.heap = h0) (fun _ _ _ _ _ => True) (fun _ U o U' => ∃ v L, o = .returned v ∧ Q5 Z a1 q1 u_value_a1 h0 n0 v U'.heap L ∧ FrameEnd U o U' L ({ frames := 2, cells := 0, slots := 0, locals := 24 } : Room).cells ({ frames := 2, cells := 0, slots := 0, locals := 24 } : Room).slots) := by
  refine MetFree.of_bodySF (plainFor_of_name pn_5) hisR ?_
  intro p e s m args below meth c s₁ Bd hml0 hP hK
  obtain ⟨rfl, hZ, hh⟩ := hP
  have hx := Bd.exec
  have hby := Bd.bytes
  have hlk := BodyLoose.notSynchronized Bd
  have hml : c.maxLocals = 3 := hml0
  have hown : s.vm.findClass "java/lang/Long" = some m.cls := findClass_of_methodNamed Bd.named
  have hnm := (name_of_methodNamed Bd.named Bd.method).1
  have X0 : Stand p l e ({ frames := 2, cells := 0, slots := 0, locals := 24 } : Room) s m #[(.ref a1), (.long q1)] below meth c s₁ [] 0 0 := Stand.of_body Bd
  have e0 : s₁.heap = h0 := by rw [← hh, Bd.state]; rfl
  have N0 := Fr.nil n0
  have K0 := Keep.refl h0 [a1]
  show own_G p.tables e below (own_P s (Q5 Z a1 q1 u_value_a1 h0 n0) 0 0) (s₁.setTop (entryFrame m #[(.ref a1), (.long q1)] 3))
  refine own_st (fun t k => castTop (ef_5 m a1 q1) k) ?_
  show own_G p.tables e below _ (s₁.setTop (mkF m 0 #[.val (.ref a1), .val (.long q1), .second] []))
  refine own_st (fun _ k => XS.aloadN X0.here hx rfl (hb hby d5_0) rfl rfl k) ?_
  show own_G p.tables e below _ (s₁.setTop (mkF m 1 #[.val (.ref a1), .val (.long q1), .second] [(.ref a1)]))
  obtain ⟨_, _, ⟨T1, L1, k1, n1⟩, -, X1, ⟨Lc1, hQ1, l1, y1, z1⟩, st1⟩ := X0.specialBack hx (y := (⟨"java/lang/Number", "<init>", "()V"⟩ : MethodName)) rfl hown (mvT hZ (hw _ (List.mem_of_getElem? (i := 36) rfl))) (mvT hZ (hw _ (List.mem_of_getElem? (i := 37) rfl))) (mvT hZ (hw _ (List.mem_of_getElem? (i := 41) rfl))) (by decide) (backOf (W := 0) (rm6 l Z a0 hw [] a1 h0 n0 Z0 ) hZ (hw _ (List.mem_of_getElem? (i := 41) rfl)) (hw _ (List.mem_of_getElem? (i := 40) rfl)) (by decide) (by decide)) (g := (mkF m 1 #[.val (.ref a1), .val (.long q1), .second] [(.ref a1)])) rfl (by rw [hml]; rfl) (Steps.refl _) (a := a1) (argsL := []) (rest := []) (lenOf pd_0 rfl) rfl (by show 2 * 0 + _ ≤ _; exact Nat.le_of_eq rfl) (hb hby d5_1) (fun _ _ => ⟨rfl, e0, (by decide : 0 + 0 ≤ _), (by decide : 0 + 0 ≤ _)⟩)
  dsimp only [Pt.U, Pt.locs, Pt.cells, Pt.slots] at X1 l1 y1 z1 st1 hQ1
  subst l1 y1 z1
  obtain ⟨rfl, N1q, e1⟩ := hQ1
  have N1 := Fr.app N0 N1q
  refine own_st (fun _ k => st1.trans k) ?_
  show own_G p.tables e below _ (T1.setTop (mkF m 4 #[.val (.ref a1), .val (.long q1), .second] []))
  refine own_st (fun _ k => XS.aloadN X1.here hx rfl (hb hby d5_4) rfl rfl k) ?_
  show own_G p.tables e below _ (T1.setTop (mkF m 5 #[.val (.ref a1), .val (.long q1), .second] [(.ref a1)]))
  refine own_st (fun _ k => XS.lloadN X1.here hx rfl (hb hby d5_5) rfl k) ?_
  show own_G p.tables e below _ (T1.setTop (mkF m 6 #[.val (.ref a1), .val (.long q1), .second] [(.long q1), (.ref a1)]))
  obtain ⟨T2, h2, X2, e2, W2, st2⟩ := putF X1 hx hZ hown (host := "") (Or.inl (hw _ (List.mem_of_getElem? (i := 43) rfl))) Via.refl e1 F_value_a1 E_a1 (Or.inr ⟨(hw _ (List.mem_of_getElem? (i := 44) rfl)), rfl, hnm⟩) (hw _ (List.mem_of_getElem? (i := 31) rfl)) (ty := .long) (by decide) rfl rfl (g := (mkF m 6 #[.val (.ref a1), .val (.long q1), .second] [(.long q1), (.ref a1)])) rfl rfl (hb hby d5_6)
  have N2 := Fr.snoc X2 N1 ge_a1
  have E3 := E_a1.wr W2
  have F4 := F_value_a1.same W2
  have Z5 := Nat.le_trans Z0 (Keep.of_wr W2).1
  have K6 := K0.wr W2 (Or.inl (List.mem_of_getElem? (i := 0) rfl))
  refine own_st st2 ?_
  show own_G p.tables e below _ (T2.setTop (mkF m 9 #[.val (.ref a1), .val (.long q1), .second] []))
  exact own_retV X2 hx hlk Bd.returns (hb hby d5_9) (by rw [e2]; exact ⟨rfl, N2, K6, E3, F4⟩) (by decide) (by decide)
def Q3 (Z : State) (q1 : Int64) (bc : Addr) (clc : Cell) (h0 : Heap) (n0 : Nat) (v : Option Value) (h : Heap) (L : List Loc) : Prop := (∃ nr : Addr, v = some (.ref nr) ∧ Exa Z h nr "java/lang/Long") ∧ Fr n0 L ∧ Keep h0 h []
set_option maxRecDepth 65536 in
set_option maxHeartbeats 40000000 in
theorem rm3 (l : Launch) (Z : State) (a0 : Array Value) (hw : ∀ d ∈ tables_1, d.before a0 Z = true) (ws : List Jvm.Cond) (q1 : Int64) (bc : Addr) (clc : Cell) (h0 : Heap) (n0 : Nat) (Z0 : n0 ≤ h0.size) (O0 : Old Z n0 h0) (S_cache : Sta Z Z.heap "java/lang/Long$LongCache" "cache" "[Ljava/lang/Long;" (.ref bc)) (Arc : Arr Z Z.heap bc clc (.object "java/lang/Long")) (hel : ∀ j : Int32, ¬ j < 0 → j < (256 : Int32) → (¬ (j < 0 ∨ clc.slots.size ≤ j.toNatClampNeg)) ∧ ∃ y, clc.slots[j.toNatClampNeg]? = some (.ref y) ∧ Exa Z Z.heap y "java/lang/Long") :
    MetFree l (⟨"java/lang/Long", "valueOf", "(J)Ljava/lang/Long;"⟩ : MethodName) (head1 (Jvm.Cond.code (⟨"java/lang/Long", "valueOf", "(J)Ljava/lang/Long;"⟩ : MethodName) jdk_35_method_24_code 3 (some (.object "java/lang/Long")) :: ws) ({ frames := 3, cells := 1, slots := 1, locals := 39 } : Room)) (fun a U => a = #[(.long q1)] ∧ Z.Warmed39 U.vm ∧ U.heap = h0) (fun _ _ _ _ _ => True) (fun _ U o U' => ∃ v L, o = .returned v ∧ Q3 Z q1 bc clc h0 n0 v U'.heap L ∧ FrameEnd U o U' L ({ frames := 3, cells := 1, slots := 1, locals := 39 } : Room).cells ({ frames := 3, cells := 1, slots := 1, locals := 39 } : Room).slots) := by
  refine MetFree.of_bodySF (plainFor_of_name pn_3) hisR ?_
  intro p e s m args below meth c s₁ Bd hml0 hP hK
  obtain ⟨rfl, hZ, hh⟩ := hP
  have hx := Bd.exec
  have hby := Bd.bytes
  have hlk := BodyLoose.notSynchronized Bd
  have hml : c.maxLocals = 3 := hml0
  have hown : s.vm.findClass "java/lang/Long" = some m.cls := findClass_of_methodNamed Bd.named
  have hnm := (name_of_methodNamed Bd.named Bd.method).1
  have X0 : Stand p l e ({ frames := 3, cells := 1, slots := 1, locals := 39 } : Room) s m #[(.long q1)] below meth c s₁ [] 0 0 := Stand.of_body Bd
  have e0 : s₁.heap = h0 := by rw [← hh, Bd.state]; rfl
  have N0 := Fr.nil n0
  have K0 := Keep.refl h0 []
  show own_G p.tables e below (own_P s (Q3 Z q1 bc clc h0 n0) 1 1) (s₁.setTop (entryFrame m #[(.long q1)] 3))
  refine own_st (fun t k => castTop (ef_3 m q1) k) ?_
  show own_G p.tables e below _ (s₁.setTop (mkF m 0 #[.val (.long q1), .second, .unset] []))
  refine own_st (fun _ k => XS.sipush X0.here hx rfl (hb hby d3_0) k) ?_
  show own_G p.tables e below _ (s₁.setTop (mkF m 3 #[.val (.long q1), .second, .unset] [(.int (128 : Int32))]))
  refine own_st (fun _ k => XS.istoreN X0.here hx rfl (hb hby d3_3) rfl (l' := #[.val (.long q1), .second, .val (.int (128 : Int32))]) rfl k) ?_
  show own_G p.tables e below _ (s₁.setTop (mkF m 4 #[.val (.long q1), .second, .val (.int (128 : Int32))] []))
  refine own_st (fun _ k => XS.lloadN X0.here hx rfl (hb hby d3_4) rfl k) ?_
  show own_G p.tables e below _ (s₁.setTop (mkF m 5 #[.val (.long q1), .second, .val (.int (128 : Int32))] [(.long q1)]))
  refine own_st (X0.ldc2Long hx hown (mvT hZ (hw _ (List.mem_of_getElem? (i := 19) rfl))) (g := (mkF m 5 #[.val (.long q1), .second, .val (.int (128 : Int32))] [(.long q1)])) rfl (hb hby d3_5)) ?_
  show own_G p.tables e below _ (s₁.setTop (mkF m 8 #[.val (.long q1), .second, .val (.int (128 : Int32))] [(.long (-128 : Int64)), (.long q1)]))
  refine own_st (fun _ k => XS.lcmp X0.here hx rfl (hb hby d3_8) rfl k) ?_
  show own_G p.tables e below _ (s₁.setTop (mkF m 9 #[.val (.long q1), .second, .val (.int (128 : Int32))] [(.int (lcmpW q1 (-128 : Int64)))]))
  by_cases hc9_1 : q1 < (-128 : Int64)
  · refine own_st (fun _ k => XS.ifYes X0.here hx rfl (pc0 := 9) (pc' := 31) rfl (hb hby d3_9) rfl ((if0 _ _).trans (tlt ((lw_lt q1 (-128 : Int64)).mpr hc9_1)).1) (by decide) (by decide) k) ?_
    show own_G p.tables e below _ (s₁.setTop (mkF m 31 #[.val (.long q1), .second, .val (.int (128 : Int32))] []))
    obtain ⟨T2, h2, X2, e2, E2, A2, D2, -, st2⟩ := newO X0 hx hZ hown (hw _ (List.mem_of_getElem? (i := 30) rfl)) (hw _ (List.mem_of_getElem? (i := 31) rfl)) (hw _ (List.mem_of_getElem? (i := 17) rfl)) e0 (g := (mkF m 31 #[.val (.long q1), .second, .val (.int (128 : Int32))] [])) rfl (hb hby d3_31) (by decide) (by decide)
    obtain ⟨b2, g2⟩ : ∃ z, z = h0.size := ⟨_, rfl⟩
    rw [← g2] at A2 D2 st2
    have ge_b2 : n0 ≤ b2 := Nat.le_trans Z0 (Nat.le_of_eq g2.symm)
    have sz_b2 : h0.size ≤ b2 := Nat.le_trans K0.1 (Nat.le_of_eq g2.symm)
    have Z3 := Nat.le_trans Z0 E2.1
    have K4 := K0.ext E2
    have O5 := O0.ext E2
    have F6 : Fld Z h2 b2 "java/lang/Long" "value" "J" (.long (0 : Int64)) := D2 (Or.inr (hw _ (List.mem_of_getElem? (i := 44) rfl))) (ty := .long) (by decide)
    refine own_st st2 ?_
    show own_G p.tables e below _ (T2.setTop (mkF m 34 #[.val (.long q1), .second, .val (.int (128 : Int32))] [(.ref b2)]))
    refine own_st (fun _ k => XS.dup X2.here hx rfl (hb hby d3_34) rfl rfl k) ?_
    show own_G p.tables e below _ (T2.setTop (mkF m 35 #[.val (.long q1), .second, .val (.int (128 : Int32))] [(.ref b2), (.ref b2)]))
    refine own_st (fun _ k => XS.lloadN X2.here hx rfl (hb hby d3_35) rfl k) ?_
    show own_G p.tables e below _ (T2.setTop (mkF m 36 #[.val (.long q1), .second, .val (.int (128 : Int32))] [(.long q1), (.ref b2), (.ref b2)]))
    obtain ⟨_, _, ⟨T7, L7, k7, n7⟩, -, X7, ⟨Lc7, hQ7, l7, y7, z7⟩, st7⟩ := X2.specialBack hx (y := (⟨"java/lang/Long", "<init>", "(J)V"⟩ : MethodName)) rfl hown (mvT hZ (hw _ (List.mem_of_getElem? (i := 32) rfl))) (mvT hZ (hw _ (List.mem_of_getElem? (i := 33) rfl))) (mvT hZ (hw _ (List.mem_of_getElem? (i := 35) rfl))) (by decide) (backOf (W := 1) (rm5 l Z a0 hw [] b2 q1 (0 : Int64) h2 n0 Z3 F6 A2 ge_b2) hZ (hw _ (List.mem_of_getElem? (i := 35) rfl)) (hw _ (List.mem_of_getElem? (i := 17) rfl)) (by decide) (by decide)) (g := (mkF m 36 #[.val (.long q1), .second, .val (.int (128 : Int32))] [(.long q1), (.ref b2), (.ref b2)])) rfl (by rw [hml]; rfl) (Steps.refl _) (a := b2) (argsL := [(.long q1)]) (rest := [(.ref b2)]) (lenOf pd_1 rfl) rfl (by show 2 * 0 + _ ≤ _; exact Nat.le_of_eq rfl) (hb hby d3_36) (fun _ _ => ⟨rfl, e2, (by decide : 1 + 0 ≤ _), (by decide : 1 + 0 ≤ _)⟩)
    dsimp only [Pt.U, Pt.locs, Pt.cells, Pt.slots] at X7 l7 y7 z7 st7 hQ7
    subst l7 y7 z7
    obtain ⟨rfl, N7q, K7q, E8, F9⟩ := hQ7
    have N7 := Fr.app N0 N7q
    have Z11 := Nat.le_trans Z3 K7q.1
    have K12 := K4.trans K7q (((allS (P := fun x => x ∈ ([] : List Addr) ∨ h0.size ≤ x) (Or.inr sz_b2) all0) : ∀ x ∈ ([b2] : List Addr), x ∈ ([] : List Addr) ∨ h0.size ≤ x))
    have O13 := O5.keep K7q (allS ge_b2 all0)
    refine own_st (fun _ k => st7.trans k) ?_
    show own_G p.tables e below _ (T7.setTop (mkF m 39 #[.val (.long q1), .second, .val (.int (128 : Int32))] [(.ref b2)]))
    exact own_retR X7 hx hlk Bd.returns (by rfl) (by rfl) (by rfl) (hb hby d3_39) ⟨⟨_, rfl, E8⟩, N7, K12⟩ (by decide) (by decide)
  · refine own_st (fun _ k => XS.ifNo X0.here hx rfl (hb hby d3_9) rfl ((if0 _ _).trans (flt (fun q => hc9_1 ((lw_lt q1 (-128 : Int64)).mp q))).1) k) ?_
    show own_G p.tables e below _ (s₁.setTop (mkF m 12 #[.val (.long q1), .second, .val (.int (128 : Int32))] []))
    refine own_st (fun _ k => XS.lloadN X0.here hx rfl (hb hby d3_12) rfl k) ?_
    show own_G p.tables e below _ (s₁.setTop (mkF m 13 #[.val (.long q1), .second, .val (.int (128 : Int32))] [(.long q1)]))
    refine own_st (X0.ldc2Long hx hown (mvT hZ (hw _ (List.mem_of_getElem? (i := 20) rfl))) (g := (mkF m 13 #[.val (.long q1), .second, .val (.int (128 : Int32))] [(.long q1)])) rfl (hb hby d3_13)) ?_
    show own_G p.tables e below _ (s₁.setTop (mkF m 16 #[.val (.long q1), .second, .val (.int (128 : Int32))] [(.long (127 : Int64)), (.long q1)]))
    refine own_st (fun _ k => XS.lcmp X0.here hx rfl (hb hby d3_16) rfl k) ?_
    show own_G p.tables e below _ (s₁.setTop (mkF m 17 #[.val (.long q1), .second, .val (.int (128 : Int32))] [(.int (lcmpW q1 (127 : Int64)))]))
    by_cases hc17_15 : (127 : Int64) < q1
    · refine own_st (fun _ k => XS.ifYes X0.here hx rfl (pc0 := 17) (pc' := 31) rfl (hb hby d3_17) rfl ((if0 _ _).trans (tlt ((lw_gt q1 (127 : Int64)).mpr hc17_15)).2.2.1) (by decide) (by decide) k) ?_
      show own_G p.tables e below _ (s₁.setTop (mkF m 31 #[.val (.long q1), .second, .val (.int (128 : Int32))] []))
      obtain ⟨T16, h16, X16, e16, E16, A16, D16, -, st16⟩ := newO X0 hx hZ hown (hw _ (List.mem_of_getElem? (i := 30) rfl)) (hw _ (List.mem_of_getElem? (i := 31) rfl)) (hw _ (List.mem_of_getElem? (i := 17) rfl)) e0 (g := (mkF m 31 #[.val (.long q1), .second, .val (.int (128 : Int32))] [])) rfl (hb hby d3_31) (by decide) (by decide)
      obtain ⟨b16, g16⟩ : ∃ z, z = h0.size := ⟨_, rfl⟩
      rw [← g16] at A16 D16 st16
      have ge_b16 : n0 ≤ b16 := Nat.le_trans Z0 (Nat.le_of_eq g16.symm)
      have sz_b16 : h0.size ≤ b16 := Nat.le_trans K0.1 (Nat.le_of_eq g16.symm)
      have Z17 := Nat.le_trans Z0 E16.1
      have K18 := K0.ext E16
      have O19 := O0.ext E16
      have F20 : Fld Z h16 b16 "java/lang/Long" "value" "J" (.long (0 : Int64)) := D16 (Or.inr (hw _ (List.mem_of_getElem? (i := 44) rfl))) (ty := .long) (by decide)
      refine own_st st16 ?_
      show own_G p.tables e below _ (T16.setTop (mkF m 34 #[.val (.long q1), .second, .val (.int (128 : Int32))] [(.ref b16)]))
      refine own_st (fun _ k => XS.dup X16.here hx rfl (hb hby d3_34) rfl rfl k) ?_
      show own_G p.tables e below _ (T16.setTop (mkF m 35 #[.val (.long q1), .second, .val (.int (128 : Int32))] [(.ref b16), (.ref b16)]))
      refine own_st (fun _ k => XS.lloadN X16.here hx rfl (hb hby d3_35) rfl k) ?_
      show own_G p.tables e below _ (T16.setTop (mkF m 36 #[.val (.long q1), .second, .val (.int (128 : Int32))] [(.long q1), (.ref b16), (.ref b16)]))
      obtain ⟨_, _, ⟨T21, L21, k21, n21⟩, -, X21, ⟨Lc21, hQ21, l21, y21, z21⟩, st21⟩ := X16.specialBack hx (y := (⟨"java/lang/Long", "<init>", "(J)V"⟩ : MethodName)) rfl hown (mvT hZ (hw _ (List.mem_of_getElem? (i := 32) rfl))) (mvT hZ (hw _ (List.mem_of_getElem? (i := 33) rfl))) (mvT hZ (hw _ (List.mem_of_getElem? (i := 35) rfl))) (by decide) (backOf (W := 1) (rm5 l Z a0 hw [] b16 q1 (0 : Int64) h16 n0 Z17 F20 A16 ge_b16) hZ (hw _ (List.mem_of_getElem? (i := 35) rfl)) (hw _ (List.mem_of_getElem? (i := 17) rfl)) (by decide) (by decide)) (g := (mkF m 36 #[.val (.long q1), .second, .val (.int (128 : Int32))] [(.long q1), (.ref b16), (.ref b16)])) rfl (by rw [hml]; rfl) (Steps.refl _) (a := b16) (argsL := [(.long q1)]) (rest := [(.ref b16)]) (lenOf pd_1 rfl) rfl (by show 2 * 0 + _ ≤ _; exact Nat.le_of_eq rfl) (hb hby d3_36) (fun _ _ => ⟨rfl, e16, (by decide : 1 + 0 ≤ _), (by decide : 1 + 0 ≤ _)⟩)
      dsimp only [Pt.U, Pt.locs, Pt.cells, Pt.slots] at X21 l21 y21 z21 st21 hQ21
      subst l21 y21 z21
      obtain ⟨rfl, N21q, K21q, E22, F23⟩ := hQ21
      have N21 := Fr.app N0 N21q
      have Z25 := Nat.le_trans Z17 K21q.1
      have K26 := K18.trans K21q (((allS (P := fun x => x ∈ ([] : List Addr) ∨ h0.size ≤ x) (Or.inr sz_b16) all0) : ∀ x ∈ ([b16] : List Addr), x ∈ ([] : List Addr) ∨ h0.size ≤ x))
      have O27 := O19.keep K21q (allS ge_b16 all0)
      refine own_st (fun _ k => st21.trans k) ?_
      show own_G p.tables e below _ (T21.setTop (mkF m 39 #[.val (.long q1), .second, .val (.int (128 : Int32))] [(.ref b16)]))
      exact own_retR X21 hx hlk Bd.returns (by rfl) (by rfl) (by rfl) (hb hby d3_39) ⟨⟨_, rfl, E22⟩, N21, K26⟩ (by decide) (by decide)
    · refine own_st (fun _ k => XS.ifNo X0.here hx rfl (hb hby d3_17) rfl ((if0 _ _).trans (flt (fun q => hc17_15 ((lw_gt q1 (127 : Int64)).mp q))).2.2.1) k) ?_
      show own_G p.tables e below _ (s₁.setTop (mkF m 20 #[.val (.long q1), .second, .val (.int (128 : Int32))] []))
      obtain ⟨T29, X29, e29, st29⟩ := getS2 X0 hx hZ hown (host := "") (Or.inl (hw _ (List.mem_of_getElem? (i := 21) rfl))) Via.refl e0 (S_cache.ext O0.2) (g := (mkF m 20 #[.val (.long q1), .second, .val (.int (128 : Int32))] [])) rfl (hb hby d3_20)
      refine own_st st29 ?_
      show own_G p.tables e below _ (T29.setTop (mkF m 23 #[.val (.long q1), .second, .val (.int (128 : Int32))] [(.ref bc)]))
      refine own_st (fun _ k => XS.lloadN X29.here hx rfl (hb hby d3_23) rfl k) ?_
      show own_G p.tables e below _ (T29.setTop (mkF m 24 #[.val (.long q1), .second, .val (.int (128 : Int32))] [(.long q1), (.ref bc)]))
      refine own_st (fun _ k => XS.l2i X29.here hx rfl (hb hby d3_24) rfl k) ?_
      show own_G p.tables e below _ (T29.setTop (mkF m 25 #[.val (.long q1), .second, .val (.int (128 : Int32))] [(.int (q1.toInt32)), (.ref bc)]))
      refine own_st (fun _ k => XS.sipush X29.here hx rfl (hb hby d3_25) k) ?_
      show own_G p.tables e below _ (T29.setTop (mkF m 28 #[.val (.long q1), .second, .val (.int (128 : Int32))] [(.int (128 : Int32)), (.int (q1.toInt32)), (.ref bc)]))
      refine own_st (fun _ k => XS.iadd X29.here hx rfl (hb hby d3_28) rfl k) ?_
      show own_G p.tables e below _ (T29.setTop (mkF m 29 #[.val (.long q1), .second, .val (.int (128 : Int32))] [(.int ((q1.toInt32) + (128 : Int32))), (.ref bc)]))
      obtain ⟨hin30, y30, hy30, Ey30⟩ := hel ((q1.toInt32) + (128 : Int32)) (own_j0 hc9_1 hc17_15) (own_j1 hc9_1 hc17_15)
      have Az30 := Arc.ext O0.2
      refine own_st (fun _ k => X29.aaload hx (j := ((q1.toInt32) + (128 : Int32))) (v := (.ref y30)) (by rw [e29]; exact Az30.1) (State.isArrayOf_alike hZ.alike Az30.2.1) rfl Az30.2.2 hin30 hy30 (g := (mkF m 29 #[.val (.long q1), .second, .val (.int (128 : Int32))] [(.int ((q1.toInt32) + (128 : Int32))), (.ref bc)])) rfl rfl (hb hby d3_29) _ k) ?_
      show own_G p.tables e below _ (T29.setTop (mkF m 30 #[.val (.long q1), .second, .val (.int (128 : Int32))] [(.ref y30)]))
      exact own_retR X29 hx hlk Bd.returns (by rfl) (by rfl) (by rfl) (hb hby d3_30) (by rw [e29]; exact ⟨⟨_, rfl, (Ey30.ext O0.2)⟩, N0, K0⟩) (by decide) (by decide)
def Q1 (Z : State) (a1 : Addr) (q1 : Int64) (q2 : Int32) (q3 : Int64) (u_logOffset_a1 : Int64) (u_size_a1 : Int32) (u_tagHash_a1 : Int64) (h0 : Heap) (n0 : Nat) (v : Option Value) (h : Heap) (L : List Loc) : Prop := v = none ∧ Fr n0 L ∧ Keep h0 h [a1] ∧ Exa Z h a1 "com/example/spool/spool/storage/IndexEntry" ∧ Fld Z h a1 "com/example/spool/spool/storage/IndexEntry" "logOffset" "J" (.long q1) ∧ Fld Z h a1 "com/example/spool/spool/storage/IndexEntry" "size" "I" (.int q2) ∧ Fld Z h a1 "com/example/spool/spool/storage/IndexEntry" "tagHash" "J" (.long q3)
set_option maxRecDepth 65536 in
set_option maxHeartbeats 40000000 in
theorem rm1 (l : Launch) (Z : State) (a0 : Array Value) (hw : ∀ d ∈ tables_1, d.before a0 Z = true) (ws : List Jvm.Cond) (a1 : Addr) (q1 : Int64) (q2 : Int32) (q3 : Int64) (u_logOffset_a1 : Int64) (u_size_a1 : Int32) (u_tagHash_a1 : Int64) (h0 : Heap) (n0 : Nat) (Z0 : n0 ≤ h0.size) (F_logOffset_a1 : Fld Z h0 a1 "com/example/spool/spool/storage/IndexEntry" "logOffset" "J" (.long u_logOffset_a1)) (F_size_a1 : Fld Z h0 a1 "com/example/spool/spool/storage/IndexEntry" "size" "I" (.int u_size_a1)) (F_tagHash_a1 : Fld Z h0 a1 "com/example/spool/spool/storage/IndexEntry" "tagHash" "J" (.long u_tagHash_a1)) (E_a1 : Exa Z h0 a1 "com/example/spool/spool/storage/IndexEntry") (ge_a1 : n0 ≤ a1) :
    MetFree l (⟨"com/example/spool/spool/storage/IndexEntry", "<init>", "(JIJ)V"⟩ : MethodName) (head1 (Jvm.Cond.code (⟨"com/example/spool/spool/storage/IndexEntry", "<init>", "(JIJ)V"⟩ : MethodName) prog_20_method_1_code 6 none :: ws) ({ frames := 1, cells := 0, slots := 0, locals := 12 } : Room)) (fun a U => a = #[(.ref a1), (.long q1), (.int q2), (.long q3)] ∧ Z.Warmed39 U.vm ∧ U.heap = h0) (fun _ _ _ _ _ => True) (fun _ U o U' => ∃ v L, o = .returned v ∧ Q1 Z a1 q1 q2 q3 u_logOffset_a1 u_size_a1 u_tagHash_a1 h0 n0 v U'.heap L ∧ FrameEnd U o U' L ({ frames := 1, cells := 0, slots := 0, locals := 12 } : Room).cells ({ frames := 1, cells := 0, slots := 0, locals := 12 } : Room).slots) := by
  refine MetFree.of_bodySF (plainFor_of_name pn_1) hisR ?_
  intro p e s m args below meth c s₁ Bd hml0 hP hK
  obtain ⟨rfl, hZ, hh⟩ := hP
  have hx := Bd.exec
  have hby := Bd.bytes
  have hlk := BodyLoose.notSynchronized Bd
  have hml : c.maxLocals = 6 := hml0
  have hown : s.vm.findClass "com/example/spool/spool/storage/IndexEntry" = some m.cls := findClass_of_methodNamed Bd.named
  have hnm := (name_of_methodNamed Bd.named Bd.method).1
  have X0 : Stand p l e ({ frames := 1, cells := 0, slots := 0, locals := 12 } : Room) s m #[(.ref a1), (.long q1), (.int q2), (.long q3)] below meth c s₁ [] 0 0 := Stand.of_body Bd
  have e0 : s₁.heap = h0 := by rw [← hh, Bd.state]; rfl
  have N0 := Fr.nil n0
  have K0 := Keep.refl h0 [a1]
  show own_G p.tables e below (own_P s (Q1 Z a1 q1 q2 q3 u_logOffset_a1 u_size_a1 u_tagHash_a1 h0 n0) 0 0) (s₁.setTop (entryFrame m #[(.ref a1), (.long q1), (.int q2), (.long q3)] 6))
  refine own_st (fun t k => castTop (ef_1 m a1 q1 q2 q3) k) ?_
  show own_G p.tables e below _ (s₁.setTop (mkF m 0 #[.val (.ref a1), .val (.long q1), .second, .val (.int q2), .val (.long q3), .second] []))
  refine own_st (fun _ k => XS.aloadN X0.here hx rfl (hb hby d1_0) rfl rfl k) ?_
  show own_G p.tables e below _ (s₁.setTop (mkF m 1 #[.val (.ref a1), .val (.long q1), .second, .val (.int q2), .val (.long q3), .second] [(.ref a1)]))
  obtain ⟨T1, X1, e1, st1⟩ := initO X0 hx hZ hown (hw _ (List.mem_of_getElem? (i := 6) rfl)) (hw _ (List.mem_of_getElem? (i := 7) rfl)) (hw _ (List.mem_of_getElem? (i := 8) rfl)) e0 (g := (mkF m 1 #[.val (.ref a1), .val (.long q1), .second, .val (.int q2), .val (.long q3), .second] [(.ref a1)])) rfl (by rw [hml]; rfl) rfl (hb hby d1_1) (by decide) (W := 0) (by show 2 * 0 + _ ≤ _; exact Nat.le_of_eq rfl) (by decide)
  refine own_st st1 ?_
  show own_G p.tables e below _ (T1.setTop (mkF m 4 #[.val (.ref a1), .val (.long q1), .second, .val (.int q2), .val (.long q3), .second] []))
  refine own_st (fun _ k => XS.aloadN X1.here hx rfl (hb hby d1_4) rfl rfl k) ?_
  show own_G p.tables e below _ (T1.setTop (mkF m 5 #[.val (.ref a1), .val (.long q1), .second, .val (.int q2), .val (.long q3), .second] [(.ref a1)]))
  refine own_st (fun _ k => XS.lloadN X1.here hx rfl (hb hby d1_5) rfl k) ?_
  show own_G p.tables e below _ (T1.setTop (mkF m 6 #[.val (.ref a1), .val (.long q1), .second, .val (.int q2), .val (.long q3), .second] [(.long q1), (.ref a1)]))
  obtain ⟨T2, h2, X2, e2, W2, st2⟩ := putF X1 hx hZ hown (host := "") (Or.inl (hw _ (List.mem_of_getElem? (i := 9) rfl))) Via.refl e1 F_logOffset_a1 E_a1 (Or.inr ⟨(hw _ (List.mem_of_getElem? (i := 10) rfl)), rfl, hnm⟩) (hw _ (List.mem_of_getElem? (i := 1) rfl)) (ty := .long) (by decide) rfl rfl (g := (mkF m 6 #[.val (.ref a1), .val (.long q1), .second, .val (.int q2), .val (.long q3), .second] [(.long q1), (.ref a1)])) rfl rfl (hb hby d1_6)
  have N2 := Fr.snoc X2 N0 ge_a1
  have E3 := E_a1.wr W2
  have F4 := F_logOffset_a1.same W2
  have F5 := F_size_a1.other W2 (Or.inr (slot_ne (Or.inr (hw _ (List.mem_of_getElem? (i := 12) rfl))) (Or.inr (hw _ (List.mem_of_getElem? (i := 10) rfl))) (by decide) (t := .int) (t' := .long) (by decide) (by decide)))
  have F6 := F_tagHash_a1.other W2 (Or.inr (slot_ne (Or.inr (hw _ (List.mem_of_getElem? (i := 14) rfl))) (Or.inr (hw _ (List.mem_of_getElem? (i := 10) rfl))) (by decide) (t := .long) (t' := .long) (by decide) (by decide)))
  have Z7 := Nat.le_trans Z0 (Keep.of_wr W2).1
  have K8 := K0.wr W2 (Or.inl (List.mem_of_getElem? (i := 0) rfl))
  refine own_st st2 ?_
  show own_G p.tables e below _ (T2.setTop (mkF m 9 #[.val (.ref a1), .val (.long q1), .second, .val (.int q2), .val (.long q3), .second] []))
  refine own_st (fun _ k => XS.aloadN X2.here hx rfl (hb hby d1_9) rfl rfl k) ?_
  show own_G p.tables e below _ (T2.setTop (mkF m 10 #[.val (.ref a1), .val (.long q1), .second, .val (.int q2), .val (.long q3), .second] [(.ref a1)]))
  refine own_st (fun _ k => XS.iloadN X2.here hx rfl (hb hby d1_10) rfl k) ?_
  show own_G p.tables e below _ (T2.setTop (mkF m 11 #[.val (.ref a1), .val (.long q1), .second, .val (.int q2), .val (.long q3), .second] [(.int q2), (.ref a1)]))
  obtain ⟨T9, h9, X9, e9, W9, st9⟩ := putF X2 hx hZ hown (host := "") (Or.inl (hw _ (List.mem_of_getElem? (i := 11) rfl))) Via.refl e2 F5 E3 (Or.inr ⟨(hw _ (List.mem_of_getElem? (i := 12) rfl)), rfl, hnm⟩) (hw _ (List.mem_of_getElem? (i := 1) rfl)) (ty := .int) (by decide) rfl rfl (g := (mkF m 11 #[.val (.ref a1), .val (.long q1), .second, .val (.int q2), .val (.long q3), .second] [(.int q2), (.ref a1)])) rfl rfl (hb hby d1_11)
  have N9 := Fr.snoc X9 N2 ge_a1
  have E10 := E3.wr W9
  have F11 := F4.other W9 (Or.inr (slot_ne (Or.inr (hw _ (List.mem_of_getElem? (i := 10) rfl))) (Or.inr (hw _ (List.mem_of_getElem? (i := 12) rfl))) (by decide) (t := .long) (t' := .int) (by decide) (by decide)))
  have F12 := F5.same W9
  have F13 := F6.other W9 (Or.inr (slot_ne (Or.inr (hw _ (List.mem_of_getElem? (i := 14) rfl))) (Or.inr (hw _ (List.mem_of_getElem? (i := 12) rfl))) (by decide) (t := .long) (t' := .int) (by decide) (by decide)))
  have Z14 := Nat.le_trans Z7 (Keep.of_wr W9).1
  have K15 := K8.wr W9 (Or.inl (List.mem_of_getElem? (i := 0) rfl))
  refine own_st st9 ?_
  show own_G p.tables e below _ (T9.setTop (mkF m 14 #[.val (.ref a1), .val (.long q1), .second, .val (.int q2), .val (.long q3), .second] []))
  refine own_st (fun _ k => XS.aloadN X9.here hx rfl (hb hby d1_14) rfl rfl k) ?_
  show own_G p.tables e below _ (T9.setTop (mkF m 15 #[.val (.ref a1), .val (.long q1), .second, .val (.int q2), .val (.long q3), .second] [(.ref a1)]))
  refine own_st (fun _ k => XS.lload X9.here hx rfl (hb hby d1_15) rfl k) ?_
  show own_G p.tables e below _ (T9.setTop (mkF m 17 #[.val (.ref a1), .val (.long q1), .second, .val (.int q2), .val (.long q3), .second] [(.long q3), (.ref a1)]))
  obtain ⟨T16, h16, X16, e16, W16, st16⟩ := putF X9 hx hZ hown (host := "") (Or.inl (hw _ (List.mem_of_getElem? (i := 13) rfl))) Via.refl e9 F13 E10 (Or.inr ⟨(hw _ (List.mem_of_getElem? (i := 14) rfl)), rfl, hnm⟩) (hw _ (List.mem_of_getElem? (i := 1) rfl)) (ty := .long) (by decide) rfl rfl (g := (mkF m 17 #[.val (.ref a1), .val (.long q1), .second, .val (.int q2), .val (.long q3), .second] [(.long q3), (.ref a1)])) rfl rfl (hb hby d1_17)
  have N16 := Fr.snoc X16 N9 ge_a1
  have E17 := E10.wr W16
  have F18 := F11.other W16 (Or.inr (slot_ne (Or.inr (hw _ (List.mem_of_getElem? (i := 10) rfl))) (Or.inr (hw _ (List.mem_of_getElem? (i := 14) rfl))) (by decide) (t := .long) (t' := .long) (by decide) (by decide)))
  have F19 := F12.other W16 (Or.inr (slot_ne (Or.inr (hw _ (List.mem_of_getElem? (i := 12) rfl))) (Or.inr (hw _ (List.mem_of_getElem? (i := 14) rfl))) (by decide) (t := .int) (t' := .long) (by decide) (by decide)))
  have F20 := F13.same W16
  have Z21 := Nat.le_trans Z14 (Keep.of_wr W16).1
  have K22 := K15.wr W16 (Or.inl (List.mem_of_getElem? (i := 0) rfl))
  refine own_st st16 ?_
  show own_G p.tables e below _ (T16.setTop (mkF m 20 #[.val (.ref a1), .val (.long q1), .second, .val (.int q2), .val (.long q3), .second] []))
  exact own_retV X16 hx hlk Bd.returns (hb hby d1_20) (by rw [e16]; exact ⟨rfl, N16, K22, E17, F18, F19, F20⟩) (by decide) (by decide)
def Q4n (Z : State) (a1 : Addr) (u_logOffset_a1 : Int64) (u_size_a1 : Int32) (u_tagHash_a1 : Int64) (h0 : Heap) (n0 : Nat) (v : Option Value) (h : Heap) (L : List Loc) : Prop := (∃ z : Int32, v = some (.int z) ∧ z = (0 : Int32)) ∧ Fr n0 L ∧ h = h0
set_option maxRecDepth 65536 in
set_option maxHeartbeats 40000000 in
theorem rm4n (l : Launch) (Z : State) (a0 : Array Value) (hw : ∀ d ∈ tables_1, d.before a0 Z = true) (ws : List Jvm.Cond) (a1 : Addr) (u_logOffset_a1 : Int64) (u_size_a1 : Int32) (u_tagHash_a1 : Int64) (h0 : Heap) (n0 : Nat) (Z0 : n0 ≤ h0.size) (F_logOffset_a1 : Fld Z h0 a1 "com/example/spool/spool/storage/IndexEntry" "logOffset" "J" (.long u_logOffset_a1)) (F_size_a1 : Fld Z h0 a1 "com/example/spool/spool/storage/IndexEntry" "size" "I" (.int u_size_a1)) (F_tagHash_a1 : Fld Z h0 a1 "com/example/spool/spool/storage/IndexEntry" "tagHash" "J" (.long u_tagHash_a1)) (E_a1 : Exa Z h0 a1 "com/example/spool/spool/storage/IndexEntry") :
    MetFree l (⟨"com/example/spool/spool/storage/IndexEntry", "equals", "(Ljava/lang/Object;)Z"⟩ : MethodName) (head1 (Jvm.Cond.code (⟨"com/example/spool/spool/storage/IndexEntry", "equals", "(Ljava/lang/Object;)Z"⟩ : MethodName) prog_20_method_6_code 3 (some .boolean) :: ws) ({ frames := 0, cells := 0, slots := 0, locals := 0 } : Room)) (fun a U => a = #[(.ref a1), .null] ∧ Z.Warmed39 U.vm ∧ U.heap = h0) (fun _ _ _ _ _ => True) (fun _ U o U' => ∃ v L, o = .returned v ∧ Q4n Z a1 u_logOffset_a1 u_size_a1 u_tagHash_a1 h0 n0 v U'.heap L ∧ FrameEnd U o U' L ({ frames := 0, cells := 0, slots := 0, locals := 0 } : Room).cells ({ frames := 0, cells := 0, slots := 0, locals := 0 } : Room).slots) := by
  refine MetFree.of_bodySF (plainFor_of_name pn_4) hisR ?_
  intro p e s m args below meth c s₁ Bd hml0 hP hK
  obtain ⟨rfl, hZ, hh⟩ := hP
  have hx := Bd.exec
  have hby := Bd.bytes
  have hlk := BodyLoose.notSynchronized Bd
  have hml : c.maxLocals = 3 := hml0
  have hown : s.vm.findClass "com/example/spool/spool/storage/IndexEntry" = some m.cls := findClass_of_methodNamed Bd.named
  have hnm := (name_of_methodNamed Bd.named Bd.method).1
  have X0 : Stand p l e ({ frames := 0, cells := 0, slots := 0, locals := 0 } : Room) s m #[(.ref a1), .null] below meth c s₁ [] 0 0 := Stand.of_body Bd
  have e0 : s₁.heap = h0 := by rw [← hh, Bd.state]; rfl
  have N0 := Fr.nil n0
  have K0 := Keep.refl h0 []
  show own_G p.tables e below (own_P s (Q4n Z a1 u_logOffset_a1 u_size_a1 u_tagHash_a1 h0 n0) 0 0) (s₁.setTop (entryFrame m #[(.ref a1), .null] 3))
  refine own_st (fun t k => castTop (ef_4n m a1) k) ?_
  show own_G p.tables e below _ (s₁.setTop (mkF m 0 #[.val (.ref a1), .val .null, .unset] []))
  refine own_st (fun _ k => XS.aloadN X0.here hx rfl (hb hby d4_0) rfl rfl k) ?_
  show own_G p.tables e below _ (s₁.setTop (mkF m 1 #[.val (.ref a1), .val .null, .unset] [.null]))
  refine own_st (X0.instanceofNull hx (g := (mkF m 1 #[.val (.ref a1), .val .null, .unset] [.null])) rfl rfl (hb hby d4_1)) ?_
  show own_G p.tables e below _ (s₁.setTop (mkF m 4 #[.val (.ref a1), .val .null, .unset] [(.int (0 : Int32))]))
  refine own_st (fun _ k => XS.ifNo X0.here hx rfl (hb hby d4_4) rfl (by decide) k) ?_
  show own_G p.tables e below _ (s₁.setTop (mkF m 7 #[.val (.ref a1), .val .null, .unset] []))
  refine own_st (fun _ k => XS.iconst X0.here hx rfl (hb hby d4_7) k) ?_
  show own_G p.tables e below _ (s₁.setTop (mkF m 8 #[.val (.ref a1), .val .null, .unset] [(.int (0 : Int32))]))
  exact own_retZ X0 hx hlk Bd.returns (hb hby d4_8) (by decide) (by rw [e0]; exact ⟨⟨_, rfl, rfl⟩, N0, rfl⟩) (by decide) (by decide)
def Q4l (Z : State) (a1 : Addr) (a2 : Addr) (u_logOffset_a1 : Int64) (u_size_a1 : Int32) (u_tagHash_a1 : Int64) (h0 : Heap) (n0 : Nat) (v : Option Value) (h : Heap) (L : List Loc) : Prop := (∃ z : Int32, v = some (.int z) ∧ z = (0 : Int32)) ∧ Fr n0 L ∧ h = h0
set_option maxRecDepth 65536 in
set_option maxHeartbeats 40000000 in
theorem rm4l (l : Launch) (Z : State) (a0 : Array Value) (hw : ∀ d ∈ tables_1, d.before a0 Z = true) (ws : List Jvm.Cond) (a1 : Addr) (a2 : Addr) (u_logOffset_a1 : Int64) (u_size_a1 : Int32) (u_tagHash_a1 : Int64) (h0 : Heap) (n0 : Nat) (Z0 : n0 ≤ h0.size) (F_logOffset_a1 : Fld Z h0 a1 "com/example/spool/spool/storage/IndexEntry" "logOffset" "J" (.long u_logOffset_a1)) (F_size_a1 : Fld Z h0 a1 "com/example/spool/spool/storage/IndexEntry" "size" "I" (.int u_size_a1)) (F_tagHash_a1 : Fld Z h0 a1 "com/example/spool/spool/storage/IndexEntry" "tagHash" "J" (.long u_tagHash_a1)) (E_a1 : Exa Z h0 a1 "com/example/spool/spool/storage/IndexEntry") (E_a2 : Exa Z h0 a2 "java/lang/Long") :
    MetFree l (⟨"com/example/spool/spool/storage/IndexEntry", "equals", "(Ljava/lang/Object;)Z"⟩ : MethodName) (head1 (Jvm.Cond.code (⟨"com/example/spool/spool/storage/IndexEntry", "equals", "(Ljava/lang/Object;)Z"⟩ : MethodName) prog_20_method_6_code 3 (some .boolean) :: ws) ({ frames := 0, cells := 0, slots := 0, locals := 0 } : Room)) (fun a U => a = #[(.ref a1), (.ref a2)] ∧ Z.Warmed39 U.vm ∧ U.heap = h0) (fun _ _ _ _ _ => True) (fun _ U o U' => ∃ v L, o = .returned v ∧ Q4l Z a1 a2 u_logOffset_a1 u_size_a1 u_tagHash_a1 h0 n0 v U'.heap L ∧ FrameEnd U o U' L ({ frames := 0, cells := 0, slots := 0, locals := 0 } : Room).cells ({ frames := 0, cells := 0, slots := 0, locals := 0 } : Room).slots) := by
  refine MetFree.of_bodySF (plainFor_of_name pn_4) hisR ?_
  intro p e s m args below meth c s₁ Bd hml0 hP hK
  obtain ⟨rfl, hZ, hh⟩ := hP
  have hx := Bd.exec
  have hby := Bd.bytes
  have hlk := BodyLoose.notSynchronized Bd
  have hml : c.maxLocals = 3 := hml0
  have hown : s.vm.findClass "com/example/spool/spool/storage/IndexEntry" = some m.cls := findClass_of_methodNamed Bd.named
  have hnm := (name_of_methodNamed Bd.named Bd.method).1
  have X0 : Stand p l e ({ frames := 0, cells := 0, slots := 0, locals := 0 } : Room) s m #[(.ref a1), (.ref a2)] below meth c s₁ [] 0 0 := Stand.of_body Bd
  have e0 : s₁.heap = h0 := by rw [← hh, Bd.state]; rfl
  have N0 := Fr.nil n0
  have K0 := Keep.refl h0 []
  show own_G p.tables e below (own_P s (Q4l Z a1 a2 u_logOffset_a1 u_size_a1 u_tagHash_a1 h0 n0) 0 0) (s₁.setTop (entryFrame m #[(.ref a1), (.ref a2)] 3))
  refine own_st (fun t k => castTop (ef_4l m a1 a2) k) ?_
  show own_G p.tables e below _ (s₁.setTop (mkF m 0 #[.val (.ref a1), .val (.ref a2), .unset] []))
  refine own_st (fun _ k => XS.aloadN X0.here hx rfl (hb hby d4_0) rfl rfl k) ?_
  show own_G p.tables e below _ (s₁.setTop (mkF m 1 #[.val (.ref a1), .val (.ref a2), .unset] [(.ref a2)]))
  obtain ⟨T1, X1, e1, st1⟩ := instNo X0 hx hZ hown (hw _ (List.mem_of_getElem? (i := 28) rfl)) e0 E_a2 (own_no (hw _ (List.mem_of_getElem? (i := 45) rfl)) (hw _ (List.mem_of_getElem? (i := 1) rfl)) (NS.step (hw _ (List.mem_of_getElem? (i := 45) rfl)) (NS.step (hw _ (List.mem_of_getElem? (i := 46) rfl)) (own_root (hw _ (List.mem_of_getElem? (i := 47) rfl)) (hw _ (List.mem_of_getElem? (i := 1) rfl)) (by decide)) (by decide)) (by decide)) (by decide)) (g := (mkF m 1 #[.val (.ref a1), .val (.ref a2), .unset] [(.ref a2)])) rfl rfl (hb hby d4_1)
  refine own_st st1 ?_
  show own_G p.tables e below _ (T1.setTop (mkF m 4 #[.val (.ref a1), .val (.ref a2), .unset] [(.int (0 : Int32))]))
  refine own_st (fun _ k => XS.ifNo X1.here hx rfl (hb hby d4_4) rfl (by decide) k) ?_
  show own_G p.tables e below _ (T1.setTop (mkF m 7 #[.val (.ref a1), .val (.ref a2), .unset] []))
  refine own_st (fun _ k => XS.iconst X1.here hx rfl (hb hby d4_7) k) ?_
  show own_G p.tables e below _ (T1.setTop (mkF m 8 #[.val (.ref a1), .val (.ref a2), .unset] [(.int (0 : Int32))]))
  exact own_retZ X1 hx hlk Bd.returns (hb hby d4_8) (by decide) (by rw [e1]; exact ⟨⟨_, rfl, rfl⟩, N0, rfl⟩) (by decide) (by decide)
def Q4q (Z : State) (a1 : Addr) (a2 : Addr) (u_logOffset_a1 : Int64) (u_size_a1 : Int32) (u_tagHash_a1 : Int64) (u_logOffset_a2 : Int64) (u_size_a2 : Int32) (u_tagHash_a2 : Int64) (h0 : Heap) (n0 : Nat) (v : Option Value) (h : Heap) (L : List Loc) : Prop := (∃ z : Int32, v = some (.int z) ∧ z = (own_b ((u_logOffset_a1 = u_logOffset_a2) ∧ ((u_size_a1 = u_size_a2) ∧ (u_tagHash_a1 = u_tagHash_a2))))) ∧ Fr n0 L ∧ h = h0
set_option maxRecDepth 65536 in
set_option maxHeartbeats 40000000 in
theorem rm4q (l : Launch) (Z : State) (a0 : Array Value) (hw : ∀ d ∈ tables_1, d.before a0 Z = true) (ws : List Jvm.Cond) (a1 : Addr) (a2 : Addr) (u_logOffset_a1 : Int64) (u_size_a1 : Int32) (u_tagHash_a1 : Int64) (u_logOffset_a2 : Int64) (u_size_a2 : Int32) (u_tagHash_a2 : Int64) (h0 : Heap) (n0 : Nat) (Z0 : n0 ≤ h0.size) (F_logOffset_a1 : Fld Z h0 a1 "com/example/spool/spool/storage/IndexEntry" "logOffset" "J" (.long u_logOffset_a1)) (F_size_a1 : Fld Z h0 a1 "com/example/spool/spool/storage/IndexEntry" "size" "I" (.int u_size_a1)) (F_tagHash_a1 : Fld Z h0 a1 "com/example/spool/spool/storage/IndexEntry" "tagHash" "J" (.long u_tagHash_a1)) (E_a1 : Exa Z h0 a1 "com/example/spool/spool/storage/IndexEntry") (F_logOffset_a2 : Fld Z h0 a2 "com/example/spool/spool/storage/IndexEntry" "logOffset" "J" (.long u_logOffset_a2)) (F_size_a2 : Fld Z h0 a2 "com/example/spool/spool/storage/IndexEntry" "size" "I" (.int u_size_a2)) (F_tagHash_a2 : Fld Z h0 a2 "com/example/spool/spool/storage/IndexEntry" "tagHash" "J" (.long u_tagHash_a2)) (E_a2 : Exa Z h0 a2 "com/example/spool/spool/storage/IndexEntry") :
    MetFree l (⟨"com/example/spool/spool/storage/IndexEntry", "equals", "(Ljava/lang/Object;)Z"⟩ : MethodName) (head1 (Jvm.Cond.code (⟨"com/example/spool/spool/storage/IndexEntry", "equals", "(Ljava/lang/Object;)Z"⟩ : MethodName) prog_20_method_6_code 3 (some .boolean) :: ws) ({ frames := 0, cells := 0, slots := 0, locals := 0 } : Room)) (fun a U => a = #[(.ref a1), (.ref a2)] ∧ Z.Warmed39 U.vm ∧ U.heap = h0) (fun _ _ _ _ _ => True) (fun _ U o U' => ∃ v L, o = .returned v ∧ Q4q Z a1 a2 u_logOffset_a1 u_size_a1 u_tagHash_a1 u_logOffset_a2 u_size_a2 u_tagHash_a2 h0 n0 v U'.heap L ∧ FrameEnd U o U' L ({ frames := 0, cells := 0, slots := 0, locals := 0 } : Room).cells ({ frames := 0, cells := 0, slots := 0, locals := 0 } : Room).slots) := by
  refine MetFree.of_bodySF (plainFor_of_name pn_4) hisR ?_
  intro p e s m args below meth c s₁ Bd hml0 hP hK
  obtain ⟨rfl, hZ, hh⟩ := hP
  have hx := Bd.exec
  have hby := Bd.bytes
  have hlk := BodyLoose.notSynchronized Bd
  have hml : c.maxLocals = 3 := hml0
  have hown : s.vm.findClass "com/example/spool/spool/storage/IndexEntry" = some m.cls := findClass_of_methodNamed Bd.named
  have hnm := (name_of_methodNamed Bd.named Bd.method).1
  have X0 : Stand p l e ({ frames := 0, cells := 0, slots := 0, locals := 0 } : Room) s m #[(.ref a1), (.ref a2)] below meth c s₁ [] 0 0 := Stand.of_body Bd
  have e0 : s₁.heap = h0 := by rw [← hh, Bd.state]; rfl
  have N0 := Fr.nil n0
  have K0 := Keep.refl h0 []
  show own_G p.tables e below (own_P s (Q4q Z a1 a2 u_logOffset_a1 u_size_a1 u_tagHash_a1 u_logOffset_a2 u_size_a2 u_tagHash_a2 h0 n0) 0 0) (s₁.setTop (entryFrame m #[(.ref a1), (.ref a2)] 3))
  refine own_st (fun t k => castTop (ef_4q m a1 a2) k) ?_
  show own_G p.tables e below _ (s₁.setTop (mkF m 0 #[.val (.ref a1), .val (.ref a2), .unset] []))
  refine own_st (fun _ k => XS.aloadN X0.here hx rfl (hb hby d4_0) rfl rfl k) ?_
  show own_G p.tables e below _ (s₁.setTop (mkF m 1 #[.val (.ref a1), .val (.ref a2), .unset] [(.ref a2)]))
  obtain ⟨T1, X1, e1, st1⟩ := instY X0 hx hZ hown (hw _ (List.mem_of_getElem? (i := 28) rfl)) e0 (Ins.self E_a2) (g := (mkF m 1 #[.val (.ref a1), .val (.ref a2), .unset] [(.ref a2)])) rfl rfl (hb hby d4_1)
  refine own_st st1 ?_
  show own_G p.tables e below _ (T1.setTop (mkF m 4 #[.val (.ref a1), .val (.ref a2), .unset] [(.int (1 : Int32))]))
  refine own_st (fun _ k => XS.ifYes X1.here hx rfl (pc0 := 4) (pc' := 9) rfl (hb hby d4_4) rfl (by decide) (by decide) (by decide) k) ?_
  show own_G p.tables e below _ (T1.setTop (mkF m 9 #[.val (.ref a1), .val (.ref a2), .unset] []))
  refine own_st (fun _ k => XS.aloadN X1.here hx rfl (hb hby d4_9) rfl rfl k) ?_
  show own_G p.tables e below _ (T1.setTop (mkF m 10 #[.val (.ref a1), .val (.ref a2), .unset] [(.ref a2)]))
  obtain ⟨T2, X2, e2, st2⟩ := castY X1 hx hZ hown (hw _ (List.mem_of_getElem? (i := 28) rfl)) e1 (Ins.self E_a2) (g := (mkF m 10 #[.val (.ref a1), .val (.ref a2), .unset] [(.ref a2)])) rfl rfl (hb hby d4_10)
  refine own_st st2 ?_
  show own_G p.tables e below _ (T2.setTop (mkF m 13 #[.val (.ref a1), .val (.ref a2), .unset] [(.ref a2)]))
  refine own_st (fun _ k => XS.astoreN X2.here hx rfl (hb hby d4_13) rfl rfl (l' := #[.val (.ref a1), .val (.ref a2), .val (.ref a2)]) rfl k) ?_
  show own_G p.tables e below _ (T2.setTop (mkF m 14 #[.val (.ref a1), .val (.ref a2), .val (.ref a2)] []))
  refine own_st (fun _ k => XS.aloadN X2.here hx rfl (hb hby d4_14) rfl rfl k) ?_
  show own_G p.tables e below _ (T2.setTop (mkF m 15 #[.val (.ref a1), .val (.ref a2), .val (.ref a2)] [(.ref a1)]))
  obtain ⟨T3, X3, e3, st3⟩ := getF X2 hx hZ hown (host := "") (Or.inl (hw _ (List.mem_of_getElem? (i := 9) rfl))) Via.refl e2 F_logOffset_a1 (g := (mkF m 15 #[.val (.ref a1), .val (.ref a2), .val (.ref a2)] [(.ref a1)])) rfl rfl (hb hby d4_15)
  refine own_st st3 ?_
  show own_G p.tables e below _ (T3.setTop (mkF m 18 #[.val (.ref a1), .val (.ref a2), .val (.ref a2)] [(.long u_logOffset_a1)]))
  refine own_st (fun _ k => XS.aloadN X3.here hx rfl (hb hby d4_18) rfl rfl k) ?_
  show own_G p.tables e below _ (T3.setTop (mkF m 19 #[.val (.ref a1), .val (.ref a2), .val (.ref a2)] [(.ref a2), (.long u_logOffset_a1)]))
  obtain ⟨T4, X4, e4, st4⟩ := getF X3 hx hZ hown (host := "") (Or.inl (hw _ (List.mem_of_getElem? (i := 9) rfl))) Via.refl e3 F_logOffset_a2 (g := (mkF m 19 #[.val (.ref a1), .val (.ref a2), .val (.ref a2)] [(.ref a2), (.long u_logOffset_a1)])) rfl rfl (hb hby d4_19)
  refine own_st st4 ?_
  show own_G p.tables e below _ (T4.setTop (mkF m 22 #[.val (.ref a1), .val (.ref a2), .val (.ref a2)] [(.long u_logOffset_a2), (.long u_logOffset_a1)]))
  refine own_st (fun _ k => XS.lcmp X4.here hx rfl (hb hby d4_22) rfl k) ?_
  show own_G p.tables e below _ (T4.setTop (mkF m 23 #[.val (.ref a1), .val (.ref a2), .val (.ref a2)] [(.int (lcmpW u_logOffset_a1 u_logOffset_a2))]))
  have J54_6 : ∀ (z7 : Int32) (hz7 : z7 = (own_b ((u_logOffset_a1 = u_logOffset_a2) ∧ ((u_size_a1 = u_size_a2) ∧ (u_tagHash_a1 = u_tagHash_a2))))) (T8 : State) (L8 : List Loc) (X8 : Stand p l e ({ frames := 0, cells := 0, slots := 0, locals := 0 } : Room) s m #[(.ref a1), (.ref a2)] below meth c T8 L8 0 0) (N8 : Fr n0 L8) (e8 : T8.heap = h0), own_G p.tables e below (own_P s (Q4q Z a1 a2 u_logOffset_a1 u_size_a1 u_tagHash_a1 u_logOffset_a2 u_size_a2 u_tagHash_a2 h0 n0) 0 0) (T8.setTop (mkF m 54 #[.val (.ref a1), .val (.ref a2), .val (.ref a2)] [(.int z7)])) := by
    intro z7 hz7 T8 L8 X8 N8 e8
    exact own_retZ X8 hx hlk Bd.returns (hb hby d4_54) (own_nar hz7) (by rw [e8]; exact ⟨⟨_, rfl, (by subst hz7; exact rfl)⟩, N8, rfl⟩) (by decide) (by decide)
  by_cases hc23_5 : u_logOffset_a1 = u_logOffset_a2
  · refine own_st (fun _ k => XS.ifNo X4.here hx rfl (hb hby d4_23) rfl ((if0 _ _).trans (teq ((lw_eq u_logOffset_a1 u_logOffset_a2).mpr hc23_5)).2) k) ?_
    show own_G p.tables e below _ (T4.setTop (mkF m 26 #[.val (.ref a1), .val (.ref a2), .val (.ref a2)] []))
    refine own_st (fun _ k => XS.aloadN X4.here hx rfl (hb hby d4_26) rfl rfl k) ?_
    show own_G p.tables e below _ (T4.setTop (mkF m 27 #[.val (.ref a1), .val (.ref a2), .val (.ref a2)] [(.ref a1)]))
    obtain ⟨T9, X9, e9, st9⟩ := getF X4 hx hZ hown (host := "") (Or.inl (hw _ (List.mem_of_getElem? (i := 11) rfl))) Via.refl e4 F_size_a1 (g := (mkF m 27 #[.val (.ref a1), .val (.ref a2), .val (.ref a2)] [(.ref a1)])) rfl rfl (hb hby d4_27)
    refine own_st st9 ?_
    show own_G p.tables e below _ (T9.setTop (mkF m 30 #[.val (.ref a1), .val (.ref a2), .val (.ref a2)] [(.int u_size_a1)]))
    refine own_st (fun _ k => XS.aloadN X9.here hx rfl (hb hby d4_30) rfl rfl k) ?_
    show own_G p.tables e below _ (T9.setTop (mkF m 31 #[.val (.ref a1), .val (.ref a2), .val (.ref a2)] [(.ref a2), (.int u_size_a1)]))
    obtain ⟨T10, X10, e10, st10⟩ := getF X9 hx hZ hown (host := "") (Or.inl (hw _ (List.mem_of_getElem? (i := 11) rfl))) Via.refl e9 F_size_a2 (g := (mkF m 31 #[.val (.ref a1), .val (.ref a2), .val (.ref a2)] [(.ref a2), (.int u_size_a1)])) rfl rfl (hb hby d4_31)
    refine own_st st10 ?_
    show own_G p.tables e below _ (T10.setTop (mkF m 34 #[.val (.ref a1), .val (.ref a2), .val (.ref a2)] [(.int u_size_a2), (.int u_size_a1)]))
    by_cases hc34_11 : u_size_a1 = u_size_a2
    · refine own_st (fun _ k => XS.icmpNo X10.here hx rfl (hb hby d4_34) rfl (teq hc34_11).2 k) ?_
      show own_G p.tables e below _ (T10.setTop (mkF m 37 #[.val (.ref a1), .val (.ref a2), .val (.ref a2)] []))
      refine own_st (fun _ k => XS.aloadN X10.here hx rfl (hb hby d4_37) rfl rfl k) ?_
      show own_G p.tables e below _ (T10.setTop (mkF m 38 #[.val (.ref a1), .val (.ref a2), .val (.ref a2)] [(.ref a1)]))
      obtain ⟨T12, X12, e12, st12⟩ := getF X10 hx hZ hown (host := "") (Or.inl (hw _ (List.mem_of_getElem? (i := 13) rfl))) Via.refl e10 F_tagHash_a1 (g := (mkF m 38 #[.val (.ref a1), .val (.ref a2), .val (.ref a2)] [(.ref a1)])) rfl rfl (hb hby d4_38)
      refine own_st st12 ?_
      show own_G p.tables e below _ (T12.setTop (mkF m 41 #[.val (.ref a1), .val (.ref a2), .val (.ref a2)] [(.long u_tagHash_a1)]))
      refine own_st (fun _ k => XS.aloadN X12.here hx rfl (hb hby d4_41) rfl rfl k) ?_
      show own_G p.tables e below _ (T12.setTop (mkF m 42 #[.val (.ref a1), .val (.ref a2), .val (.ref a2)] [(.ref a2), (.long u_tagHash_a1)]))
      obtain ⟨T13, X13, e13, st13⟩ := getF X12 hx hZ hown (host := "") (Or.inl (hw _ (List.mem_of_getElem? (i := 13) rfl))) Via.refl e12 F_tagHash_a2 (g := (mkF m 42 #[.val (.ref a1), .val (.ref a2), .val (.ref a2)] [(.ref a2), (.long u_tagHash_a1)])) rfl rfl (hb hby d4_42)
      refine own_st st13 ?_
      show own_G p.tables e below _ (T13.setTop (mkF m 45 #[.val (.ref a1), .val (.ref a2), .val (.ref a2)] [(.long u_tagHash_a2), (.long u_tagHash_a1)]))
      refine own_st (fun _ k => XS.lcmp X13.here hx rfl (hb hby d4_45) rfl k) ?_
      show own_G p.tables e below _ (T13.setTop (mkF m 46 #[.val (.ref a1), .val (.ref a2), .val (.ref a2)] [(.int (lcmpW u_tagHash_a1 u_tagHash_a2))]))
      by_cases hc46_14 : u_tagHash_a1 = u_tagHash_a2
      · refine own_st (fun _ k => XS.ifNo X13.here hx rfl (hb hby d4_46) rfl ((if0 _ _).trans (teq ((lw_eq u_tagHash_a1 u_tagHash_a2).mpr hc46_14)).2) k) ?_
        show own_G p.tables e below _ (T13.setTop (mkF m 49 #[.val (.ref a1), .val (.ref a2), .val (.ref a2)] []))
        refine own_st (fun _ k => XS.iconst X13.here hx rfl (hb hby d4_49) k) ?_
        show own_G p.tables e below _ (T13.setTop (mkF m 50 #[.val (.ref a1), .val (.ref a2), .val (.ref a2)] [(.int (1 : Int32))]))
        refine own_st (fun _ k => XS.goto X13.here hx rfl (pc0 := 50) (pc' := 54) rfl (hb hby d4_50) (by decide) (by decide) k) ?_
        show own_G p.tables e below _ (T13.setTop (mkF m 54 #[.val (.ref a1), .val (.ref a2), .val (.ref a2)] [(.int (1 : Int32))]))
        exact J54_6 (1 : Int32) ((own_bt ⟨hc23_5, ⟨hc34_11, hc46_14⟩⟩).symm) _ _ X13 N0 e13
      · refine own_st (fun _ k => XS.ifYes X13.here hx rfl (pc0 := 46) (pc' := 53) rfl (hb hby d4_46) rfl ((if0 _ _).trans (feq (fun q => hc46_14 ((lw_eq u_tagHash_a1 u_tagHash_a2).mp q))).2) (by decide) (by decide) k) ?_
        show own_G p.tables e below _ (T13.setTop (mkF m 53 #[.val (.ref a1), .val (.ref a2), .val (.ref a2)] []))
        refine own_st (fun _ k => XS.iconst X13.here hx rfl (hb hby d4_53) k) ?_
        show own_G p.tables e below _ (T13.setTop (mkF m 54 #[.val (.ref a1), .val (.ref a2), .val (.ref a2)] [(.int (0 : Int32))]))
        exact J54_6 (0 : Int32) ((own_bf (fun q => (fun q => hc46_14 q.2) q.2)).symm) _ _ X13 N0 e13
    · refine own_st (fun _ k => XS.icmpYes X10.here hx rfl (pc0 := 34) (pc' := 53) rfl (hb hby d4_34) rfl (feq hc34_11).2 (by decide) (by decide) k) ?_
      show own_G p.tables e below _ (T10.setTop (mkF m 53 #[.val (.ref a1), .val (.ref a2), .val (.ref a2)] []))
      refine own_st (fun _ k => XS.iconst X10.here hx rfl (hb hby d4_53) k) ?_
      show own_G p.tables e below _ (T10.setTop (mkF m 54 #[.val (.ref a1), .val (.ref a2), .val (.ref a2)] [(.int (0 : Int32))]))
      exact J54_6 (0 : Int32) ((own_bf (fun q => (fun q => hc34_11 q.1) q.2)).symm) _ _ X10 N0 e10
  · refine own_st (fun _ k => XS.ifYes X4.here hx rfl (pc0 := 23) (pc' := 53) rfl (hb hby d4_23) rfl ((if0 _ _).trans (feq (fun q => hc23_5 ((lw_eq u_logOffset_a1 u_logOffset_a2).mp q))).2) (by decide) (by decide) k) ?_
    show own_G p.tables e below _ (T4.setTop (mkF m 53 #[.val (.ref a1), .val (.ref a2), .val (.ref a2)] []))
    refine own_st (fun _ k => XS.iconst X4.here hx rfl (hb hby d4_53) k) ?_
    show own_G p.tables e below _ (T4.setTop (mkF m 54 #[.val (.ref a1), .val (.ref a2), .val (.ref a2)] [(.int (0 : Int32))]))
    exact J54_6 (0 : Int32) ((own_bf (fun q => hc23_5 q.1)).symm) _ _ X4 N0 e4
def Q0 (n0 : Nat) (v : Option Value) (h : Heap) (L : List Loc) : Prop := v = some (.int 1) ∧ Fr n0 L
set_option maxRecDepth 65536 in
set_option maxHeartbeats 40000000 in
theorem rm0 (l : Launch) (Z : State) (a0 : Array Value) (hw : ∀ d ∈ tables_1, d.before a0 Z = true) (ws : List Jvm.Cond) (i0 : Int64) (i1 : Int32) (i2 : Int64) (i3 : Int32) (i4 : Int64) (i5 : Int64) (bc : Addr) (clc : Cell) (h0 : Heap) (n0 : Nat) (Z0 : n0 ≤ h0.size) (O0 : Old Z n0 h0) (S_cache : Sta Z Z.heap "java/lang/Long$LongCache" "cache" "[Ljava/lang/Long;" (.ref bc)) (Arc : Arr Z Z.heap bc clc (.object "java/lang/Long")) (hel : ∀ j : Int32, ¬ j < 0 → j < (256 : Int32) → (¬ (j < 0 ∨ clc.slots.size ≤ j.toNatClampNeg)) ∧ ∃ y, clc.slots[j.toNatClampNeg]? = some (.ref y) ∧ Exa Z Z.heap y "java/lang/Long") :
    MetFree l x (head1 (Jvm.Cond.code x code maxLocals ret :: ws) room_1) (fun a U => a = #[(.long i0), (.int i1), (.long i2), (.int i3), (.long i4), (.long i5)] ∧ Z.Warmed39 U.vm ∧ U.heap = h0) (fun _ _ _ _ _ => True) (fun _ U o U' => ∃ v L, o = .returned v ∧ Q0 n0 v U'.heap L ∧ FrameEnd U o U' L 16 128) := by
  refine MetFree.of_bodySF (plainFor_of_name pn_0) hisR ?_
  intro p e s m args below meth c s₁ Bd hml0 hP hK
  obtain ⟨rfl, hZ, hh⟩ := hP
  have hx := Bd.exec
  have hby := Bd.bytes
  have hlk := BodyLoose.notSynchronized Bd
  have hml : c.maxLocals = 20 := hml0
  have hown : s.vm.findClass "com/example/spool/spool/storage/IndexEntryEqualsPinLaw" = some m.cls := findClass_of_methodNamed Bd.named
  have hnm := (name_of_methodNamed Bd.named Bd.method).1
  have X0 : Stand p l e room_1 s m #[(.long i0), (.int i1), (.long i2), (.int i3), (.long i4), (.long i5)] below meth c s₁ [] 0 0 := Stand.of_body Bd
  have e0 : s₁.heap = h0 := by rw [← hh, Bd.state]; rfl
  have N0 := Fr.nil n0
  have K0 := Keep.refl h0 []
  show own_G p.tables e below (own_P s (Q0 n0) 16 128) (s₁.setTop (entryFrame m #[(.long i0), (.int i1), (.long i2), (.int i3), (.long i4), (.long i5)] maxLocals))
  refine own_st (fun t k => castTop (ef_0 m i0 i1 i2 i3 i4 i5) k) ?_
  show own_G p.tables e below _ (s₁.setTop (mkF m 0 #[.val (.long i0), .second, .val (.int i1), .val (.long i2), .second, .val (.int i3), .val (.long i4), .second, .val (.long i5), .second, .unset, .unset, .unset, .unset, .unset, .unset, .unset, .unset, .unset, .unset] []))
  refine own_st (fun _ k => XS.iload X0.here hx rfl (hb hby at_0) rfl k) ?_
  show own_G p.tables e below _ (s₁.setTop (mkF m 2 #[.val (.long i0), .second, .val (.int i1), .val (.long i2), .second, .val (.int i3), .val (.long i4), .second, .val (.long i5), .second, .unset, .unset, .unset, .unset, .unset, .unset, .unset, .unset, .unset, .unset] [(.int i3)]))
  refine own_st (fun _ k => XS.iconst X0.here hx rfl (hb hby at_2) k) ?_
  show own_G p.tables e below _ (s₁.setTop (mkF m 3 #[.val (.long i0), .second, .val (.int i1), .val (.long i2), .second, .val (.int i3), .val (.long i4), .second, .val (.long i5), .second, .unset, .unset, .unset, .unset, .unset, .unset, .unset, .unset, .unset, .unset] [(.int (1 : Int32)), (.int i3)]))
  refine own_st (fun _ k => XS.iand X0.here hx rfl (hb hby at_3) rfl k) ?_
  show own_G p.tables e below _ (s₁.setTop (mkF m 4 #[.val (.long i0), .second, .val (.int i1), .val (.long i2), .second, .val (.int i3), .val (.long i4), .second, .val (.long i5), .second, .unset, .unset, .unset, .unset, .unset, .unset, .unset, .unset, .unset, .unset] [(.int (i3 &&& (1 : Int32)))]))
  have J13_2 : ∀ (z3 : Int64) (hz3 : z3 = (if (i3 &&& (1 : Int32)) = (0 : Int32) then i4 else i0)), own_G p.tables e below (own_P s (Q0 n0) 16 128) (s₁.setTop (mkF m 13 #[.val (.long i0), .second, .val (.int i1), .val (.long i2), .second, .val (.int i3), .val (.long i4), .second, .val (.long i5), .second, .unset, .unset, .unset, .unset, .unset, .unset, .unset, .unset, .unset, .unset] [(.long z3)])) := by
    intro z3 hz3
    refine own_st (fun _ k => XS.lstore X0.here hx rfl (hb hby at_13) rfl (l' := #[.val (.long i0), .second, .val (.int i1), .val (.long i2), .second, .val (.int i3), .val (.long i4), .second, .val (.long i5), .second, .val (.long z3), .second, .unset, .unset, .unset, .unset, .unset, .unset, .unset, .unset]) rfl k) ?_
    show own_G p.tables e below _ (s₁.setTop (mkF m 15 #[.val (.long i0), .second, .val (.int i1), .val (.long i2), .second, .val (.int i3), .val (.long i4), .second, .val (.long i5), .second, .val (.long z3), .second, .unset, .unset, .unset, .unset, .unset, .unset, .unset, .unset] []))
    refine own_st (fun _ k => XS.iload X0.here hx rfl (hb hby at_15) rfl k) ?_
    show own_G p.tables e below _ (s₁.setTop (mkF m 17 #[.val (.long i0), .second, .val (.int i1), .val (.long i2), .second, .val (.int i3), .val (.long i4), .second, .val (.long i5), .second, .val (.long z3), .second, .unset, .unset, .unset, .unset, .unset, .unset, .unset, .unset] [(.int i3)]))
    refine own_st (fun _ k => XS.iconst X0.here hx rfl (hb hby at_17) k) ?_
    show own_G p.tables e below _ (s₁.setTop (mkF m 18 #[.val (.long i0), .second, .val (.int i1), .val (.long i2), .second, .val (.int i3), .val (.long i4), .second, .val (.long i5), .second, .val (.long z3), .second, .unset, .unset, .unset, .unset, .unset, .unset, .unset, .unset] [(.int (2 : Int32)), (.int i3)]))
    refine own_st (fun _ k => XS.iand X0.here hx rfl (hb hby at_18) rfl k) ?_
    show own_G p.tables e below _ (s₁.setTop (mkF m 19 #[.val (.long i0), .second, .val (.int i1), .val (.long i2), .second, .val (.int i3), .val (.long i4), .second, .val (.long i5), .second, .val (.long z3), .second, .unset, .unset, .unset, .unset, .unset, .unset, .unset, .unset] [(.int (i3 &&& (2 : Int32)))]))
    have J32_5 : ∀ (z6 : Int32) (hz6 : z6 = (if (i3 &&& (2 : Int32)) = (0 : Int32) then (((i5.toUInt64 >>> ((32 : Int32) &&& 0x3f).toInt64.toUInt64).toInt64).toInt32) else i1)), own_G p.tables e below (own_P s (Q0 n0) 16 128) (s₁.setTop (mkF m 32 #[.val (.long i0), .second, .val (.int i1), .val (.long i2), .second, .val (.int i3), .val (.long i4), .second, .val (.long i5), .second, .val (.long z3), .second, .unset, .unset, .unset, .unset, .unset, .unset, .unset, .unset] [(.int z6)])) := by
      intro z6 hz6
      refine own_st (fun _ k => XS.istore X0.here hx rfl (hb hby at_32) rfl (l' := #[.val (.long i0), .second, .val (.int i1), .val (.long i2), .second, .val (.int i3), .val (.long i4), .second, .val (.long i5), .second, .val (.long z3), .second, .val (.int z6), .unset, .unset, .unset, .unset, .unset, .unset, .unset]) rfl k) ?_
      show own_G p.tables e below _ (s₁.setTop (mkF m 34 #[.val (.long i0), .second, .val (.int i1), .val (.long i2), .second, .val (.int i3), .val (.long i4), .second, .val (.long i5), .second, .val (.long z3), .second, .val (.int z6), .unset, .unset, .unset, .unset, .unset, .unset, .unset] []))
      refine own_st (fun _ k => XS.iload X0.here hx rfl (hb hby at_34) rfl k) ?_
      show own_G p.tables e below _ (s₁.setTop (mkF m 36 #[.val (.long i0), .second, .val (.int i1), .val (.long i2), .second, .val (.int i3), .val (.long i4), .second, .val (.long i5), .second, .val (.long z3), .second, .val (.int z6), .unset, .unset, .unset, .unset, .unset, .unset, .unset] [(.int i3)]))
      refine own_st (fun _ k => XS.iconst X0.here hx rfl (hb hby at_36) k) ?_
      show own_G p.tables e below _ (s₁.setTop (mkF m 37 #[.val (.long i0), .second, .val (.int i1), .val (.long i2), .second, .val (.int i3), .val (.long i4), .second, .val (.long i5), .second, .val (.long z3), .second, .val (.int z6), .unset, .unset, .unset, .unset, .unset, .unset, .unset] [(.int (4 : Int32)), (.int i3)]))
      refine own_st (fun _ k => XS.iand X0.here hx rfl (hb hby at_37) rfl k) ?_
      show own_G p.tables e below _ (s₁.setTop (mkF m 38 #[.val (.long i0), .second, .val (.int i1), .val (.long i2), .second, .val (.int i3), .val (.long i4), .second, .val (.long i5), .second, .val (.long z3), .second, .val (.int z6), .unset, .unset, .unset, .unset, .unset, .unset, .unset] [(.int (i3 &&& (4 : Int32)))]))
      have J47_8 : ∀ (z9 : Int64) (hz9 : z9 = (if (i3 &&& (4 : Int32)) = (0 : Int32) then i5 else i2)), own_G p.tables e below (own_P s (Q0 n0) 16 128) (s₁.setTop (mkF m 47 #[.val (.long i0), .second, .val (.int i1), .val (.long i2), .second, .val (.int i3), .val (.long i4), .second, .val (.long i5), .second, .val (.long z3), .second, .val (.int z6), .unset, .unset, .unset, .unset, .unset, .unset, .unset] [(.long z9)])) := by
        intro z9 hz9
        refine own_st (fun _ k => XS.lstore X0.here hx rfl (hb hby at_47) rfl (l' := #[.val (.long i0), .second, .val (.int i1), .val (.long i2), .second, .val (.int i3), .val (.long i4), .second, .val (.long i5), .second, .val (.long z3), .second, .val (.int z6), .val (.long z9), .second, .unset, .unset, .unset, .unset, .unset]) rfl k) ?_
        show own_G p.tables e below _ (s₁.setTop (mkF m 49 #[.val (.long i0), .second, .val (.int i1), .val (.long i2), .second, .val (.int i3), .val (.long i4), .second, .val (.long i5), .second, .val (.long z3), .second, .val (.int z6), .val (.long z9), .second, .unset, .unset, .unset, .unset, .unset] []))
        obtain ⟨T10, h10, X10, e10, E10, A10, D10, -, st10⟩ := newO X0 hx hZ hown (hw _ (List.mem_of_getElem? (i := 0) rfl)) (hw _ (List.mem_of_getElem? (i := 1) rfl)) (hw _ (List.mem_of_getElem? (i := 2) rfl)) e0 (g := (mkF m 49 #[.val (.long i0), .second, .val (.int i1), .val (.long i2), .second, .val (.int i3), .val (.long i4), .second, .val (.long i5), .second, .val (.long z3), .second, .val (.int z6), .val (.long z9), .second, .unset, .unset, .unset, .unset, .unset] [])) rfl (hb hby at_49) (by decide) (by decide)
        obtain ⟨b10, g10⟩ : ∃ z, z = h0.size := ⟨_, rfl⟩
        rw [← g10] at A10 D10 st10
        have ge_b10 : n0 ≤ b10 := Nat.le_trans Z0 (Nat.le_of_eq g10.symm)
        have Z11 := Nat.le_trans Z0 E10.1
        have O12 := O0.ext E10
        have F13 : Fld Z h10 b10 "com/example/spool/spool/storage/IndexEntry" "logOffset" "J" (.long (0 : Int64)) := D10 (Or.inr (hw _ (List.mem_of_getElem? (i := 10) rfl))) (ty := .long) (by decide)
        have F14 : Fld Z h10 b10 "com/example/spool/spool/storage/IndexEntry" "size" "I" (.int (0 : Int32)) := D10 (Or.inr (hw _ (List.mem_of_getElem? (i := 12) rfl))) (ty := .int) (by decide)
        have F15 : Fld Z h10 b10 "com/example/spool/spool/storage/IndexEntry" "tagHash" "J" (.long (0 : Int64)) := D10 (Or.inr (hw _ (List.mem_of_getElem? (i := 14) rfl))) (ty := .long) (by decide)
        refine own_st st10 ?_
        show own_G p.tables e below _ (T10.setTop (mkF m 52 #[.val (.long i0), .second, .val (.int i1), .val (.long i2), .second, .val (.int i3), .val (.long i4), .second, .val (.long i5), .second, .val (.long z3), .second, .val (.int z6), .val (.long z9), .second, .unset, .unset, .unset, .unset, .unset] [(.ref b10)]))
        refine own_st (fun _ k => XS.dup X10.here hx rfl (hb hby at_52) rfl rfl k) ?_
        show own_G p.tables e below _ (T10.setTop (mkF m 53 #[.val (.long i0), .second, .val (.int i1), .val (.long i2), .second, .val (.int i3), .val (.long i4), .second, .val (.long i5), .second, .val (.long z3), .second, .val (.int z6), .val (.long z9), .second, .unset, .unset, .unset, .unset, .unset] [(.ref b10), (.ref b10)]))
        refine own_st (fun _ k => XS.lloadN X10.here hx rfl (hb hby at_53) rfl k) ?_
        show own_G p.tables e below _ (T10.setTop (mkF m 54 #[.val (.long i0), .second, .val (.int i1), .val (.long i2), .second, .val (.int i3), .val (.long i4), .second, .val (.long i5), .second, .val (.long z3), .second, .val (.int z6), .val (.long z9), .second, .unset, .unset, .unset, .unset, .unset] [(.long i0), (.ref b10), (.ref b10)]))
        refine own_st (fun _ k => XS.iloadN X10.here hx rfl (hb hby at_54) rfl k) ?_
        show own_G p.tables e below _ (T10.setTop (mkF m 55 #[.val (.long i0), .second, .val (.int i1), .val (.long i2), .second, .val (.int i3), .val (.long i4), .second, .val (.long i5), .second, .val (.long z3), .second, .val (.int z6), .val (.long z9), .second, .unset, .unset, .unset, .unset, .unset] [(.int i1), (.long i0), (.ref b10), (.ref b10)]))
        refine own_st (fun _ k => XS.lloadN X10.here hx rfl (hb hby at_55) rfl k) ?_
        show own_G p.tables e below _ (T10.setTop (mkF m 56 #[.val (.long i0), .second, .val (.int i1), .val (.long i2), .second, .val (.int i3), .val (.long i4), .second, .val (.long i5), .second, .val (.long z3), .second, .val (.int z6), .val (.long z9), .second, .unset, .unset, .unset, .unset, .unset] [(.long i2), (.int i1), (.long i0), (.ref b10), (.ref b10)]))
        obtain ⟨_, _, ⟨T16, L16, k16, n16⟩, -, X16, ⟨Lc16, hQ16, l16, y16, z16⟩, st16⟩ := X10.specialBack hx (y := (⟨"com/example/spool/spool/storage/IndexEntry", "<init>", "(JIJ)V"⟩ : MethodName)) rfl hown (mvT hZ (hw _ (List.mem_of_getElem? (i := 3) rfl))) (mvT hZ (hw _ (List.mem_of_getElem? (i := 4) rfl))) (mvT hZ (hw _ (List.mem_of_getElem? (i := 5) rfl))) (by decide) (backOf (W := 1) (rm1 l Z a0 hw [] b10 i0 i1 i2 (0 : Int64) (0 : Int32) (0 : Int64) h10 n0 Z11 F13 F14 F15 A10 ge_b10) hZ (hw _ (List.mem_of_getElem? (i := 5) rfl)) (hw _ (List.mem_of_getElem? (i := 2) rfl)) (by decide) (by decide)) (g := (mkF m 56 #[.val (.long i0), .second, .val (.int i1), .val (.long i2), .second, .val (.int i3), .val (.long i4), .second, .val (.long i5), .second, .val (.long z3), .second, .val (.int z6), .val (.long z9), .second, .unset, .unset, .unset, .unset, .unset] [(.long i2), (.int i1), (.long i0), (.ref b10), (.ref b10)])) rfl (by rw [hml]; rfl) (Steps.refl _) (a := b10) (argsL := [(.long i0), (.int i1), (.long i2)]) (rest := [(.ref b10)]) (lenOf pd_2 rfl) rfl (by show 2 * 0 + _ ≤ _; exact Nat.le_of_eq rfl) (hb hby at_56) (fun _ _ => ⟨rfl, e10, (by decide : 1 + 0 ≤ _), (by decide : 3 + 0 ≤ _)⟩)
        dsimp only [Pt.U, Pt.locs, Pt.cells, Pt.slots] at X16 l16 y16 z16 st16 hQ16
        subst l16 y16 z16
        obtain ⟨rfl, N16q, K16q, E17, F18, F19, F20⟩ := hQ16
        have N16 := Fr.app N0 N16q
        have Z22 := Nat.le_trans Z11 K16q.1
        have O23 := O12.keep K16q (allS ge_b10 all0)
        refine own_st (fun _ k => st16.trans k) ?_
        show own_G p.tables e below _ (T16.setTop (mkF m 59 #[.val (.long i0), .second, .val (.int i1), .val (.long i2), .second, .val (.int i3), .val (.long i4), .second, .val (.long i5), .second, .val (.long z3), .second, .val (.int z6), .val (.long z9), .second, .unset, .unset, .unset, .unset, .unset] [(.ref b10)]))
        refine own_st (fun _ k => XS.astore X16.here hx rfl (hb hby at_59) rfl rfl (l' := #[.val (.long i0), .second, .val (.int i1), .val (.long i2), .second, .val (.int i3), .val (.long i4), .second, .val (.long i5), .second, .val (.long z3), .second, .val (.int z6), .val (.long z9), .second, .val (.ref b10), .unset, .unset, .unset, .unset]) rfl k) ?_
        show own_G p.tables e below _ (T16.setTop (mkF m 61 #[.val (.long i0), .second, .val (.int i1), .val (.long i2), .second, .val (.int i3), .val (.long i4), .second, .val (.long i5), .second, .val (.long z3), .second, .val (.int z6), .val (.long z9), .second, .val (.ref b10), .unset, .unset, .unset, .unset] []))
        obtain ⟨T27, h27, X27, e27, E27, A27, D27, -, st27⟩ := newO X16 hx hZ hown (hw _ (List.mem_of_getElem? (i := 0) rfl)) (hw _ (List.mem_of_getElem? (i := 1) rfl)) (hw _ (List.mem_of_getElem? (i := 2) rfl)) rfl (g := (mkF m 61 #[.val (.long i0), .second, .val (.int i1), .val (.long i2), .second, .val (.int i3), .val (.long i4), .second, .val (.long i5), .second, .val (.long z3), .second, .val (.int z6), .val (.long z9), .second, .val (.ref b10), .unset, .unset, .unset, .unset] [])) rfl (hb hby at_61) (by decide) (by decide)
        obtain ⟨b27, g27⟩ : ∃ z, z = T16.heap.size := ⟨_, rfl⟩
        rw [← g27] at A27 D27 st27
        have ge_b27 : n0 ≤ b27 := Nat.le_trans Z22 (Nat.le_of_eq g27.symm)
        have ne_b10_b27 : b10 ≠ b27 := fun q => Nat.lt_irrefl _ (Nat.lt_of_lt_of_eq E17.lt (g27.symm.trans q.symm))
        have E28 := E17.ext E27
        have F29 := F18.ext E27
        have F30 := F19.ext E27
        have F31 := F20.ext E27
        have Z32 := Nat.le_trans Z22 E27.1
        have O33 := O23.ext E27
        have F34 : Fld Z h27 b27 "com/example/spool/spool/storage/IndexEntry" "logOffset" "J" (.long (0 : Int64)) := D27 (Or.inr (hw _ (List.mem_of_getElem? (i := 10) rfl))) (ty := .long) (by decide)
        have F35 : Fld Z h27 b27 "com/example/spool/spool/storage/IndexEntry" "size" "I" (.int (0 : Int32)) := D27 (Or.inr (hw _ (List.mem_of_getElem? (i := 12) rfl))) (ty := .int) (by decide)
        have F36 : Fld Z h27 b27 "com/example/spool/spool/storage/IndexEntry" "tagHash" "J" (.long (0 : Int64)) := D27 (Or.inr (hw _ (List.mem_of_getElem? (i := 14) rfl))) (ty := .long) (by decide)
        refine own_st st27 ?_
        show own_G p.tables e below _ (T27.setTop (mkF m 64 #[.val (.long i0), .second, .val (.int i1), .val (.long i2), .second, .val (.int i3), .val (.long i4), .second, .val (.long i5), .second, .val (.long z3), .second, .val (.int z6), .val (.long z9), .second, .val (.ref b10), .unset, .unset, .unset, .unset] [(.ref b27)]))
        refine own_st (fun _ k => XS.dup X27.here hx rfl (hb hby at_64) rfl rfl k) ?_
        show own_G p.tables e below _ (T27.setTop (mkF m 65 #[.val (.long i0), .second, .val (.int i1), .val (.long i2), .second, .val (.int i3), .val (.long i4), .second, .val (.long i5), .second, .val (.long z3), .second, .val (.int z6), .val (.long z9), .second, .val (.ref b10), .unset, .unset, .unset, .unset] [(.ref b27), (.ref b27)]))
        refine own_st (fun _ k => XS.lload X27.here hx rfl (hb hby at_65) rfl k) ?_
        show own_G p.tables e below _ (T27.setTop (mkF m 67 #[.val (.long i0), .second, .val (.int i1), .val (.long i2), .second, .val (.int i3), .val (.long i4), .second, .val (.long i5), .second, .val (.long z3), .second, .val (.int z6), .val (.long z9), .second, .val (.ref b10), .unset, .unset, .unset, .unset] [(.long z3), (.ref b27), (.ref b27)]))
        refine own_st (fun _ k => XS.iload X27.here hx rfl (hb hby at_67) rfl k) ?_
        show own_G p.tables e below _ (T27.setTop (mkF m 69 #[.val (.long i0), .second, .val (.int i1), .val (.long i2), .second, .val (.int i3), .val (.long i4), .second, .val (.long i5), .second, .val (.long z3), .second, .val (.int z6), .val (.long z9), .second, .val (.ref b10), .unset, .unset, .unset, .unset] [(.int z6), (.long z3), (.ref b27), (.ref b27)]))
        refine own_st (fun _ k => XS.lload X27.here hx rfl (hb hby at_69) rfl k) ?_
        show own_G p.tables e below _ (T27.setTop (mkF m 71 #[.val (.long i0), .second, .val (.int i1), .val (.long i2), .second, .val (.int i3), .val (.long i4), .second, .val (.long i5), .second, .val (.long z3), .second, .val (.int z6), .val (.long z9), .second, .val (.ref b10), .unset, .unset, .unset, .unset] [(.long z9), (.int z6), (.long z3), (.ref b27), (.ref b27)]))
        obtain ⟨_, _, ⟨T37, L37, k37, n37⟩, -, X37, ⟨Lc37, hQ37, l37, y37, z37⟩, st37⟩ := X27.specialBack hx (y := (⟨"com/example/spool/spool/storage/IndexEntry", "<init>", "(JIJ)V"⟩ : MethodName)) rfl hown (mvT hZ (hw _ (List.mem_of_getElem? (i := 3) rfl))) (mvT hZ (hw _ (List.mem_of_getElem? (i := 4) rfl))) (mvT hZ (hw _ (List.mem_of_getElem? (i := 5) rfl))) (by decide) (backOf (W := 1) (rm1 l Z a0 hw [] b27 z3 z6 z9 (0 : Int64) (0 : Int32) (0 : Int64) h27 n0 Z32 F34 F35 F36 A27 ge_b27) hZ (hw _ (List.mem_of_getElem? (i := 5) rfl)) (hw _ (List.mem_of_getElem? (i := 2) rfl)) (by decide) (by decide)) (g := (mkF m 71 #[.val (.long i0), .second, .val (.int i1), .val (.long i2), .second, .val (.int i3), .val (.long i4), .second, .val (.long i5), .second, .val (.long z3), .second, .val (.int z6), .val (.long z9), .second, .val (.ref b10), .unset, .unset, .unset, .unset] [(.long z9), (.int z6), (.long z3), (.ref b27), (.ref b27)])) rfl (by rw [hml]; rfl) (Steps.refl _) (a := b27) (argsL := [(.long z3), (.int z6), (.long z9)]) (rest := [(.ref b27)]) (lenOf pd_2 rfl) rfl (by show 2 * 0 + _ ≤ _; exact Nat.le_of_eq rfl) (hb hby at_71) (fun _ _ => ⟨rfl, e27, (by decide : 2 + 0 ≤ _), (by decide : 6 + 0 ≤ _)⟩)
        dsimp only [Pt.U, Pt.locs, Pt.cells, Pt.slots] at X37 l37 y37 z37 st37 hQ37
        subst l37 y37 z37
        obtain ⟨rfl, N37q, K37q, E38, F39, F40, F41⟩ := hQ37
        have N37 := Fr.app N16 N37q
        have E42 := E28.keep K37q
        have F43 := F29.keep K37q (ninS ne_b10_b27 nin0)
        have F44 := F30.keep K37q (ninS ne_b10_b27 nin0)
        have F45 := F31.keep K37q (ninS ne_b10_b27 nin0)
        have Z47 := Nat.le_trans Z32 K37q.1
        have O48 := O33.keep K37q (allS ge_b27 all0)
        refine own_st (fun _ k => st37.trans k) ?_
        show own_G p.tables e below _ (T37.setTop (mkF m 74 #[.val (.long i0), .second, .val (.int i1), .val (.long i2), .second, .val (.int i3), .val (.long i4), .second, .val (.long i5), .second, .val (.long z3), .second, .val (.int z6), .val (.long z9), .second, .val (.ref b10), .unset, .unset, .unset, .unset] [(.ref b27)]))
        refine own_st (fun _ k => XS.astore X37.here hx rfl (hb hby at_74) rfl rfl (l' := #[.val (.long i0), .second, .val (.int i1), .val (.long i2), .second, .val (.int i3), .val (.long i4), .second, .val (.long i5), .second, .val (.long z3), .second, .val (.int z6), .val (.long z9), .second, .val (.ref b10), .val (.ref b27), .unset, .unset, .unset]) rfl k) ?_
        show own_G p.tables e below _ (T37.setTop (mkF m 76 #[.val (.long i0), .second, .val (.int i1), .val (.long i2), .second, .val (.int i3), .val (.long i4), .second, .val (.long i5), .second, .val (.long z3), .second, .val (.int z6), .val (.long z9), .second, .val (.ref b10), .val (.ref b27), .unset, .unset, .unset] []))
        refine own_st (fun _ k => XS.lloadN X37.here hx rfl (hb hby at_76) rfl k) ?_
        show own_G p.tables e below _ (T37.setTop (mkF m 77 #[.val (.long i0), .second, .val (.int i1), .val (.long i2), .second, .val (.int i3), .val (.long i4), .second, .val (.long i5), .second, .val (.long z3), .second, .val (.int z6), .val (.long z9), .second, .val (.ref b10), .val (.ref b27), .unset, .unset, .unset] [(.long i0)]))
        obtain ⟨_, _, ⟨T52, L52, k52, n52⟩, -, X52, ⟨Lc52, hQ52, l52, y52, z52⟩, st52⟩ := Jvm.LawKit.callS X37 hx (y := (⟨"java/lang/Long", "valueOf", "(J)Ljava/lang/Long;"⟩ : MethodName)) hown (mvT hZ (hw _ (List.mem_of_getElem? (i := 15) rfl))) (mvT hZ (hw _ (List.mem_of_getElem? (i := 16) rfl))) (mvT hZ (hw _ (List.mem_of_getElem? (i := 17) rfl))) (mvT hZ (hw _ (List.mem_of_getElem? (i := 18) rfl))) (by decide) (backOf (W := 0) (rm3 l Z a0 hw [] i0 bc clc T37.heap n0 Z47 O48 S_cache Arc hel) hZ (hw _ (List.mem_of_getElem? (i := 18) rfl)) (hw _ (List.mem_of_getElem? (i := 17) rfl)) (by decide) (by decide)) (g := (mkF m 77 #[.val (.long i0), .second, .val (.int i1), .val (.long i2), .second, .val (.int i3), .val (.long i4), .second, .val (.long i5), .second, .val (.long z3), .second, .val (.int z6), .val (.long z9), .second, .val (.ref b10), .val (.ref b27), .unset, .unset, .unset] [(.long i0)])) rfl (by rw [hml]; rfl) (argsL := [(.long i0)]) (rest := []) (lenOf pd_3 rfl) rfl (by show 2 * 0 + _ ≤ _; exact Nat.le_of_eq rfl) (hb hby at_77) (fun _ _ => ⟨rfl, rfl, (by decide : 2 + 1 ≤ _), (by decide : 6 + 1 ≤ _)⟩)
        dsimp only [Pt.U, Pt.locs, Pt.cells, Pt.slots] at X52 l52 y52 z52 st52 hQ52
        subst l52 y52 z52
        obtain ⟨⟨nr52, rfl, Exnr52⟩, N52q, K52q⟩ := hQ52
        have N52 := Fr.app N37 N52q
        have E53 := E42.keep K52q
        have F54 := F43.keep K52q nin0
        have F55 := F44.keep K52q nin0
        have F56 := F45.keep K52q nin0
        have E57 := E38.keep K52q
        have F58 := F39.keep K52q nin0
        have F59 := F40.keep K52q nin0
        have F60 := F41.keep K52q nin0
        have Z61 := Nat.le_trans Z47 K52q.1
        have O62 := O48.keep K52q all0
        refine own_st st52 ?_
        show own_G p.tables e below _ (T52.setTop (mkF m 80 #[.val (.long i0), .second, .val (.int i1), .val (.long i2), .second, .val (.int i3), .val (.long i4), .second, .val (.long i5), .second, .val (.long z3), .second, .val (.int z6), .val (.long z9), .second, .val (.ref b10), .val (.ref b27), .unset, .unset, .unset] [(.ref nr52)]))
        refine own_st (fun _ k => XS.astore X52.here hx rfl (hb hby at_80) rfl rfl (l' := #[.val (.long i0), .second, .val (.int i1), .val (.long i2), .second, .val (.int i3), .val (.long i4), .second, .val (.long i5), .second, .val (.long z3), .second, .val (.int z6), .val (.long z9), .second, .val (.ref b10), .val (.ref b27), .val (.ref nr52), .unset, .unset]) rfl k) ?_
        show own_G p.tables e below _ (T52.setTop (mkF m 82 #[.val (.long i0), .second, .val (.int i1), .val (.long i2), .second, .val (.int i3), .val (.long i4), .second, .val (.long i5), .second, .val (.long z3), .second, .val (.int z6), .val (.long z9), .second, .val (.ref b10), .val (.ref b27), .val (.ref nr52), .unset, .unset] []))
        refine own_st (fun _ k => XS.iload X52.here hx rfl (hb hby at_82) rfl k) ?_
        show own_G p.tables e below _ (T52.setTop (mkF m 84 #[.val (.long i0), .second, .val (.int i1), .val (.long i2), .second, .val (.int i3), .val (.long i4), .second, .val (.long i5), .second, .val (.long z3), .second, .val (.int z6), .val (.long z9), .second, .val (.ref b10), .val (.ref b27), .val (.ref nr52), .unset, .unset] [(.int i3)]))
        refine own_st (fun _ k => XS.iconst X52.here hx rfl (hb hby at_84) k) ?_
        show own_G p.tables e below _ (T52.setTop (mkF m 85 #[.val (.long i0), .second, .val (.int i1), .val (.long i2), .second, .val (.int i3), .val (.long i4), .second, .val (.long i5), .second, .val (.long z3), .second, .val (.int z6), .val (.long z9), .second, .val (.ref b10), .val (.ref b27), .val (.ref nr52), .unset, .unset] [(.int (3 : Int32)), (.int i3)]))
        refine own_st (fun _ k => XS.iushr X52.here hx rfl (hb hby at_85) rfl k) ?_
        show own_G p.tables e below _ (T52.setTop (mkF m 86 #[.val (.long i0), .second, .val (.int i1), .val (.long i2), .second, .val (.int i3), .val (.long i4), .second, .val (.long i5), .second, .val (.long z3), .second, .val (.int z6), .val (.long z9), .second, .val (.ref b10), .val (.ref b27), .val (.ref nr52), .unset, .unset] [(.int ((i3.toUInt32 >>> ((3 : Int32) &&& 31).toUInt32).toInt32))]))
        refine own_st (fun _ k => XS.iconst X52.here hx rfl (hb hby at_86) k) ?_
        show own_G p.tables e below _ (T52.setTop (mkF m 87 #[.val (.long i0), .second, .val (.int i1), .val (.long i2), .second, .val (.int i3), .val (.long i4), .second, .val (.long i5), .second, .val (.long z3), .second, .val (.int z6), .val (.long z9), .second, .val (.ref b10), .val (.ref b27), .val (.ref nr52), .unset, .unset] [(.int (3 : Int32)), (.int ((i3.toUInt32 >>> ((3 : Int32) &&& 31).toUInt32).toInt32))]))
        refine own_st (fun _ k => XS.iand X52.here hx rfl (hb hby at_87) rfl k) ?_
        show own_G p.tables e below _ (T52.setTop (mkF m 88 #[.val (.long i0), .second, .val (.int i1), .val (.long i2), .second, .val (.int i3), .val (.long i4), .second, .val (.long i5), .second, .val (.long z3), .second, .val (.int z6), .val (.long z9), .second, .val (.ref b10), .val (.ref b27), .val (.ref nr52), .unset, .unset] [(.int (((i3.toUInt32 >>> ((3 : Int32) &&& 31).toUInt32).toInt32) &&& (3 : Int32)))]))
        refine own_st (fun _ k => XS.istore X52.here hx rfl (hb hby at_88) rfl (l' := #[.val (.long i0), .second, .val (.int i1), .val (.long i2), .second, .val (.int i3), .val (.long i4), .second, .val (.long i5), .second, .val (.long z3), .second, .val (.int z6), .val (.long z9), .second, .val (.ref b10), .val (.ref b27), .val (.ref nr52), .val (.int (((i3.toUInt32 >>> ((3 : Int32) &&& 31).toUInt32).toInt32) &&& (3 : Int32))), .unset]) rfl k) ?_
        show own_G p.tables e below _ (T52.setTop (mkF m 90 #[.val (.long i0), .second, .val (.int i1), .val (.long i2), .second, .val (.int i3), .val (.long i4), .second, .val (.long i5), .second, .val (.long z3), .second, .val (.int z6), .val (.long z9), .second, .val (.ref b10), .val (.ref b27), .val (.ref nr52), .val (.int (((i3.toUInt32 >>> ((3 : Int32) &&& 31).toUInt32).toInt32) &&& (3 : Int32))), .unset] []))
        refine own_st (fun _ k => XS.iload X52.here hx rfl (hb hby at_90) rfl k) ?_
        show own_G p.tables e below _ (T52.setTop (mkF m 92 #[.val (.long i0), .second, .val (.int i1), .val (.long i2), .second, .val (.int i3), .val (.long i4), .second, .val (.long i5), .second, .val (.long z3), .second, .val (.int z6), .val (.long z9), .second, .val (.ref b10), .val (.ref b27), .val (.ref nr52), .val (.int (((i3.toUInt32 >>> ((3 : Int32) &&& 31).toUInt32).toInt32) &&& (3 : Int32))), .unset] [(.int (((i3.toUInt32 >>> ((3 : Int32) &&& 31).toUInt32).toInt32) &&& (3 : Int32)))]))
        refine own_st (fun _ k => XS.iconst X52.here hx rfl (hb hby at_92) k) ?_
        show own_G p.tables e below _ (T52.setTop (mkF m 93 #[.val (.long i0), .second, .val (.int i1), .val (.long i2), .second, .val (.int i3), .val (.long i4), .second, .val (.long i5), .second, .val (.long z3), .second, .val (.int z6), .val (.long z9), .second, .val (.ref b10), .val (.ref b27), .val (.ref nr52), .val (.int (((i3.toUInt32 >>> ((3 : Int32) &&& 31).toUInt32).toInt32) &&& (3 : Int32))), .unset] [(.int (1 : Int32)), (.int (((i3.toUInt32 >>> ((3 : Int32) &&& 31).toUInt32).toInt32) &&& (3 : Int32)))]))
        by_cases hc93_63 : (((i3.toUInt32 >>> ((3 : Int32) &&& 31).toUInt32).toInt32) &&& (3 : Int32)) = (1 : Int32)
        · refine own_st (fun _ k => XS.icmpNo X52.here hx rfl (hb hby at_93) rfl (teq hc93_63).2 k) ?_
          show own_G p.tables e below _ (T52.setTop (mkF m 96 #[.val (.long i0), .second, .val (.int i1), .val (.long i2), .second, .val (.int i3), .val (.long i4), .second, .val (.long i5), .second, .val (.long z3), .second, .val (.int z6), .val (.long z9), .second, .val (.ref b10), .val (.ref b27), .val (.ref nr52), .val (.int (((i3.toUInt32 >>> ((3 : Int32) &&& 31).toUInt32).toInt32) &&& (3 : Int32))), .unset] []))
          refine own_st (fun _ k => XS.aload X52.here hx rfl (hb hby at_96) rfl rfl k) ?_
          show own_G p.tables e below _ (T52.setTop (mkF m 98 #[.val (.long i0), .second, .val (.int i1), .val (.long i2), .second, .val (.int i3), .val (.long i4), .second, .val (.long i5), .second, .val (.long z3), .second, .val (.int z6), .val (.long z9), .second, .val (.ref b10), .val (.ref b27), .val (.ref nr52), .val (.int (((i3.toUInt32 >>> ((3 : Int32) &&& 31).toUInt32).toInt32) &&& (3 : Int32))), .unset] [(.ref b10)]))
          refine own_st (fun _ k => XS.aconstNull X52.here hx rfl (hb hby at_98) k) ?_
          show own_G p.tables e below _ (T52.setTop (mkF m 99 #[.val (.long i0), .second, .val (.int i1), .val (.long i2), .second, .val (.int i3), .val (.long i4), .second, .val (.long i5), .second, .val (.long z3), .second, .val (.int z6), .val (.long z9), .second, .val (.ref b10), .val (.ref b27), .val (.ref nr52), .val (.int (((i3.toUInt32 >>> ((3 : Int32) &&& 31).toUInt32).toInt32) &&& (3 : Int32))), .unset] [.null, (.ref b10)]))
          obtain ⟨cq64, kq64, q64a, q64b, q64c⟩ := isOf hZ rfl E53
          obtain ⟨_, _, ⟨T64, L64, k64, n64⟩, -, X64, ⟨Lc64, hQ64, l64, y64, z64⟩, st64⟩ := X52.virtualBack hx (y := (⟨"com/example/spool/spool/storage/IndexEntry", "equals", "(Ljava/lang/Object;)Z"⟩ : MethodName)) (z := (⟨"com/example/spool/spool/storage/IndexEntry", "equals", "(Ljava/lang/Object;)Z"⟩ : MethodName)) hown (mvT hZ (hw _ (List.mem_of_getElem? (i := 23) rfl))) (mvT hZ (hw _ (List.mem_of_getElem? (i := 24) rfl))) (notFace_of_selects (args := #[]) (mvT hZ (hw _ (List.mem_of_getElem? (i := 26) rfl)))) (mvT hZ (hw _ (List.mem_of_getElem? (i := 26) rfl))) (mvT hZ (hw _ (List.mem_of_getElem? (i := 25) rfl))) (by decide) (backOf (W := 0) (rm4n l Z a0 hw [] b10 i0 i1 i2 T52.heap n0 Z61 F54 F55 F56 E53) hZ (hw _ (List.mem_of_getElem? (i := 27) rfl)) (hw _ (List.mem_of_getElem? (i := 2) rfl)) (by decide) (by decide)) q64a q64c (g := (mkF m 99 #[.val (.long i0), .second, .val (.int i1), .val (.long i2), .second, .val (.int i3), .val (.long i4), .second, .val (.long i5), .second, .val (.long z3), .second, .val (.int z6), .val (.long z9), .second, .val (.ref b10), .val (.ref b27), .val (.ref nr52), .val (.int (((i3.toUInt32 >>> ((3 : Int32) &&& 31).toUInt32).toInt32) &&& (3 : Int32))), .unset] [.null, (.ref b10)])) rfl (by rw [hml]; rfl) (Steps.refl _) (argsL := [.null]) (rest := []) (lenOf pd_4 rfl) rfl (by show 2 * 0 + _ ≤ _; exact Nat.le_of_eq rfl) (hb hby at_99) (fun _ _ => ⟨rfl, rfl, (by decide : 3 + 0 ≤ _), (by decide : 7 + 0 ≤ _)⟩)
          dsimp only [Pt.U, Pt.locs, Pt.cells, Pt.slots] at X64 l64 y64 z64 st64 hQ64
          subst l64 y64 z64
          obtain ⟨⟨_, rfl, rfl⟩, N64q, e64⟩ := hQ64
          have N64 := Fr.app N52 N64q
          refine own_st (fun _ k => st64.trans k) ?_
          show own_G p.tables e below _ (T64.setTop (mkF m 102 #[.val (.long i0), .second, .val (.int i1), .val (.long i2), .second, .val (.int i3), .val (.long i4), .second, .val (.long i5), .second, .val (.long z3), .second, .val (.int z6), .val (.long z9), .second, .val (.ref b10), .val (.ref b27), .val (.ref nr52), .val (.int (((i3.toUInt32 >>> ((3 : Int32) &&& 31).toUInt32).toInt32) &&& (3 : Int32))), .unset] [(.int (0 : Int32))]))
          refine own_st (fun _ k => XS.ifNo X64.here hx rfl (hb hby at_102) rfl (by decide) k) ?_
          show own_G p.tables e below _ (T64.setTop (mkF m 105 #[.val (.long i0), .second, .val (.int i1), .val (.long i2), .second, .val (.int i3), .val (.long i4), .second, .val (.long i5), .second, .val (.long z3), .second, .val (.int z6), .val (.long z9), .second, .val (.ref b10), .val (.ref b27), .val (.ref nr52), .val (.int (((i3.toUInt32 >>> ((3 : Int32) &&& 31).toUInt32).toInt32) &&& (3 : Int32))), .unset] []))
          refine own_st (fun _ k => XS.iconst X64.here hx rfl (hb hby at_105) k) ?_
          show own_G p.tables e below _ (T64.setTop (mkF m 106 #[.val (.long i0), .second, .val (.int i1), .val (.long i2), .second, .val (.int i3), .val (.long i4), .second, .val (.long i5), .second, .val (.long z3), .second, .val (.int z6), .val (.long z9), .second, .val (.ref b10), .val (.ref b27), .val (.ref nr52), .val (.int (((i3.toUInt32 >>> ((3 : Int32) &&& 31).toUInt32).toInt32) &&& (3 : Int32))), .unset] [(.int (1 : Int32))]))
          refine own_st (fun _ k => XS.goto X64.here hx rfl (pc0 := 106) (pc' := 110) rfl (hb hby at_106) (by decide) (by decide) k) ?_
          show own_G p.tables e below _ (T64.setTop (mkF m 110 #[.val (.long i0), .second, .val (.int i1), .val (.long i2), .second, .val (.int i3), .val (.long i4), .second, .val (.long i5), .second, .val (.long z3), .second, .val (.int z6), .val (.long z9), .second, .val (.ref b10), .val (.ref b27), .val (.ref nr52), .val (.int (((i3.toUInt32 >>> ((3 : Int32) &&& 31).toUInt32).toInt32) &&& (3 : Int32))), .unset] [(.int (1 : Int32))]))
          exact own_retZ X64 hx hlk Bd.returns (hb hby at_110) (by decide) ⟨rfl, N64⟩ (by decide) (by decide)
        · refine own_st (fun _ k => XS.icmpYes X52.here hx rfl (pc0 := 93) (pc' := 111) rfl (hb hby at_93) rfl (feq hc93_63).2 (by decide) (by decide) k) ?_
          show own_G p.tables e below _ (T52.setTop (mkF m 111 #[.val (.long i0), .second, .val (.int i1), .val (.long i2), .second, .val (.int i3), .val (.long i4), .second, .val (.long i5), .second, .val (.long z3), .second, .val (.int z6), .val (.long z9), .second, .val (.ref b10), .val (.ref b27), .val (.ref nr52), .val (.int (((i3.toUInt32 >>> ((3 : Int32) &&& 31).toUInt32).toInt32) &&& (3 : Int32))), .unset] []))
          refine own_st (fun _ k => XS.iload X52.here hx rfl (hb hby at_111) rfl k) ?_
          show own_G p.tables e below _ (T52.setTop (mkF m 113 #[.val (.long i0), .second, .val (.int i1), .val (.long i2), .second, .val (.int i3), .val (.long i4), .second, .val (.long i5), .second, .val (.long z3), .second, .val (.int z6), .val (.long z9), .second, .val (.ref b10), .val (.ref b27), .val (.ref nr52), .val (.int (((i3.toUInt32 >>> ((3 : Int32) &&& 31).toUInt32).toInt32) &&& (3 : Int32))), .unset] [(.int (((i3.toUInt32 >>> ((3 : Int32) &&& 31).toUInt32).toInt32) &&& (3 : Int32)))]))
          refine own_st (fun _ k => XS.iconst X52.here hx rfl (hb hby at_113) k) ?_
          show own_G p.tables e below _ (T52.setTop (mkF m 114 #[.val (.long i0), .second, .val (.int i1), .val (.long i2), .second, .val (.int i3), .val (.long i4), .second, .val (.long i5), .second, .val (.long z3), .second, .val (.int z6), .val (.long z9), .second, .val (.ref b10), .val (.ref b27), .val (.ref nr52), .val (.int (((i3.toUInt32 >>> ((3 : Int32) &&& 31).toUInt32).toInt32) &&& (3 : Int32))), .unset] [(.int (2 : Int32)), (.int (((i3.toUInt32 >>> ((3 : Int32) &&& 31).toUInt32).toInt32) &&& (3 : Int32)))]))
          by_cases hc114_65 : (((i3.toUInt32 >>> ((3 : Int32) &&& 31).toUInt32).toInt32) &&& (3 : Int32)) = (2 : Int32)
          · refine own_st (fun _ k => XS.icmpNo X52.here hx rfl (hb hby at_114) rfl (teq hc114_65).2 k) ?_
            show own_G p.tables e below _ (T52.setTop (mkF m 117 #[.val (.long i0), .second, .val (.int i1), .val (.long i2), .second, .val (.int i3), .val (.long i4), .second, .val (.long i5), .second, .val (.long z3), .second, .val (.int z6), .val (.long z9), .second, .val (.ref b10), .val (.ref b27), .val (.ref nr52), .val (.int (((i3.toUInt32 >>> ((3 : Int32) &&& 31).toUInt32).toInt32) &&& (3 : Int32))), .unset] []))
            refine own_st (fun _ k => XS.aload X52.here hx rfl (hb hby at_117) rfl rfl k) ?_
            show own_G p.tables e below _ (T52.setTop (mkF m 119 #[.val (.long i0), .second, .val (.int i1), .val (.long i2), .second, .val (.int i3), .val (.long i4), .second, .val (.long i5), .second, .val (.long z3), .second, .val (.int z6), .val (.long z9), .second, .val (.ref b10), .val (.ref b27), .val (.ref nr52), .val (.int (((i3.toUInt32 >>> ((3 : Int32) &&& 31).toUInt32).toInt32) &&& (3 : Int32))), .unset] [(.ref b10)]))
            refine own_st (fun _ k => XS.aload X52.here hx rfl (hb hby at_119) rfl rfl k) ?_
            show own_G p.tables e below _ (T52.setTop (mkF m 121 #[.val (.long i0), .second, .val (.int i1), .val (.long i2), .second, .val (.int i3), .val (.long i4), .second, .val (.long i5), .second, .val (.long z3), .second, .val (.int z6), .val (.long z9), .second, .val (.ref b10), .val (.ref b27), .val (.ref nr52), .val (.int (((i3.toUInt32 >>> ((3 : Int32) &&& 31).toUInt32).toInt32) &&& (3 : Int32))), .unset] [(.ref nr52), (.ref b10)]))
            obtain ⟨cq66, kq66, q66a, q66b, q66c⟩ := isOf hZ rfl E53
            obtain ⟨_, _, ⟨T66, L66, k66, n66⟩, -, X66, ⟨Lc66, hQ66, l66, y66, z66⟩, st66⟩ := X52.virtualBack hx (y := (⟨"com/example/spool/spool/storage/IndexEntry", "equals", "(Ljava/lang/Object;)Z"⟩ : MethodName)) (z := (⟨"com/example/spool/spool/storage/IndexEntry", "equals", "(Ljava/lang/Object;)Z"⟩ : MethodName)) hown (mvT hZ (hw _ (List.mem_of_getElem? (i := 23) rfl))) (mvT hZ (hw _ (List.mem_of_getElem? (i := 24) rfl))) (notFace_of_selects (args := #[]) (mvT hZ (hw _ (List.mem_of_getElem? (i := 26) rfl)))) (mvT hZ (hw _ (List.mem_of_getElem? (i := 26) rfl))) (mvT hZ (hw _ (List.mem_of_getElem? (i := 25) rfl))) (by decide) (backOf (W := 0) (rm4l l Z a0 hw [] b10 nr52 i0 i1 i2 T52.heap n0 Z61 F54 F55 F56 E53 Exnr52) hZ (hw _ (List.mem_of_getElem? (i := 27) rfl)) (hw _ (List.mem_of_getElem? (i := 2) rfl)) (by decide) (by decide)) q66a q66c (g := (mkF m 121 #[.val (.long i0), .second, .val (.int i1), .val (.long i2), .second, .val (.int i3), .val (.long i4), .second, .val (.long i5), .second, .val (.long z3), .second, .val (.int z6), .val (.long z9), .second, .val (.ref b10), .val (.ref b27), .val (.ref nr52), .val (.int (((i3.toUInt32 >>> ((3 : Int32) &&& 31).toUInt32).toInt32) &&& (3 : Int32))), .unset] [(.ref nr52), (.ref b10)])) rfl (by rw [hml]; rfl) (Steps.refl _) (argsL := [(.ref nr52)]) (rest := []) (lenOf pd_4 rfl) rfl (by show 2 * 0 + _ ≤ _; exact Nat.le_of_eq rfl) (hb hby at_121) (fun _ _ => ⟨rfl, rfl, (by decide : 3 + 0 ≤ _), (by decide : 7 + 0 ≤ _)⟩)
            dsimp only [Pt.U, Pt.locs, Pt.cells, Pt.slots] at X66 l66 y66 z66 st66 hQ66
            subst l66 y66 z66
            obtain ⟨⟨_, rfl, rfl⟩, N66q, e66⟩ := hQ66
            have N66 := Fr.app N52 N66q
            refine own_st (fun _ k => st66.trans k) ?_
            show own_G p.tables e below _ (T66.setTop (mkF m 124 #[.val (.long i0), .second, .val (.int i1), .val (.long i2), .second, .val (.int i3), .val (.long i4), .second, .val (.long i5), .second, .val (.long z3), .second, .val (.int z6), .val (.long z9), .second, .val (.ref b10), .val (.ref b27), .val (.ref nr52), .val (.int (((i3.toUInt32 >>> ((3 : Int32) &&& 31).toUInt32).toInt32) &&& (3 : Int32))), .unset] [(.int (0 : Int32))]))
            refine own_st (fun _ k => XS.ifNo X66.here hx rfl (hb hby at_124) rfl (by decide) k) ?_
            show own_G p.tables e below _ (T66.setTop (mkF m 127 #[.val (.long i0), .second, .val (.int i1), .val (.long i2), .second, .val (.int i3), .val (.long i4), .second, .val (.long i5), .second, .val (.long z3), .second, .val (.int z6), .val (.long z9), .second, .val (.ref b10), .val (.ref b27), .val (.ref nr52), .val (.int (((i3.toUInt32 >>> ((3 : Int32) &&& 31).toUInt32).toInt32) &&& (3 : Int32))), .unset] []))
            refine own_st (fun _ k => XS.iconst X66.here hx rfl (hb hby at_127) k) ?_
            show own_G p.tables e below _ (T66.setTop (mkF m 128 #[.val (.long i0), .second, .val (.int i1), .val (.long i2), .second, .val (.int i3), .val (.long i4), .second, .val (.long i5), .second, .val (.long z3), .second, .val (.int z6), .val (.long z9), .second, .val (.ref b10), .val (.ref b27), .val (.ref nr52), .val (.int (((i3.toUInt32 >>> ((3 : Int32) &&& 31).toUInt32).toInt32) &&& (3 : Int32))), .unset] [(.int (1 : Int32))]))
            refine own_st (fun _ k => XS.goto X66.here hx rfl (pc0 := 128) (pc' := 132) rfl (hb hby at_128) (by decide) (by decide) k) ?_
            show own_G p.tables e below _ (T66.setTop (mkF m 132 #[.val (.long i0), .second, .val (.int i1), .val (.long i2), .second, .val (.int i3), .val (.long i4), .second, .val (.long i5), .second, .val (.long z3), .second, .val (.int z6), .val (.long z9), .second, .val (.ref b10), .val (.ref b27), .val (.ref nr52), .val (.int (((i3.toUInt32 >>> ((3 : Int32) &&& 31).toUInt32).toInt32) &&& (3 : Int32))), .unset] [(.int (1 : Int32))]))
            exact own_retZ X66 hx hlk Bd.returns (hb hby at_132) (by decide) ⟨rfl, N66⟩ (by decide) (by decide)
          · refine own_st (fun _ k => XS.icmpYes X52.here hx rfl (pc0 := 114) (pc' := 133) rfl (hb hby at_114) rfl (feq hc114_65).2 (by decide) (by decide) k) ?_
            show own_G p.tables e below _ (T52.setTop (mkF m 133 #[.val (.long i0), .second, .val (.int i1), .val (.long i2), .second, .val (.int i3), .val (.long i4), .second, .val (.long i5), .second, .val (.long z3), .second, .val (.int z6), .val (.long z9), .second, .val (.ref b10), .val (.ref b27), .val (.ref nr52), .val (.int (((i3.toUInt32 >>> ((3 : Int32) &&& 31).toUInt32).toInt32) &&& (3 : Int32))), .unset] []))
            refine own_st (fun _ k => XS.iload X52.here hx rfl (hb hby at_133) rfl k) ?_
            show own_G p.tables e below _ (T52.setTop (mkF m 135 #[.val (.long i0), .second, .val (.int i1), .val (.long i2), .second, .val (.int i3), .val (.long i4), .second, .val (.long i5), .second, .val (.long z3), .second, .val (.int z6), .val (.long z9), .second, .val (.ref b10), .val (.ref b27), .val (.ref nr52), .val (.int (((i3.toUInt32 >>> ((3 : Int32) &&& 31).toUInt32).toInt32) &&& (3 : Int32))), .unset] [(.int (((i3.toUInt32 >>> ((3 : Int32) &&& 31).toUInt32).toInt32) &&& (3 : Int32)))]))
            refine own_st (fun _ k => XS.iconst X52.here hx rfl (hb hby at_135) k) ?_
            show own_G p.tables e below _ (T52.setTop (mkF m 136 #[.val (.long i0), .second, .val (.int i1), .val (.long i2), .second, .val (.int i3), .val (.long i4), .second, .val (.long i5), .second, .val (.long z3), .second, .val (.int z6), .val (.long z9), .second, .val (.ref b10), .val (.ref b27), .val (.ref nr52), .val (.int (((i3.toUInt32 >>> ((3 : Int32) &&& 31).toUInt32).toInt32) &&& (3 : Int32))), .unset] [(.int (3 : Int32)), (.int (((i3.toUInt32 >>> ((3 : Int32) &&& 31).toUInt32).toInt32) &&& (3 : Int32)))]))
            by_cases hc136_67 : (((i3.toUInt32 >>> ((3 : Int32) &&& 31).toUInt32).toInt32) &&& (3 : Int32)) = (3 : Int32)
            · refine own_st (fun _ k => XS.icmpNo X52.here hx rfl (hb hby at_136) rfl (teq hc136_67).2 k) ?_
              show own_G p.tables e below _ (T52.setTop (mkF m 139 #[.val (.long i0), .second, .val (.int i1), .val (.long i2), .second, .val (.int i3), .val (.long i4), .second, .val (.long i5), .second, .val (.long z3), .second, .val (.int z6), .val (.long z9), .second, .val (.ref b10), .val (.ref b27), .val (.ref nr52), .val (.int (((i3.toUInt32 >>> ((3 : Int32) &&& 31).toUInt32).toInt32) &&& (3 : Int32))), .unset] []))
              refine own_st (fun _ k => XS.aload X52.here hx rfl (hb hby at_139) rfl rfl k) ?_
              show own_G p.tables e below _ (T52.setTop (mkF m 141 #[.val (.long i0), .second, .val (.int i1), .val (.long i2), .second, .val (.int i3), .val (.long i4), .second, .val (.long i5), .second, .val (.long z3), .second, .val (.int z6), .val (.long z9), .second, .val (.ref b10), .val (.ref b27), .val (.ref nr52), .val (.int (((i3.toUInt32 >>> ((3 : Int32) &&& 31).toUInt32).toInt32) &&& (3 : Int32))), .unset] [(.ref b10)]))
              refine own_st (fun _ k => XS.aload X52.here hx rfl (hb hby at_141) rfl rfl k) ?_
              show own_G p.tables e below _ (T52.setTop (mkF m 143 #[.val (.long i0), .second, .val (.int i1), .val (.long i2), .second, .val (.int i3), .val (.long i4), .second, .val (.long i5), .second, .val (.long z3), .second, .val (.int z6), .val (.long z9), .second, .val (.ref b10), .val (.ref b27), .val (.ref nr52), .val (.int (((i3.toUInt32 >>> ((3 : Int32) &&& 31).toUInt32).toInt32) &&& (3 : Int32))), .unset] [(.ref b10), (.ref b10)]))
              obtain ⟨cq68, kq68, q68a, q68b, q68c⟩ := isOf hZ rfl E53
              obtain ⟨_, _, ⟨T68, L68, k68, n68⟩, -, X68, ⟨Lc68, hQ68, l68, y68, z68⟩, st68⟩ := X52.virtualBack hx (y := (⟨"com/example/spool/spool/storage/IndexEntry", "equals", "(Ljava/lang/Object;)Z"⟩ : MethodName)) (z := (⟨"com/example/spool/spool/storage/IndexEntry", "equals", "(Ljava/lang/Object;)Z"⟩ : MethodName)) hown (mvT hZ (hw _ (List.mem_of_getElem? (i := 23) rfl))) (mvT hZ (hw _ (List.mem_of_getElem? (i := 24) rfl))) (notFace_of_selects (args := #[]) (mvT hZ (hw _ (List.mem_of_getElem? (i := 26) rfl)))) (mvT hZ (hw _ (List.mem_of_getElem? (i := 26) rfl))) (mvT hZ (hw _ (List.mem_of_getElem? (i := 25) rfl))) (by decide) (backOf (W := 0) (rm4q l Z a0 hw [] b10 b10 i0 i1 i2 i0 i1 i2 T52.heap n0 Z61 F54 F55 F56 E53 F54 F55 F56 E53) hZ (hw _ (List.mem_of_getElem? (i := 27) rfl)) (hw _ (List.mem_of_getElem? (i := 2) rfl)) (by decide) (by decide)) q68a q68c (g := (mkF m 143 #[.val (.long i0), .second, .val (.int i1), .val (.long i2), .second, .val (.int i3), .val (.long i4), .second, .val (.long i5), .second, .val (.long z3), .second, .val (.int z6), .val (.long z9), .second, .val (.ref b10), .val (.ref b27), .val (.ref nr52), .val (.int (((i3.toUInt32 >>> ((3 : Int32) &&& 31).toUInt32).toInt32) &&& (3 : Int32))), .unset] [(.ref b10), (.ref b10)])) rfl (by rw [hml]; rfl) (Steps.refl _) (argsL := [(.ref b10)]) (rest := []) (lenOf pd_4 rfl) rfl (by show 2 * 0 + _ ≤ _; exact Nat.le_of_eq rfl) (hb hby at_143) (fun _ _ => ⟨rfl, rfl, (by decide : 3 + 0 ≤ _), (by decide : 7 + 0 ≤ _)⟩)
              dsimp only [Pt.U, Pt.locs, Pt.cells, Pt.slots] at X68 l68 y68 z68 st68 hQ68
              subst l68 y68 z68
              obtain ⟨⟨r68, rfl, hr68⟩, N68q, e68⟩ := hQ68
              have N68 := Fr.app N52 N68q
              refine own_st (fun _ k => st68.trans k) ?_
              show own_G p.tables e below _ (T68.setTop (mkF m 146 #[.val (.long i0), .second, .val (.int i1), .val (.long i2), .second, .val (.int i3), .val (.long i4), .second, .val (.long i5), .second, .val (.long z3), .second, .val (.int z6), .val (.long z9), .second, .val (.ref b10), .val (.ref b27), .val (.ref nr52), .val (.int (((i3.toUInt32 >>> ((3 : Int32) &&& 31).toUInt32).toInt32) &&& (3 : Int32))), .unset] [(.int r68)]))
              have hfin : r68 = 1 := by rw [hr68]; exact own_bt ⟨rfl, rfl, rfl⟩
              exact own_retZ X68 hx hlk Bd.returns (hb hby at_146) (by rw [hfin]; decide) ⟨by rw [hfin], N68⟩ (by decide) (by decide)
            · refine own_st (fun _ k => XS.icmpYes X52.here hx rfl (pc0 := 136) (pc' := 147) rfl (hb hby at_136) rfl (feq hc136_67).2 (by decide) (by decide) k) ?_
              show own_G p.tables e below _ (T52.setTop (mkF m 147 #[.val (.long i0), .second, .val (.int i1), .val (.long i2), .second, .val (.int i3), .val (.long i4), .second, .val (.long i5), .second, .val (.long z3), .second, .val (.int z6), .val (.long z9), .second, .val (.ref b10), .val (.ref b27), .val (.ref nr52), .val (.int (((i3.toUInt32 >>> ((3 : Int32) &&& 31).toUInt32).toInt32) &&& (3 : Int32))), .unset] []))
              refine own_st (fun _ k => XS.lloadN X52.here hx rfl (hb hby at_147) rfl k) ?_
              show own_G p.tables e below _ (T52.setTop (mkF m 148 #[.val (.long i0), .second, .val (.int i1), .val (.long i2), .second, .val (.int i3), .val (.long i4), .second, .val (.long i5), .second, .val (.long z3), .second, .val (.int z6), .val (.long z9), .second, .val (.ref b10), .val (.ref b27), .val (.ref nr52), .val (.int (((i3.toUInt32 >>> ((3 : Int32) &&& 31).toUInt32).toInt32) &&& (3 : Int32))), .unset] [(.long i0)]))
              refine own_st (fun _ k => XS.lload X52.here hx rfl (hb hby at_148) rfl k) ?_
              show own_G p.tables e below _ (T52.setTop (mkF m 150 #[.val (.long i0), .second, .val (.int i1), .val (.long i2), .second, .val (.int i3), .val (.long i4), .second, .val (.long i5), .second, .val (.long z3), .second, .val (.int z6), .val (.long z9), .second, .val (.ref b10), .val (.ref b27), .val (.ref nr52), .val (.int (((i3.toUInt32 >>> ((3 : Int32) &&& 31).toUInt32).toInt32) &&& (3 : Int32))), .unset] [(.long z3), (.long i0)]))
              refine own_st (fun _ k => XS.lcmp X52.here hx rfl (hb hby at_150) rfl k) ?_
              show own_G p.tables e below _ (T52.setTop (mkF m 151 #[.val (.long i0), .second, .val (.int i1), .val (.long i2), .second, .val (.int i3), .val (.long i4), .second, .val (.long i5), .second, .val (.long z3), .second, .val (.int z6), .val (.long z9), .second, .val (.ref b10), .val (.ref b27), .val (.ref nr52), .val (.int (((i3.toUInt32 >>> ((3 : Int32) &&& 31).toUInt32).toInt32) &&& (3 : Int32))), .unset] [(.int (lcmpW i0 z3))]))
              have J172_70 : ∀ (z71 : Int32) (hz71 : z71 = (own_b ((i0 = z3) ∧ ((i1 = z6) ∧ (i2 = z9))))), own_G p.tables e below (own_P s (Q0 n0) 16 128) (T52.setTop (mkF m 172 #[.val (.long i0), .second, .val (.int i1), .val (.long i2), .second, .val (.int i3), .val (.long i4), .second, .val (.long i5), .second, .val (.long z3), .second, .val (.int z6), .val (.long z9), .second, .val (.ref b10), .val (.ref b27), .val (.ref nr52), .val (.int (((i3.toUInt32 >>> ((3 : Int32) &&& 31).toUInt32).toInt32) &&& (3 : Int32))), .unset] [(.int z71)])) := by
                intro z71 hz71
                refine own_st (fun _ k => XS.istore X52.here hx rfl (hb hby at_172) rfl (l' := #[.val (.long i0), .second, .val (.int i1), .val (.long i2), .second, .val (.int i3), .val (.long i4), .second, .val (.long i5), .second, .val (.long z3), .second, .val (.int z6), .val (.long z9), .second, .val (.ref b10), .val (.ref b27), .val (.ref nr52), .val (.int (((i3.toUInt32 >>> ((3 : Int32) &&& 31).toUInt32).toInt32) &&& (3 : Int32))), .val (.int z71)]) rfl k) ?_
                show own_G p.tables e below _ (T52.setTop (mkF m 174 #[.val (.long i0), .second, .val (.int i1), .val (.long i2), .second, .val (.int i3), .val (.long i4), .second, .val (.long i5), .second, .val (.long z3), .second, .val (.int z6), .val (.long z9), .second, .val (.ref b10), .val (.ref b27), .val (.ref nr52), .val (.int (((i3.toUInt32 >>> ((3 : Int32) &&& 31).toUInt32).toInt32) &&& (3 : Int32))), .val (.int z71)] []))
                refine own_st (fun _ k => XS.aload X52.here hx rfl (hb hby at_174) rfl rfl k) ?_
                show own_G p.tables e below _ (T52.setTop (mkF m 176 #[.val (.long i0), .second, .val (.int i1), .val (.long i2), .second, .val (.int i3), .val (.long i4), .second, .val (.long i5), .second, .val (.long z3), .second, .val (.int z6), .val (.long z9), .second, .val (.ref b10), .val (.ref b27), .val (.ref nr52), .val (.int (((i3.toUInt32 >>> ((3 : Int32) &&& 31).toUInt32).toInt32) &&& (3 : Int32))), .val (.int z71)] [(.ref b10)]))
                refine own_st (fun _ k => XS.aload X52.here hx rfl (hb hby at_176) rfl rfl k) ?_
                show own_G p.tables e below _ (T52.setTop (mkF m 178 #[.val (.long i0), .second, .val (.int i1), .val (.long i2), .second, .val (.int i3), .val (.long i4), .second, .val (.long i5), .second, .val (.long z3), .second, .val (.int z6), .val (.long z9), .second, .val (.ref b10), .val (.ref b27), .val (.ref nr52), .val (.int (((i3.toUInt32 >>> ((3 : Int32) &&& 31).toUInt32).toInt32) &&& (3 : Int32))), .val (.int z71)] [(.ref b27), (.ref b10)]))
                obtain ⟨cq72, kq72, q72a, q72b, q72c⟩ := isOf hZ rfl E53
                obtain ⟨_, _, ⟨T72, L72, k72, n72⟩, -, X72, ⟨Lc72, hQ72, l72, y72, z72⟩, st72⟩ := X52.virtualBack hx (y := (⟨"com/example/spool/spool/storage/IndexEntry", "equals", "(Ljava/lang/Object;)Z"⟩ : MethodName)) (z := (⟨"com/example/spool/spool/storage/IndexEntry", "equals", "(Ljava/lang/Object;)Z"⟩ : MethodName)) hown (mvT hZ (hw _ (List.mem_of_getElem? (i := 23) rfl))) (mvT hZ (hw _ (List.mem_of_getElem? (i := 24) rfl))) (notFace_of_selects (args := #[]) (mvT hZ (hw _ (List.mem_of_getElem? (i := 26) rfl)))) (mvT hZ (hw _ (List.mem_of_getElem? (i := 26) rfl))) (mvT hZ (hw _ (List.mem_of_getElem? (i := 25) rfl))) (by decide) (backOf (W := 0) (rm4q l Z a0 hw [] b10 b27 i0 i1 i2 z3 z6 z9 T52.heap n0 Z61 F54 F55 F56 E53 F58 F59 F60 E57) hZ (hw _ (List.mem_of_getElem? (i := 27) rfl)) (hw _ (List.mem_of_getElem? (i := 2) rfl)) (by decide) (by decide)) q72a q72c (g := (mkF m 178 #[.val (.long i0), .second, .val (.int i1), .val (.long i2), .second, .val (.int i3), .val (.long i4), .second, .val (.long i5), .second, .val (.long z3), .second, .val (.int z6), .val (.long z9), .second, .val (.ref b10), .val (.ref b27), .val (.ref nr52), .val (.int (((i3.toUInt32 >>> ((3 : Int32) &&& 31).toUInt32).toInt32) &&& (3 : Int32))), .val (.int z71)] [(.ref b27), (.ref b10)])) rfl (by rw [hml]; rfl) (Steps.refl _) (argsL := [(.ref b27)]) (rest := []) (lenOf pd_4 rfl) rfl (by show 2 * 0 + _ ≤ _; exact Nat.le_of_eq rfl) (hb hby at_178) (fun _ _ => ⟨rfl, rfl, (by decide : 3 + 0 ≤ _), (by decide : 7 + 0 ≤ _)⟩)
                dsimp only [Pt.U, Pt.locs, Pt.cells, Pt.slots] at X72 l72 y72 z72 st72 hQ72
                subst l72 y72 z72
                obtain ⟨⟨r72, rfl, hr72⟩, N72q, e72⟩ := hQ72
                have N72 := Fr.app N52 N72q
                refine own_st (fun _ k => st72.trans k) ?_
                show own_G p.tables e below _ (T72.setTop (mkF m 181 #[.val (.long i0), .second, .val (.int i1), .val (.long i2), .second, .val (.int i3), .val (.long i4), .second, .val (.long i5), .second, .val (.long z3), .second, .val (.int z6), .val (.long z9), .second, .val (.ref b10), .val (.ref b27), .val (.ref nr52), .val (.int (((i3.toUInt32 >>> ((3 : Int32) &&& 31).toUInt32).toInt32) &&& (3 : Int32))), .val (.int z71)] [(.int r72)]))
                refine own_st (fun _ k => XS.iload X72.here hx rfl (hb hby at_181) rfl k) ?_
                show own_G p.tables e below _ (T72.setTop (mkF m 183 #[.val (.long i0), .second, .val (.int i1), .val (.long i2), .second, .val (.int i3), .val (.long i4), .second, .val (.long i5), .second, .val (.long z3), .second, .val (.int z6), .val (.long z9), .second, .val (.ref b10), .val (.ref b27), .val (.ref nr52), .val (.int (((i3.toUInt32 >>> ((3 : Int32) &&& 31).toUInt32).toInt32) &&& (3 : Int32))), .val (.int z71)] [(.int z71), (.int r72)]))
                have hf73 : r72 = z71 := (hr72.trans ((own_bc (Iff.rfl)).trans hz71.symm))
                refine own_st (fun _ k => XS.icmpNo X72.here hx rfl (hb hby at_183) rfl (teq hf73).2 k) ?_
                show own_G p.tables e below _ (T72.setTop (mkF m 186 #[.val (.long i0), .second, .val (.int i1), .val (.long i2), .second, .val (.int i3), .val (.long i4), .second, .val (.long i5), .second, .val (.long z3), .second, .val (.int z6), .val (.long z9), .second, .val (.ref b10), .val (.ref b27), .val (.ref nr52), .val (.int (((i3.toUInt32 >>> ((3 : Int32) &&& 31).toUInt32).toInt32) &&& (3 : Int32))), .val (.int z71)] []))
                refine own_st (fun _ k => XS.aload X72.here hx rfl (hb hby at_186) rfl rfl k) ?_
                show own_G p.tables e below _ (T72.setTop (mkF m 188 #[.val (.long i0), .second, .val (.int i1), .val (.long i2), .second, .val (.int i3), .val (.long i4), .second, .val (.long i5), .second, .val (.long z3), .second, .val (.int z6), .val (.long z9), .second, .val (.ref b10), .val (.ref b27), .val (.ref nr52), .val (.int (((i3.toUInt32 >>> ((3 : Int32) &&& 31).toUInt32).toInt32) &&& (3 : Int32))), .val (.int z71)] [(.ref b27)]))
                refine own_st (fun _ k => XS.aload X72.here hx rfl (hb hby at_188) rfl rfl k) ?_
                show own_G p.tables e below _ (T72.setTop (mkF m 190 #[.val (.long i0), .second, .val (.int i1), .val (.long i2), .second, .val (.int i3), .val (.long i4), .second, .val (.long i5), .second, .val (.long z3), .second, .val (.int z6), .val (.long z9), .second, .val (.ref b10), .val (.ref b27), .val (.ref nr52), .val (.int (((i3.toUInt32 >>> ((3 : Int32) &&& 31).toUInt32).toInt32) &&& (3 : Int32))), .val (.int z71)] [(.ref b10), (.ref b27)]))
                obtain ⟨cq74, kq74, q74a, q74b, q74c⟩ := isOf hZ e72 E57
                obtain ⟨_, _, ⟨T74, L74, k74, n74⟩, -, X74, ⟨Lc74, hQ74, l74, y74, z74⟩, st74⟩ := X72.virtualBack hx (y := (⟨"com/example/spool/spool/storage/IndexEntry", "equals", "(Ljava/lang/Object;)Z"⟩ : MethodName)) (z := (⟨"com/example/spool/spool/storage/IndexEntry", "equals", "(Ljava/lang/Object;)Z"⟩ : MethodName)) hown (mvT hZ (hw _ (List.mem_of_getElem? (i := 23) rfl))) (mvT hZ (hw _ (List.mem_of_getElem? (i := 24) rfl))) (notFace_of_selects (args := #[]) (mvT hZ (hw _ (List.mem_of_getElem? (i := 26) rfl)))) (mvT hZ (hw _ (List.mem_of_getElem? (i := 26) rfl))) (mvT hZ (hw _ (List.mem_of_getElem? (i := 25) rfl))) (by decide) (backOf (W := 0) (rm4q l Z a0 hw [] b27 b10 z3 z6 z9 i0 i1 i2 T52.heap n0 Z61 F58 F59 F60 E57 F54 F55 F56 E53) hZ (hw _ (List.mem_of_getElem? (i := 27) rfl)) (hw _ (List.mem_of_getElem? (i := 2) rfl)) (by decide) (by decide)) q74a q74c (g := (mkF m 190 #[.val (.long i0), .second, .val (.int i1), .val (.long i2), .second, .val (.int i3), .val (.long i4), .second, .val (.long i5), .second, .val (.long z3), .second, .val (.int z6), .val (.long z9), .second, .val (.ref b10), .val (.ref b27), .val (.ref nr52), .val (.int (((i3.toUInt32 >>> ((3 : Int32) &&& 31).toUInt32).toInt32) &&& (3 : Int32))), .val (.int z71)] [(.ref b10), (.ref b27)])) rfl (by rw [hml]; rfl) (Steps.refl _) (argsL := [(.ref b10)]) (rest := []) (lenOf pd_4 rfl) rfl (by show 2 * 0 + _ ≤ _; exact Nat.le_of_eq rfl) (hb hby at_190) (fun _ _ => ⟨rfl, e72, (by decide : 3 + 0 ≤ _), (by decide : 7 + 0 ≤ _)⟩)
                dsimp only [Pt.U, Pt.locs, Pt.cells, Pt.slots] at X74 l74 y74 z74 st74 hQ74
                subst l74 y74 z74
                obtain ⟨⟨r74, rfl, hr74⟩, N74q, e74⟩ := hQ74
                have N74 := Fr.app N72 N74q
                refine own_st (fun _ k => st74.trans k) ?_
                show own_G p.tables e below _ (T74.setTop (mkF m 193 #[.val (.long i0), .second, .val (.int i1), .val (.long i2), .second, .val (.int i3), .val (.long i4), .second, .val (.long i5), .second, .val (.long z3), .second, .val (.int z6), .val (.long z9), .second, .val (.ref b10), .val (.ref b27), .val (.ref nr52), .val (.int (((i3.toUInt32 >>> ((3 : Int32) &&& 31).toUInt32).toInt32) &&& (3 : Int32))), .val (.int z71)] [(.int r74)]))
                refine own_st (fun _ k => XS.iload X74.here hx rfl (hb hby at_193) rfl k) ?_
                show own_G p.tables e below _ (T74.setTop (mkF m 195 #[.val (.long i0), .second, .val (.int i1), .val (.long i2), .second, .val (.int i3), .val (.long i4), .second, .val (.long i5), .second, .val (.long z3), .second, .val (.int z6), .val (.long z9), .second, .val (.ref b10), .val (.ref b27), .val (.ref nr52), .val (.int (((i3.toUInt32 >>> ((3 : Int32) &&& 31).toUInt32).toInt32) &&& (3 : Int32))), .val (.int z71)] [(.int z71), (.int r74)]))
                have hf75 : r74 = z71 := (hr74.trans ((own_bc (own_sym _ _ _ _ _ _)).trans hz71.symm))
                refine own_st (fun _ k => XS.icmpNo X74.here hx rfl (hb hby at_195) rfl (teq hf75).2 k) ?_
                show own_G p.tables e below _ (T74.setTop (mkF m 198 #[.val (.long i0), .second, .val (.int i1), .val (.long i2), .second, .val (.int i3), .val (.long i4), .second, .val (.long i5), .second, .val (.long z3), .second, .val (.int z6), .val (.long z9), .second, .val (.ref b10), .val (.ref b27), .val (.ref nr52), .val (.int (((i3.toUInt32 >>> ((3 : Int32) &&& 31).toUInt32).toInt32) &&& (3 : Int32))), .val (.int z71)] []))
                refine own_st (fun _ k => XS.iconst X74.here hx rfl (hb hby at_198) k) ?_
                show own_G p.tables e below _ (T74.setTop (mkF m 199 #[.val (.long i0), .second, .val (.int i1), .val (.long i2), .second, .val (.int i3), .val (.long i4), .second, .val (.long i5), .second, .val (.long z3), .second, .val (.int z6), .val (.long z9), .second, .val (.ref b10), .val (.ref b27), .val (.ref nr52), .val (.int (((i3.toUInt32 >>> ((3 : Int32) &&& 31).toUInt32).toInt32) &&& (3 : Int32))), .val (.int z71)] [(.int (1 : Int32))]))
                refine own_st (fun _ k => XS.goto X74.here hx rfl (pc0 := 199) (pc' := 203) rfl (hb hby at_199) (by decide) (by decide) k) ?_
                show own_G p.tables e below _ (T74.setTop (mkF m 203 #[.val (.long i0), .second, .val (.int i1), .val (.long i2), .second, .val (.int i3), .val (.long i4), .second, .val (.long i5), .second, .val (.long z3), .second, .val (.int z6), .val (.long z9), .second, .val (.ref b10), .val (.ref b27), .val (.ref nr52), .val (.int (((i3.toUInt32 >>> ((3 : Int32) &&& 31).toUInt32).toInt32) &&& (3 : Int32))), .val (.int z71)] [(.int (1 : Int32))]))
                exact own_retZ X74 hx hlk Bd.returns (hb hby at_203) (by decide) ⟨rfl, N74⟩ (by decide) (by decide)
              by_cases hc151_69 : i0 = z3
              · refine own_st (fun _ k => XS.ifNo X52.here hx rfl (hb hby at_151) rfl ((if0 _ _).trans (teq ((lw_eq i0 z3).mpr hc151_69)).2) k) ?_
                show own_G p.tables e below _ (T52.setTop (mkF m 154 #[.val (.long i0), .second, .val (.int i1), .val (.long i2), .second, .val (.int i3), .val (.long i4), .second, .val (.long i5), .second, .val (.long z3), .second, .val (.int z6), .val (.long z9), .second, .val (.ref b10), .val (.ref b27), .val (.ref nr52), .val (.int (((i3.toUInt32 >>> ((3 : Int32) &&& 31).toUInt32).toInt32) &&& (3 : Int32))), .unset] []))
                refine own_st (fun _ k => XS.iloadN X52.here hx rfl (hb hby at_154) rfl k) ?_
                show own_G p.tables e below _ (T52.setTop (mkF m 155 #[.val (.long i0), .second, .val (.int i1), .val (.long i2), .second, .val (.int i3), .val (.long i4), .second, .val (.long i5), .second, .val (.long z3), .second, .val (.int z6), .val (.long z9), .second, .val (.ref b10), .val (.ref b27), .val (.ref nr52), .val (.int (((i3.toUInt32 >>> ((3 : Int32) &&& 31).toUInt32).toInt32) &&& (3 : Int32))), .unset] [(.int i1)]))
                refine own_st (fun _ k => XS.iload X52.here hx rfl (hb hby at_155) rfl k) ?_
                show own_G p.tables e below _ (T52.setTop (mkF m 157 #[.val (.long i0), .second, .val (.int i1), .val (.long i2), .second, .val (.int i3), .val (.long i4), .second, .val (.long i5), .second, .val (.long z3), .second, .val (.int z6), .val (.long z9), .second, .val (.ref b10), .val (.ref b27), .val (.ref nr52), .val (.int (((i3.toUInt32 >>> ((3 : Int32) &&& 31).toUInt32).toInt32) &&& (3 : Int32))), .unset] [(.int z6), (.int i1)]))
                by_cases hc157_76 : i1 = z6
                · refine own_st (fun _ k => XS.icmpNo X52.here hx rfl (hb hby at_157) rfl (teq hc157_76).2 k) ?_
                  show own_G p.tables e below _ (T52.setTop (mkF m 160 #[.val (.long i0), .second, .val (.int i1), .val (.long i2), .second, .val (.int i3), .val (.long i4), .second, .val (.long i5), .second, .val (.long z3), .second, .val (.int z6), .val (.long z9), .second, .val (.ref b10), .val (.ref b27), .val (.ref nr52), .val (.int (((i3.toUInt32 >>> ((3 : Int32) &&& 31).toUInt32).toInt32) &&& (3 : Int32))), .unset] []))
                  refine own_st (fun _ k => XS.lloadN X52.here hx rfl (hb hby at_160) rfl k) ?_
                  show own_G p.tables e below _ (T52.setTop (mkF m 161 #[.val (.long i0), .second, .val (.int i1), .val (.long i2), .second, .val (.int i3), .val (.long i4), .second, .val (.long i5), .second, .val (.long z3), .second, .val (.int z6), .val (.long z9), .second, .val (.ref b10), .val (.ref b27), .val (.ref nr52), .val (.int (((i3.toUInt32 >>> ((3 : Int32) &&& 31).toUInt32).toInt32) &&& (3 : Int32))), .unset] [(.long i2)]))
                  refine own_st (fun _ k => XS.lload X52.here hx rfl (hb hby at_161) rfl k) ?_
                  show own_G p.tables e below _ (T52.setTop (mkF m 163 #[.val (.long i0), .second, .val (.int i1), .val (.long i2), .second, .val (.int i3), .val (.long i4), .second, .val (.long i5), .second, .val (.long z3), .second, .val (.int z6), .val (.long z9), .second, .val (.ref b10), .val (.ref b27), .val (.ref nr52), .val (.int (((i3.toUInt32 >>> ((3 : Int32) &&& 31).toUInt32).toInt32) &&& (3 : Int32))), .unset] [(.long z9), (.long i2)]))
                  refine own_st (fun _ k => XS.lcmp X52.here hx rfl (hb hby at_163) rfl k) ?_
                  show own_G p.tables e below _ (T52.setTop (mkF m 164 #[.val (.long i0), .second, .val (.int i1), .val (.long i2), .second, .val (.int i3), .val (.long i4), .second, .val (.long i5), .second, .val (.long z3), .second, .val (.int z6), .val (.long z9), .second, .val (.ref b10), .val (.ref b27), .val (.ref nr52), .val (.int (((i3.toUInt32 >>> ((3 : Int32) &&& 31).toUInt32).toInt32) &&& (3 : Int32))), .unset] [(.int (lcmpW i2 z9))]))
                  by_cases hc164_77 : i2 = z9
                  · refine own_st (fun _ k => XS.ifNo X52.here hx rfl (hb hby at_164) rfl ((if0 _ _).trans (teq ((lw_eq i2 z9).mpr hc164_77)).2) k) ?_
                    show own_G p.tables e below _ (T52.setTop (mkF m 167 #[.val (.long i0), .second, .val (.int i1), .val (.long i2), .second, .val (.int i3), .val (.long i4), .second, .val (.long i5), .second, .val (.long z3), .second, .val (.int z6), .val (.long z9), .second, .val (.ref b10), .val (.ref b27), .val (.ref nr52), .val (.int (((i3.toUInt32 >>> ((3 : Int32) &&& 31).toUInt32).toInt32) &&& (3 : Int32))), .unset] []))
                    refine own_st (fun _ k => XS.iconst X52.here hx rfl (hb hby at_167) k) ?_
                    show own_G p.tables e below _ (T52.setTop (mkF m 168 #[.val (.long i0), .second, .val (.int i1), .val (.long i2), .second, .val (.int i3), .val (.long i4), .second, .val (.long i5), .second, .val (.long z3), .second, .val (.int z6), .val (.long z9), .second, .val (.ref b10), .val (.ref b27), .val (.ref nr52), .val (.int (((i3.toUInt32 >>> ((3 : Int32) &&& 31).toUInt32).toInt32) &&& (3 : Int32))), .unset] [(.int (1 : Int32))]))
                    refine own_st (fun _ k => XS.goto X52.here hx rfl (pc0 := 168) (pc' := 172) rfl (hb hby at_168) (by decide) (by decide) k) ?_
                    show own_G p.tables e below _ (T52.setTop (mkF m 172 #[.val (.long i0), .second, .val (.int i1), .val (.long i2), .second, .val (.int i3), .val (.long i4), .second, .val (.long i5), .second, .val (.long z3), .second, .val (.int z6), .val (.long z9), .second, .val (.ref b10), .val (.ref b27), .val (.ref nr52), .val (.int (((i3.toUInt32 >>> ((3 : Int32) &&& 31).toUInt32).toInt32) &&& (3 : Int32))), .unset] [(.int (1 : Int32))]))
                    exact J172_70 (1 : Int32) ((own_bt ⟨hc151_69, ⟨hc157_76, hc164_77⟩⟩).symm)
                  · refine own_st (fun _ k => XS.ifYes X52.here hx rfl (pc0 := 164) (pc' := 171) rfl (hb hby at_164) rfl ((if0 _ _).trans (feq (fun q => hc164_77 ((lw_eq i2 z9).mp q))).2) (by decide) (by decide) k) ?_
                    show own_G p.tables e below _ (T52.setTop (mkF m 171 #[.val (.long i0), .second, .val (.int i1), .val (.long i2), .second, .val (.int i3), .val (.long i4), .second, .val (.long i5), .second, .val (.long z3), .second, .val (.int z6), .val (.long z9), .second, .val (.ref b10), .val (.ref b27), .val (.ref nr52), .val (.int (((i3.toUInt32 >>> ((3 : Int32) &&& 31).toUInt32).toInt32) &&& (3 : Int32))), .unset] []))
                    refine own_st (fun _ k => XS.iconst X52.here hx rfl (hb hby at_171) k) ?_
                    show own_G p.tables e below _ (T52.setTop (mkF m 172 #[.val (.long i0), .second, .val (.int i1), .val (.long i2), .second, .val (.int i3), .val (.long i4), .second, .val (.long i5), .second, .val (.long z3), .second, .val (.int z6), .val (.long z9), .second, .val (.ref b10), .val (.ref b27), .val (.ref nr52), .val (.int (((i3.toUInt32 >>> ((3 : Int32) &&& 31).toUInt32).toInt32) &&& (3 : Int32))), .unset] [(.int (0 : Int32))]))
                    exact J172_70 (0 : Int32) ((own_bf (fun q => (fun q => hc164_77 q.2) q.2)).symm)
                · refine own_st (fun _ k => XS.icmpYes X52.here hx rfl (pc0 := 157) (pc' := 171) rfl (hb hby at_157) rfl (feq hc157_76).2 (by decide) (by decide) k) ?_
                  show own_G p.tables e below _ (T52.setTop (mkF m 171 #[.val (.long i0), .second, .val (.int i1), .val (.long i2), .second, .val (.int i3), .val (.long i4), .second, .val (.long i5), .second, .val (.long z3), .second, .val (.int z6), .val (.long z9), .second, .val (.ref b10), .val (.ref b27), .val (.ref nr52), .val (.int (((i3.toUInt32 >>> ((3 : Int32) &&& 31).toUInt32).toInt32) &&& (3 : Int32))), .unset] []))
                  refine own_st (fun _ k => XS.iconst X52.here hx rfl (hb hby at_171) k) ?_
                  show own_G p.tables e below _ (T52.setTop (mkF m 172 #[.val (.long i0), .second, .val (.int i1), .val (.long i2), .second, .val (.int i3), .val (.long i4), .second, .val (.long i5), .second, .val (.long z3), .second, .val (.int z6), .val (.long z9), .second, .val (.ref b10), .val (.ref b27), .val (.ref nr52), .val (.int (((i3.toUInt32 >>> ((3 : Int32) &&& 31).toUInt32).toInt32) &&& (3 : Int32))), .unset] [(.int (0 : Int32))]))
                  exact J172_70 (0 : Int32) ((own_bf (fun q => (fun q => hc157_76 q.1) q.2)).symm)
              · refine own_st (fun _ k => XS.ifYes X52.here hx rfl (pc0 := 151) (pc' := 171) rfl (hb hby at_151) rfl ((if0 _ _).trans (feq (fun q => hc151_69 ((lw_eq i0 z3).mp q))).2) (by decide) (by decide) k) ?_
                show own_G p.tables e below _ (T52.setTop (mkF m 171 #[.val (.long i0), .second, .val (.int i1), .val (.long i2), .second, .val (.int i3), .val (.long i4), .second, .val (.long i5), .second, .val (.long z3), .second, .val (.int z6), .val (.long z9), .second, .val (.ref b10), .val (.ref b27), .val (.ref nr52), .val (.int (((i3.toUInt32 >>> ((3 : Int32) &&& 31).toUInt32).toInt32) &&& (3 : Int32))), .unset] []))
                refine own_st (fun _ k => XS.iconst X52.here hx rfl (hb hby at_171) k) ?_
                show own_G p.tables e below _ (T52.setTop (mkF m 172 #[.val (.long i0), .second, .val (.int i1), .val (.long i2), .second, .val (.int i3), .val (.long i4), .second, .val (.long i5), .second, .val (.long z3), .second, .val (.int z6), .val (.long z9), .second, .val (.ref b10), .val (.ref b27), .val (.ref nr52), .val (.int (((i3.toUInt32 >>> ((3 : Int32) &&& 31).toUInt32).toInt32) &&& (3 : Int32))), .unset] [(.int (0 : Int32))]))
                exact J172_70 (0 : Int32) ((own_bf (fun q => hc151_69 q.1)).symm)
      by_cases hc38_7 : (i3 &&& (4 : Int32)) = (0 : Int32)
      · refine own_st (fun _ k => XS.ifYes X0.here hx rfl (pc0 := 38) (pc' := 45) rfl (hb hby at_38) rfl ((if0 _ _).trans (teq hc38_7).1) (by decide) (by decide) k) ?_
        show own_G p.tables e below _ (s₁.setTop (mkF m 45 #[.val (.long i0), .second, .val (.int i1), .val (.long i2), .second, .val (.int i3), .val (.long i4), .second, .val (.long i5), .second, .val (.long z3), .second, .val (.int z6), .unset, .unset, .unset, .unset, .unset, .unset, .unset] []))
        refine own_st (fun _ k => XS.lload X0.here hx rfl (hb hby at_45) rfl k) ?_
        show own_G p.tables e below _ (s₁.setTop (mkF m 47 #[.val (.long i0), .second, .val (.int i1), .val (.long i2), .second, .val (.int i3), .val (.long i4), .second, .val (.long i5), .second, .val (.long z3), .second, .val (.int z6), .unset, .unset, .unset, .unset, .unset, .unset, .unset] [(.long i5)]))
        exact J47_8 i5 ((if_pos hc38_7).symm)
      · refine own_st (fun _ k => XS.ifNo X0.here hx rfl (hb hby at_38) rfl ((if0 _ _).trans (feq hc38_7).1) k) ?_
        show own_G p.tables e below _ (s₁.setTop (mkF m 41 #[.val (.long i0), .second, .val (.int i1), .val (.long i2), .second, .val (.int i3), .val (.long i4), .second, .val (.long i5), .second, .val (.long z3), .second, .val (.int z6), .unset, .unset, .unset, .unset, .unset, .unset, .unset] []))
        refine own_st (fun _ k => XS.lloadN X0.here hx rfl (hb hby at_41) rfl k) ?_
        show own_G p.tables e below _ (s₁.setTop (mkF m 42 #[.val (.long i0), .second, .val (.int i1), .val (.long i2), .second, .val (.int i3), .val (.long i4), .second, .val (.long i5), .second, .val (.long z3), .second, .val (.int z6), .unset, .unset, .unset, .unset, .unset, .unset, .unset] [(.long i2)]))
        refine own_st (fun _ k => XS.goto X0.here hx rfl (pc0 := 42) (pc' := 47) rfl (hb hby at_42) (by decide) (by decide) k) ?_
        show own_G p.tables e below _ (s₁.setTop (mkF m 47 #[.val (.long i0), .second, .val (.int i1), .val (.long i2), .second, .val (.int i3), .val (.long i4), .second, .val (.long i5), .second, .val (.long z3), .second, .val (.int z6), .unset, .unset, .unset, .unset, .unset, .unset, .unset] [(.long i2)]))
        exact J47_8 i2 ((if_neg hc38_7).symm)
    by_cases hc19_4 : (i3 &&& (2 : Int32)) = (0 : Int32)
    · refine own_st (fun _ k => XS.ifYes X0.here hx rfl (pc0 := 19) (pc' := 26) rfl (hb hby at_19) rfl ((if0 _ _).trans (teq hc19_4).1) (by decide) (by decide) k) ?_
      show own_G p.tables e below _ (s₁.setTop (mkF m 26 #[.val (.long i0), .second, .val (.int i1), .val (.long i2), .second, .val (.int i3), .val (.long i4), .second, .val (.long i5), .second, .val (.long z3), .second, .unset, .unset, .unset, .unset, .unset, .unset, .unset, .unset] []))
      refine own_st (fun _ k => XS.lload X0.here hx rfl (hb hby at_26) rfl k) ?_
      show own_G p.tables e below _ (s₁.setTop (mkF m 28 #[.val (.long i0), .second, .val (.int i1), .val (.long i2), .second, .val (.int i3), .val (.long i4), .second, .val (.long i5), .second, .val (.long z3), .second, .unset, .unset, .unset, .unset, .unset, .unset, .unset, .unset] [(.long i5)]))
      refine own_st (fun _ k => XS.bipush X0.here hx rfl (hb hby at_28) k) ?_
      show own_G p.tables e below _ (s₁.setTop (mkF m 30 #[.val (.long i0), .second, .val (.int i1), .val (.long i2), .second, .val (.int i3), .val (.long i4), .second, .val (.long i5), .second, .val (.long z3), .second, .unset, .unset, .unset, .unset, .unset, .unset, .unset, .unset] [(.int (32 : Int32)), (.long i5)]))
      refine own_st (fun _ k => XS.lushr X0.here hx rfl (hb hby at_30) rfl k) ?_
      show own_G p.tables e below _ (s₁.setTop (mkF m 31 #[.val (.long i0), .second, .val (.int i1), .val (.long i2), .second, .val (.int i3), .val (.long i4), .second, .val (.long i5), .second, .val (.long z3), .second, .unset, .unset, .unset, .unset, .unset, .unset, .unset, .unset] [(.long ((i5.toUInt64 >>> ((32 : Int32) &&& 0x3f).toInt64.toUInt64).toInt64))]))
      refine own_st (fun _ k => XS.l2i X0.here hx rfl (hb hby at_31) rfl k) ?_
      show own_G p.tables e below _ (s₁.setTop (mkF m 32 #[.val (.long i0), .second, .val (.int i1), .val (.long i2), .second, .val (.int i3), .val (.long i4), .second, .val (.long i5), .second, .val (.long z3), .second, .unset, .unset, .unset, .unset, .unset, .unset, .unset, .unset] [(.int (((i5.toUInt64 >>> ((32 : Int32) &&& 0x3f).toInt64.toUInt64).toInt64).toInt32))]))
      exact J32_5 (((i5.toUInt64 >>> ((32 : Int32) &&& 0x3f).toInt64.toUInt64).toInt64).toInt32) ((if_pos hc19_4).symm)
    · refine own_st (fun _ k => XS.ifNo X0.here hx rfl (hb hby at_19) rfl ((if0 _ _).trans (feq hc19_4).1) k) ?_
      show own_G p.tables e below _ (s₁.setTop (mkF m 22 #[.val (.long i0), .second, .val (.int i1), .val (.long i2), .second, .val (.int i3), .val (.long i4), .second, .val (.long i5), .second, .val (.long z3), .second, .unset, .unset, .unset, .unset, .unset, .unset, .unset, .unset] []))
      refine own_st (fun _ k => XS.iloadN X0.here hx rfl (hb hby at_22) rfl k) ?_
      show own_G p.tables e below _ (s₁.setTop (mkF m 23 #[.val (.long i0), .second, .val (.int i1), .val (.long i2), .second, .val (.int i3), .val (.long i4), .second, .val (.long i5), .second, .val (.long z3), .second, .unset, .unset, .unset, .unset, .unset, .unset, .unset, .unset] [(.int i1)]))
      refine own_st (fun _ k => XS.goto X0.here hx rfl (pc0 := 23) (pc' := 32) rfl (hb hby at_23) (by decide) (by decide) k) ?_
      show own_G p.tables e below _ (s₁.setTop (mkF m 32 #[.val (.long i0), .second, .val (.int i1), .val (.long i2), .second, .val (.int i3), .val (.long i4), .second, .val (.long i5), .second, .val (.long z3), .second, .unset, .unset, .unset, .unset, .unset, .unset, .unset, .unset] [(.int i1)]))
      exact J32_5 i1 ((if_neg hc19_4).symm)
  by_cases hc4_1 : (i3 &&& (1 : Int32)) = (0 : Int32)
  · refine own_st (fun _ k => XS.ifYes X0.here hx rfl (pc0 := 4) (pc' := 11) rfl (hb hby at_4) rfl ((if0 _ _).trans (teq hc4_1).1) (by decide) (by decide) k) ?_
    show own_G p.tables e below _ (s₁.setTop (mkF m 11 #[.val (.long i0), .second, .val (.int i1), .val (.long i2), .second, .val (.int i3), .val (.long i4), .second, .val (.long i5), .second, .unset, .unset, .unset, .unset, .unset, .unset, .unset, .unset, .unset, .unset] []))
    refine own_st (fun _ k => XS.lload X0.here hx rfl (hb hby at_11) rfl k) ?_
    show own_G p.tables e below _ (s₁.setTop (mkF m 13 #[.val (.long i0), .second, .val (.int i1), .val (.long i2), .second, .val (.int i3), .val (.long i4), .second, .val (.long i5), .second, .unset, .unset, .unset, .unset, .unset, .unset, .unset, .unset, .unset, .unset] [(.long i4)]))
    exact J13_2 i4 ((if_pos hc4_1).symm)
  · refine own_st (fun _ k => XS.ifNo X0.here hx rfl (hb hby at_4) rfl ((if0 _ _).trans (feq hc4_1).1) k) ?_
    show own_G p.tables e below _ (s₁.setTop (mkF m 7 #[.val (.long i0), .second, .val (.int i1), .val (.long i2), .second, .val (.int i3), .val (.long i4), .second, .val (.long i5), .second, .unset, .unset, .unset, .unset, .unset, .unset, .unset, .unset, .unset, .unset] []))
    refine own_st (fun _ k => XS.lloadN X0.here hx rfl (hb hby at_7) rfl k) ?_
    show own_G p.tables e below _ (s₁.setTop (mkF m 8 #[.val (.long i0), .second, .val (.int i1), .val (.long i2), .second, .val (.int i3), .val (.long i4), .second, .val (.long i5), .second, .unset, .unset, .unset, .unset, .unset, .unset, .unset, .unset, .unset, .unset] [(.long i0)]))
    refine own_st (fun _ k => XS.goto X0.here hx rfl (pc0 := 8) (pc' := 13) rfl (hb hby at_8) (by decide) (by decide) k) ?_
    show own_G p.tables e below _ (s₁.setTop (mkF m 13 #[.val (.long i0), .second, .val (.int i1), .val (.long i2), .second, .val (.int i3), .val (.long i4), .second, .val (.long i5), .second, .unset, .unset, .unset, .unset, .unset, .unset, .unset, .unset, .unset, .unset] [(.long i0)]))
    exact J13_2 i0 ((if_neg hc4_1).symm)
set_option maxRecDepth 65536 in
set_option maxHeartbeats 40000000 in
theorem comes_1 {Post : Tables → Env → Array Value → State → Outcome → State → Prop} (hpost : ∀ tb e args s v u, (limb_1_1.after args s (.returned v) u = true ∧ limb_1_2.after args s (.returned v) u = true ∧ True) → FrameEnd s (.returned v) u (Jvm.fieldLocs frame_1_writes args s ++ Jvm.arrayLocs frame_1_arrays args s ++ Jvm.staticLocs frame_1_statics s) 16 128 → Post tb e args s (.returned v) u) :
    ArmFor flags0 classFile x code maxLocals ret World_1 tables_1 room_1 Calls_1 rest_1 Pre_1 Post := by
  intro l hfl _ _ p e ha hc hk s m args below hf hA hF happ hP
  obtain ⟨hcalls, hrest, hpre⟩ := hP
  obtain ⟨-, -, -, hnamed, -, -, -, hat⟩ := (Spec.applies_iff hf).mp happ
  obtain ⟨hg, hn⟩ := and_e (Cond.before_iff.mp (show (Jvm.Cond.and given_1 narrow_1).before args s = true from hpre))
  obtain ⟨gc, g0⟩ := and_e hg
  obtain ⟨ga0, g1⟩ := and_e g0
  obtain ⟨ga1, g2⟩ := and_e g1
  obtain ⟨ga2, g3⟩ := and_e g2
  obtain ⟨ga3, g4⟩ := and_e g3
  obtain ⟨ga4, g5⟩ := and_e g4
  obtain ⟨w0, w1, w2, w3, w4, w5, rfl⟩ : ∃ w0 w1 w2 w3 w4 w5 : Value, args = #[w0, w1, w2, w3, w4, w5] := by
    have hs : args.size = 6 := by simpa [Cond.value, given_1] using gc
    obtain ⟨L⟩ := args
    match L, hs with
    | [w0, w1, w2, w3, w4, w5], _ => exact ⟨w0, w1, w2, w3, w4, w5, rfl⟩
  have hw := fun d (hd : d ∈ tables_1) => atoms_spec (ws := Jvm.Cond.code x code maxLocals ret :: tables_1) hat d (List.mem_cons_of_mem _ hd)
  have hfit : Fit s := fun {y c} hc i hi => by
    obtain ⟨ha, rfl⟩ := Array.getElem?_eq_some_iff.mp hc
    have q := List.all_eq_true.mp ((Array.all_eq_true_iff_forall_mem.mp hF) _ (Array.getElem_mem ha)) i (List.mem_range.mpr hi)
    simpa [Array.getElem?_eq_getElem hi] using q
  obtain ⟨hsets, hown0⟩ := atoms_of _ (rest_1_c_eq ▸ (show rest_1_c.before _ s = true from hrest))
  obtain ⟨i0, ei0⟩ := isL_v ga0
  obtain rfl : w0 = (.long i0) := Option.some.inj ei0
  obtain ⟨i1, ei1⟩ := is_v ga1
  obtain rfl : w1 = (.int i1) := Option.some.inj ei1
  obtain ⟨i2, ei2⟩ := isL_v ga2
  obtain rfl : w2 = (.long i2) := Option.some.inj ei2
  obtain ⟨i3, ei3⟩ := is_v ga3
  obtain rfl : w3 = (.int i3) := Option.some.inj ei3
  obtain ⟨i4, ei4⟩ := isL_v ga4
  obtain rfl : w4 = (.long i4) := Option.some.inj ei4
  obtain ⟨i5, ei5⟩ := isL_v g5
  obtain rfl : w5 = (.long i5) := Option.some.inj ei5
  obtain ⟨bc, clc, S_cache, Arc, hel⟩ := own_cache hsets
  obtain ⟨n, o, h1, h2, h3, _, L, rfl, ⟨rfl, N⟩, hq⟩ := rm0 l s _ hw tables_1 i0 i1 i2 i3 i4 i5 bc clc s.heap s.heap.size (Nat.le_refl _) (Old.start s) S_cache Arc hel p e ha hc hk s m _ below hf ((Spec.applies_iff_loose hf).mp happ).1 ⟨rfl, State.Warmed39.refl s, rfl⟩ trivial
  refine ⟨n, _, h1, h2, h3, hpost _ _ _ _ _ _ ⟨Cond.after_iff.mpr rfl, Cond.after_iff.mpr (eq_i res_at (Term.int_eval (1)) rfl), trivial⟩ ⟨hq.1, hq.2.1, (hq.2.2.sift fun y hy => Or.inr (N y hy)).mono (by decide) (by decide)⟩⟩
theorem main_1_1 : Claimed_1_1 := comes_1 fun _ _ _ _ _ _ h hF => ⟨h.1, hF⟩
theorem main_1_2 : Claimed_1_2 := comes_1 fun _ _ _ _ _ _ h hF => ⟨h.2.1, hF⟩
end Jvm.Pilot.@@N@@
namespace Jvm.Pilot.@@N@@
open Jvm Jvm.ClassFile Sem Op Lib Jvm.Free Jvm.Stand Jvm.Pilot.@@N@@.Jvm.D
/-! MADE BY PROGRAM (witnessworld.py) out of the Statement's table words and the real class files: 16 classes; the members and pool entries that the words name. The judged class is class 1, her method 1. -/
namespace start1
open Jvm.ClassFile
def u (s : String) : CpInfo := .utf8 (stringToUtf16 s)
/-- a pool by its gaps: so many unusable entries, then the entry; so many at the end -/
def gap : Nat → List CpInfo → List CpInfo
  | 0, r => r
  | n + 1, r => .unusable :: gap n r
def poolList (es : List (Nat × CpInfo)) (last : Nat) : List CpInfo := es.foldr (fun e r => gap e.1 (e.2 :: r)) (gap last [])
def pool (es : List (Nat × CpInfo)) (last : Nat) : Array CpInfo := ⟨poolList es last⟩
def fileOf (pool : Array CpInfo) (this : Nat) (attrs : Array Attribute := #[]) (ms : Array MethodInfo := #[]) (fl : Nat := 33) (sup : Nat := 0) (ifs : Array Nat := #[]) (fds : Array FieldInfo := #[]) : ClassFile where
  minorVersion := 0
  majorVersion := 65
  constantPool := pool
  accessFlags := fl
  thisClass := this
  superClass := sup
  interfaces := ifs
  fields := fds
  methods := ms
  attributes := attrs
def plain (name : String) (sup : Option ClassId) : Class where
  name := name
  kind := .ordinary
  loader := none
  accessFlags := 33
  super := sup
  interfaces := #[]
  cf := none
  fields := #[]
  methods := #[]
  instanceTypes := #[]
  staticTypes := #[]
  resolved := #[]
  callSites := []
  init := .initialized
  statics := none
  mirror := none

def pool0 : Array CpInfo := pool [(5, u "<init>"), (0, u "()V"), (1, .class_ 10), (1, u "java/lang/Object")] 113

def k0c0 : Code := { maxStack := 0, maxLocals := 1, code := object_method_1_code, exceptionTable := #[], attributes := #[] }
def k0m0 : Method := { name := "<init>", desc := "()V", sig := { parameters := [], returnType := none }, accessFlags := 1, code := some k0c0 }
/-- java/lang/Object -/
def k0 : Class := { plain "java/lang/Object" none with
  accessFlags := 33
  interfaces := #[]
  cf := some (fileOf pool0 8 #[] #[{ accessFlags := 1, nameIndex := 5, descriptorIndex := 6, attributes := #[] }] 33 0 #[] #[])
  fields := #[]
  methods := #[k0m0]
  instanceTypes := #[]
  staticTypes := #[]
  resolved := Array.replicate 124 none
  statics := none }

def pool1 : Array CpInfo := pool [(2, .class_ 4), (1, u "java/lang/Object"), (0, u "<init>"), (0, u "()V"), (0, .class_ 8), (0, u "com/example/spool/spool/storage/IndexEntry"), (0, .methodref 7 10), (0, .nameAndType 5 11), (0, u "(JIJ)V"), (0, .methodref 13 14), (0, .class_ 15), (0, .nameAndType 16 17), (0, u "java/lang/Long"), (0, u "valueOf"), (0, u "(J)Ljava/lang/Long;"), (0, .methodref 7 19), (0, .nameAndType 20 21), (0, u "equals"), (0, u "(Ljava/lang/Object;)Z"), (0, .class_ 23), (0, u "com/example/spool/spool/storage/IndexEntryEqualsPinLaw"), (2, u "law"), (0, u "(JIJIJJ)Z")] 3

def k1m0 : Method := { name := "<init>", desc := "()V", sig := { parameters := [], returnType := none }, accessFlags := 1, code := none }
def k1c1 : Code := { maxStack := 7, maxLocals := 20, code := code, exceptionTable := #[], attributes := #[] }
def k1m1 : Method := { name := "law", desc := "(JIJIJJ)Z", sig := { parameters := [.long, .int, .long, .int, .long, .long], returnType := some .boolean }, accessFlags := 9, code := some k1c1 }
/-- com/example/spool/spool/storage/IndexEntryEqualsPinLaw -/
def k1 : Class := { plain "com/example/spool/spool/storage/IndexEntryEqualsPinLaw" (some 0) with
  accessFlags := 49
  interfaces := #[]
  cf := some (fileOf pool1 22 #[] #[{ accessFlags := 1, nameIndex := 5, descriptorIndex := 6, attributes := #[] }, { accessFlags := 9, nameIndex := 26, descriptorIndex := 27, attributes := #[] }] 49 2 #[] #[])
  fields := #[]
  methods := #[k1m0, k1m1]
  instanceTypes := #[]
  staticTypes := #[]
  resolved := Array.replicate 31 none
  statics := none }

def pool2 : Array CpInfo := pool [(1, .methodref 2 3), (0, .class_ 4), (0, .nameAndType 5 6), (0, u "java/lang/Object"), (0, u "<init>"), (0, u "()V"), (0, .fieldref 8 9), (0, .class_ 10), (0, .nameAndType 11 12), (0, u "com/example/spool/spool/storage/IndexEntry"), (0, u "logOffset"), (0, u "J"), (0, .fieldref 8 14), (0, .nameAndType 15 16), (0, u "size"), (0, u "I"), (0, .fieldref 8 18), (0, .nameAndType 19 12), (0, u "tagHash"), (27, u "(JIJ)V"), (6, u "equals"), (0, u "(Ljava/lang/Object;)Z")] 19

def k2c0 : Code := { maxStack := 3, maxLocals := 6, code := prog_20_method_1_code, exceptionTable := #[], attributes := #[] }
def k2m0 : Method := { name := "<init>", desc := "(JIJ)V", sig := { parameters := [.long, .int, .long], returnType := none }, accessFlags := 0, code := some k2c0 }
def k2c1 : Code := { maxStack := 4, maxLocals := 3, code := prog_20_method_6_code, exceptionTable := #[], attributes := #[] }
def k2m1 : Method := { name := "equals", desc := "(Ljava/lang/Object;)Z", sig := { parameters := [(.object "java/lang/Object")], returnType := some .boolean }, accessFlags := 1, code := some k2c1 }
/-- com/example/spool/spool/storage/IndexEntry -/
def k2 : Class := { plain "com/example/spool/spool/storage/IndexEntry" (some 0) with
  accessFlags := 49
  interfaces := #[]
  cf := some (fileOf pool2 8 #[] #[{ accessFlags := 0, nameIndex := 5, descriptorIndex := 47, attributes := #[] }, { accessFlags := 1, nameIndex := 54, descriptorIndex := 55, attributes := #[] }] 49 2 #[] #[{ accessFlags := 18, nameIndex := 11, descriptorIndex := 12, attributes := #[] }, { accessFlags := 18, nameIndex := 15, descriptorIndex := 16, attributes := #[] }, { accessFlags := 18, nameIndex := 19, descriptorIndex := 12, attributes := #[] }])
  fields := #[{ name := "logOffset", type := .long, accessFlags := 18, slot := 0, constantValue := 0 }, { name := "size", type := .int, accessFlags := 18, slot := 1, constantValue := 0 }, { name := "tagHash", type := .long, accessFlags := 18, slot := 2, constantValue := 0 }]
  methods := #[k2m0, k2m1]
  instanceTypes := #[.long, .int, .long]
  staticTypes := #[]
  resolved := Array.replicate 75 none
  statics := none }

def pool3 : Array CpInfo := pool [(1, .class_ 2), (0, u "java/io/Serializable"), (0, .class_ 4), (0, u "java/lang/Object")] 2

/-- java/io/Serializable -/
def k3 : Class := { plain "java/io/Serializable" (some 0) with
  accessFlags := 1537
  interfaces := #[]
  cf := some (fileOf pool3 1 #[] #[] 1537 3 #[] #[])
  fields := #[]
  methods := #[]
  instanceTypes := #[]
  staticTypes := #[]
  resolved := Array.replicate 7 none
  statics := none }

def pool4 : Array CpInfo := pool [(1, .methodref 2 3), (0, .class_ 4), (0, .nameAndType 5 6), (0, u "java/lang/Object"), (0, u "<init>"), (0, u "()V"), (1, .class_ 10), (1, u "java/lang/Number"), (2, .class_ 14), (0, u "java/io/Serializable"), (0, u "serialVersionUID"), (0, u "J")] 20

def k4c0 : Code := { maxStack := 1, maxLocals := 1, code := jdk_18_method_1_code, exceptionTable := #[], attributes := #[] }
def k4m0 : Method := { name := "<init>", desc := "()V", sig := { parameters := [], returnType := none }, accessFlags := 1, code := some k4c0 }
/-- java/lang/Number -/
def k4 : Class := { plain "java/lang/Number" (some 0) with
  accessFlags := 1057
  interfaces := #[3]
  cf := some (fileOf pool4 8 #[] #[{ accessFlags := 1, nameIndex := 5, descriptorIndex := 6, attributes := #[] }] 1057 2 #[13] #[{ accessFlags := 26, nameIndex := 15, descriptorIndex := 16, attributes := #[] }])
  fields := #[{ name := "serialVersionUID", type := .long, accessFlags := 26, slot := 0, constantValue := 0 }]
  methods := #[k4m0]
  instanceTypes := #[]
  staticTypes := #[.long]
  resolved := Array.replicate 37 none
  statics := none }

def pool5 : Array CpInfo := pool [(1, .class_ 2), (0, u "java/lang/Comparable"), (0, .class_ 4), (0, u "java/lang/Object")] 7

/-- java/lang/Comparable -/
def k5 : Class := { plain "java/lang/Comparable" (some 0) with
  accessFlags := 1537
  interfaces := #[]
  cf := some (fileOf pool5 1 #[] #[] 1537 3 #[] #[])
  fields := #[]
  methods := #[]
  instanceTypes := #[]
  staticTypes := #[]
  resolved := Array.replicate 12 none
  statics := none }

def pool6 : Array CpInfo := pool [(1, .class_ 2), (0, u "java/lang/constant/Constable"), (0, .class_ 4), (0, u "java/lang/Object")] 6

/-- java/lang/constant/Constable -/
def k6 : Class := { plain "java/lang/constant/Constable" (some 0) with
  accessFlags := 1537
  interfaces := #[]
  cf := some (fileOf pool6 1 #[] #[] 1537 3 #[] #[])
  fields := #[]
  methods := #[]
  instanceTypes := #[]
  staticTypes := #[]
  resolved := Array.replicate 11 none
  statics := none }

def pool7 : Array CpInfo := pool [(1, .class_ 2), (0, u "java/lang/constant/ConstantDesc"), (0, .class_ 4), (0, u "java/lang/Object")] 32

/-- java/lang/constant/ConstantDesc -/
def k7 : Class := { plain "java/lang/constant/ConstantDesc" (some 0) with
  accessFlags := 1537
  interfaces := #[]
  cf := some (fileOf pool7 1 #[] #[] 1537 3 #[] #[])
  fields := #[]
  methods := #[]
  instanceTypes := #[]
  staticTypes := #[]
  resolved := Array.replicate 37 none
  statics := none }

def pool8 : Array CpInfo := pool [(1, .class_ 2), (0, u "java/lang/Long"), (55, .nameAndType 59 60), (0, u "<init>"), (0, u "()V"), (24, u "valueOf"), (143, u "(J)Ljava/lang/Long;"), (0, .long 18446744073709551488), (1, .long 127), (1, .fieldref 235 236), (0, .class_ 237), (0, .nameAndType 238 239), (0, u "java/lang/Long$LongCache"), (0, u "cache"), (0, u "[Ljava/lang/Long;"), (0, .methodref 1 241), (0, .nameAndType 59 242), (0, u "(J)V"), (27, .methodref 271 58), (0, .class_ 272), (0, u "java/lang/Number"), (0, .fieldref 1 274), (0, .nameAndType 275 276), (0, u "value"), (0, u "J"), (84, u "TYPE"), (0, u "Ljava/lang/Class;"), (0, .class_ 364), (0, u "java/lang/Comparable"), (0, .class_ 366), (0, u "java/lang/constant/Constable"), (0, .class_ 368), (0, u "java/lang/constant/ConstantDesc"), (0, u "MIN_VALUE"), (1, u "MAX_VALUE"), (4, u "SIZE"), (0, u "I"), (1, u "BYTES"), (1, u "serialVersionUID")] 142

def k8c0 : Code := { maxStack := 4, maxLocals := 3, code := jdk_35_method_24_code, exceptionTable := #[], attributes := #[] }
def k8m0 : Method := { name := "valueOf", desc := "(J)Ljava/lang/Long;", sig := { parameters := [.long], returnType := some (.object "java/lang/Long") }, accessFlags := 9, code := some k8c0 }
def k8c1 : Code := { maxStack := 3, maxLocals := 3, code := jdk_35_method_26_code, exceptionTable := #[], attributes := #[] }
def k8m1 : Method := { name := "<init>", desc := "(J)V", sig := { parameters := [.long], returnType := none }, accessFlags := 1, code := some k8c1 }
/-- java/lang/Long -/
def k8 : Class := { plain "java/lang/Long" (some 4) with
  accessFlags := 49
  interfaces := #[5, 6, 7]
  cf := some (fileOf pool8 1 #[.nestMembers #[235]] #[{ accessFlags := 9, nameIndex := 85, descriptorIndex := 229, attributes := #[] }, { accessFlags := 1, nameIndex := 59, descriptorIndex := 242, attributes := #[] }] 49 271 #[363, 365, 367] #[{ accessFlags := 25, nameIndex := 369, descriptorIndex := 276, attributes := #[] }, { accessFlags := 25, nameIndex := 371, descriptorIndex := 276, attributes := #[] }, { accessFlags := 25, nameIndex := 361, descriptorIndex := 362, attributes := #[] }, { accessFlags := 18, nameIndex := 275, descriptorIndex := 276, attributes := #[] }, { accessFlags := 25, nameIndex := 376, descriptorIndex := 377, attributes := #[] }, { accessFlags := 25, nameIndex := 379, descriptorIndex := 377, attributes := #[] }, { accessFlags := 26, nameIndex := 381, descriptorIndex := 276, attributes := #[] }])
  fields := #[{ name := "MIN_VALUE", type := .long, accessFlags := 25, slot := 0, constantValue := 0 }, { name := "MAX_VALUE", type := .long, accessFlags := 25, slot := 1, constantValue := 0 }, { name := "TYPE", type := (.object "java/lang/Class"), accessFlags := 25, slot := 2, constantValue := 0 }, { name := "value", type := .long, accessFlags := 18, slot := 0, constantValue := 0 }, { name := "SIZE", type := .int, accessFlags := 25, slot := 3, constantValue := 0 }, { name := "BYTES", type := .int, accessFlags := 25, slot := 4, constantValue := 0 }, { name := "serialVersionUID", type := .long, accessFlags := 26, slot := 5, constantValue := 0 }]
  methods := #[k8m0, k8m1]
  instanceTypes := #[.long]
  staticTypes := #[.long, .long, (.object "java/lang/Class"), .int, .int, .long]
  resolved := Array.replicate 524 none
  statics := none }

def pool9 : Array CpInfo := pool [(2, .class_ 4), (1, u "java/lang/Object"), (0, u "<init>"), (0, u "()V"), (0, .class_ 8), (0, u "java/lang/Long"), (7, .class_ 18), (1, u "java/lang/Long$LongCache"), (0, u "$assertionsDisabled"), (0, u "Z"), (8, u "archivedCache"), (0, u "[Ljava/lang/Long;"), (7, u "cache")] 24

def k9m0 : Method := { name := "<init>", desc := "()V", sig := { parameters := [], returnType := none }, accessFlags := 2, code := none }
/-- java/lang/Long$LongCache -/
def k9 : Class := { plain "java/lang/Long$LongCache" (some 0) with
  accessFlags := 48
  interfaces := #[]
  cf := some (fileOf pool9 16 #[.nestHost 7] #[{ accessFlags := 2, nameIndex := 5, descriptorIndex := 6, attributes := #[] }] 48 2 #[] #[{ accessFlags := 24, nameIndex := 38, descriptorIndex := 30, attributes := #[] }, { accessFlags := 8, nameIndex := 29, descriptorIndex := 30, attributes := #[] }, { accessFlags := 4120, nameIndex := 19, descriptorIndex := 20, attributes := #[] }])
  fields := #[{ name := "cache", type := (.array (.object "java/lang/Long")), accessFlags := 24, slot := 0, constantValue := 0 }, { name := "archivedCache", type := (.array (.object "java/lang/Long")), accessFlags := 8, slot := 1, constantValue := 0 }, { name := "$assertionsDisabled", type := .boolean, accessFlags := 4120, slot := 2, constantValue := 0 }]
  methods := #[k9m0]
  instanceTypes := #[]
  staticTypes := #[(.array (.object "java/lang/Long")), (.array (.object "java/lang/Long")), .boolean]
  resolved := Array.replicate 63 none
  statics := some 0 }

def pool10 : Array CpInfo := pool [(1, u "java/lang/Cloneable"), (0, .class_ 1), (0, u "java/lang/Object"), (0, .class_ 3)] 3

/-- java/lang/Cloneable -/
def k10 : Class := { plain "java/lang/Cloneable" (some 0) with
  accessFlags := 1537
  interfaces := #[]
  cf := some (fileOf pool10 2 #[] #[] 1537 4 #[] #[])
  fields := #[]
  methods := #[]
  instanceTypes := #[]
  staticTypes := #[]
  resolved := Array.replicate 8 none
  statics := none }

/-- the primitive byte -/
def k11 : Class := { plain "byte" none with kind := .primitive 'B', accessFlags := 0x411 }
/-- [B -/
def k12 : Class := { plain "[B" (some 0) with kind := .array 11 .byte, interfaces := #[10, 3], accessFlags := 1041 }

/-- the primitive int -/
def k13 : Class := { plain "int" none with kind := .primitive 'I', accessFlags := 0x411 }
/-- [I -/
def k14 : Class := { plain "[I" (some 0) with kind := .array 13 .int, interfaces := #[10, 3], accessFlags := 1041 }

/-- [Ljava/lang/Long; -/
def k15 : Class := { plain "[Ljava/lang/Long;" (some 0) with kind := .array 8 (.object "java/lang/Long"), interfaces := #[10, 3], accessFlags := 1041 }

def heap : Heap := #[{ cls := 9, slots := #[.ref 1, .null, .int 0], vm := .statics 9 },
  { cls := 15, slots := #[.ref 2, .ref 3, .ref 4, .ref 5, .ref 6, .ref 7, .ref 8, .ref 9, .ref 10, .ref 11, .ref 12, .ref 13, .ref 14, .ref 15, .ref 16, .ref 17, .ref 18, .ref 19, .ref 20, .ref 21, .ref 22, .ref 23, .ref 24, .ref 25, .ref 26, .ref 27, .ref 28, .ref 29, .ref 30, .ref 31, .ref 32, .ref 33, .ref 34, .ref 35, .ref 36, .ref 37, .ref 38, .ref 39, .ref 40, .ref 41, .ref 42, .ref 43, .ref 44, .ref 45, .ref 46, .ref 47, .ref 48, .ref 49, .ref 50, .ref 51, .ref 52, .ref 53, .ref 54, .ref 55, .ref 56, .ref 57, .ref 58, .ref 59, .ref 60, .ref 61, .ref 62, .ref 63, .ref 64, .ref 65, .ref 66, .ref 67, .ref 68, .ref 69, .ref 70, .ref 71, .ref 72, .ref 73, .ref 74, .ref 75, .ref 76, .ref 77, .ref 78, .ref 79, .ref 80, .ref 81, .ref 82, .ref 83, .ref 84, .ref 85, .ref 86, .ref 87, .ref 88, .ref 89, .ref 90, .ref 91, .ref 92, .ref 93, .ref 94, .ref 95, .ref 96, .ref 97, .ref 98, .ref 99, .ref 100, .ref 101, .ref 102, .ref 103, .ref 104, .ref 105, .ref 106, .ref 107, .ref 108, .ref 109, .ref 110, .ref 111, .ref 112, .ref 113, .ref 114, .ref 115, .ref 116, .ref 117, .ref 118, .ref 119, .ref 120, .ref 121, .ref 122, .ref 123, .ref 124, .ref 125, .ref 126, .ref 127, .ref 128, .ref 129, .ref 130, .ref 131, .ref 132, .ref 133, .ref 134, .ref 135, .ref 136, .ref 137, .ref 138, .ref 139, .ref 140, .ref 141, .ref 142, .ref 143, .ref 144, .ref 145, .ref 146, .ref 147, .ref 148, .ref 149, .ref 150, .ref 151, .ref 152, .ref 153, .ref 154, .ref 155, .ref 156, .ref 157, .ref 158, .ref 159, .ref 160, .ref 161, .ref 162, .ref 163, .ref 164, .ref 165, .ref 166, .ref 167, .ref 168, .ref 169, .ref 170, .ref 171, .ref 172, .ref 173, .ref 174, .ref 175, .ref 176, .ref 177, .ref 178, .ref 179, .ref 180, .ref 181, .ref 182, .ref 183, .ref 184, .ref 185, .ref 186, .ref 187, .ref 188, .ref 189, .ref 190, .ref 191, .ref 192, .ref 193, .ref 194, .ref 195, .ref 196, .ref 197, .ref 198, .ref 199, .ref 200, .ref 201, .ref 202, .ref 203, .ref 204, .ref 205, .ref 206, .ref 207, .ref 208, .ref 209, .ref 210, .ref 211, .ref 212, .ref 213, .ref 214, .ref 215, .ref 216, .ref 217, .ref 218, .ref 219, .ref 220, .ref 221, .ref 222, .ref 223, .ref 224, .ref 225, .ref 226, .ref 227, .ref 228, .ref 229, .ref 230, .ref 231, .ref 232, .ref 233, .ref 234, .ref 235, .ref 236, .ref 237, .ref 238, .ref 239, .ref 240, .ref 241, .ref 242, .ref 243, .ref 244, .ref 245, .ref 246, .ref 247, .ref 248, .ref 249, .ref 250, .ref 251, .ref 252, .ref 253, .ref 254, .ref 255, .ref 256, .ref 257], vm := .none },
  { cls := 8, slots := #[.long (-128)], vm := .none },
  { cls := 8, slots := #[.long (-127)], vm := .none },
  { cls := 8, slots := #[.long (-126)], vm := .none },
  { cls := 8, slots := #[.long (-125)], vm := .none },
  { cls := 8, slots := #[.long (-124)], vm := .none },
  { cls := 8, slots := #[.long (-123)], vm := .none },
  { cls := 8, slots := #[.long (-122)], vm := .none },
  { cls := 8, slots := #[.long (-121)], vm := .none },
  { cls := 8, slots := #[.long (-120)], vm := .none },
  { cls := 8, slots := #[.long (-119)], vm := .none },
  { cls := 8, slots := #[.long (-118)], vm := .none },
  { cls := 8, slots := #[.long (-117)], vm := .none },
  { cls := 8, slots := #[.long (-116)], vm := .none },
  { cls := 8, slots := #[.long (-115)], vm := .none },
  { cls := 8, slots := #[.long (-114)], vm := .none },
  { cls := 8, slots := #[.long (-113)], vm := .none },
  { cls := 8, slots := #[.long (-112)], vm := .none },
  { cls := 8, slots := #[.long (-111)], vm := .none },
  { cls := 8, slots := #[.long (-110)], vm := .none },
  { cls := 8, slots := #[.long (-109)], vm := .none },
  { cls := 8, slots := #[.long (-108)], vm := .none },
  { cls := 8, slots := #[.long (-107)], vm := .none },
  { cls := 8, slots := #[.long (-106)], vm := .none },
  { cls := 8, slots := #[.long (-105)], vm := .none },
  { cls := 8, slots := #[.long (-104)], vm := .none },
  { cls := 8, slots := #[.long (-103)], vm := .none },
  { cls := 8, slots := #[.long (-102)], vm := .none },
  { cls := 8, slots := #[.long (-101)], vm := .none },
  { cls := 8, slots := #[.long (-100)], vm := .none },
  { cls := 8, slots := #[.long (-99)], vm := .none },
  { cls := 8, slots := #[.long (-98)], vm := .none },
  { cls := 8, slots := #[.long (-97)], vm := .none },
  { cls := 8, slots := #[.long (-96)], vm := .none },
  { cls := 8, slots := #[.long (-95)], vm := .none },
  { cls := 8, slots := #[.long (-94)], vm := .none },
  { cls := 8, slots := #[.long (-93)], vm := .none },
  { cls := 8, slots := #[.long (-92)], vm := .none },
  { cls := 8, slots := #[.long (-91)], vm := .none },
  { cls := 8, slots := #[.long (-90)], vm := .none },
  { cls := 8, slots := #[.long (-89)], vm := .none },
  { cls := 8, slots := #[.long (-88)], vm := .none },
  { cls := 8, slots := #[.long (-87)], vm := .none },
  { cls := 8, slots := #[.long (-86)], vm := .none },
  { cls := 8, slots := #[.long (-85)], vm := .none },
  { cls := 8, slots := #[.long (-84)], vm := .none },
  { cls := 8, slots := #[.long (-83)], vm := .none },
  { cls := 8, slots := #[.long (-82)], vm := .none },
  { cls := 8, slots := #[.long (-81)], vm := .none },
  { cls := 8, slots := #[.long (-80)], vm := .none },
  { cls := 8, slots := #[.long (-79)], vm := .none },
  { cls := 8, slots := #[.long (-78)], vm := .none },
  { cls := 8, slots := #[.long (-77)], vm := .none },
  { cls := 8, slots := #[.long (-76)], vm := .none },
  { cls := 8, slots := #[.long (-75)], vm := .none },
  { cls := 8, slots := #[.long (-74)], vm := .none },
  { cls := 8, slots := #[.long (-73)], vm := .none },
  { cls := 8, slots := #[.long (-72)], vm := .none },
  { cls := 8, slots := #[.long (-71)], vm := .none },
  { cls := 8, slots := #[.long (-70)], vm := .none },
  { cls := 8, slots := #[.long (-69)], vm := .none },
  { cls := 8, slots := #[.long (-68)], vm := .none },
  { cls := 8, slots := #[.long (-67)], vm := .none },
  { cls := 8, slots := #[.long (-66)], vm := .none },
  { cls := 8, slots := #[.long (-65)], vm := .none },
  { cls := 8, slots := #[.long (-64)], vm := .none },
  { cls := 8, slots := #[.long (-63)], vm := .none },
  { cls := 8, slots := #[.long (-62)], vm := .none },
  { cls := 8, slots := #[.long (-61)], vm := .none },
  { cls := 8, slots := #[.long (-60)], vm := .none },
  { cls := 8, slots := #[.long (-59)], vm := .none },
  { cls := 8, slots := #[.long (-58)], vm := .none },
  { cls := 8, slots := #[.long (-57)], vm := .none },
  { cls := 8, slots := #[.long (-56)], vm := .none },
  { cls := 8, slots := #[.long (-55)], vm := .none },
  { cls := 8, slots := #[.long (-54)], vm := .none },
  { cls := 8, slots := #[.long (-53)], vm := .none },
  { cls := 8, slots := #[.long (-52)], vm := .none },
  { cls := 8, slots := #[.long (-51)], vm := .none },
  { cls := 8, slots := #[.long (-50)], vm := .none },
  { cls := 8, slots := #[.long (-49)], vm := .none },
  { cls := 8, slots := #[.long (-48)], vm := .none },
  { cls := 8, slots := #[.long (-47)], vm := .none },
  { cls := 8, slots := #[.long (-46)], vm := .none },
  { cls := 8, slots := #[.long (-45)], vm := .none },
  { cls := 8, slots := #[.long (-44)], vm := .none },
  { cls := 8, slots := #[.long (-43)], vm := .none },
  { cls := 8, slots := #[.long (-42)], vm := .none },
  { cls := 8, slots := #[.long (-41)], vm := .none },
  { cls := 8, slots := #[.long (-40)], vm := .none },
  { cls := 8, slots := #[.long (-39)], vm := .none },
  { cls := 8, slots := #[.long (-38)], vm := .none },
  { cls := 8, slots := #[.long (-37)], vm := .none },
  { cls := 8, slots := #[.long (-36)], vm := .none },
  { cls := 8, slots := #[.long (-35)], vm := .none },
  { cls := 8, slots := #[.long (-34)], vm := .none },
  { cls := 8, slots := #[.long (-33)], vm := .none },
  { cls := 8, slots := #[.long (-32)], vm := .none },
  { cls := 8, slots := #[.long (-31)], vm := .none },
  { cls := 8, slots := #[.long (-30)], vm := .none },
  { cls := 8, slots := #[.long (-29)], vm := .none },
  { cls := 8, slots := #[.long (-28)], vm := .none },
  { cls := 8, slots := #[.long (-27)], vm := .none },
  { cls := 8, slots := #[.long (-26)], vm := .none },
  { cls := 8, slots := #[.long (-25)], vm := .none },
  { cls := 8, slots := #[.long (-24)], vm := .none },
  { cls := 8, slots := #[.long (-23)], vm := .none },
  { cls := 8, slots := #[.long (-22)], vm := .none },
  { cls := 8, slots := #[.long (-21)], vm := .none },
  { cls := 8, slots := #[.long (-20)], vm := .none },
  { cls := 8, slots := #[.long (-19)], vm := .none },
  { cls := 8, slots := #[.long (-18)], vm := .none },
  { cls := 8, slots := #[.long (-17)], vm := .none },
  { cls := 8, slots := #[.long (-16)], vm := .none },
  { cls := 8, slots := #[.long (-15)], vm := .none },
  { cls := 8, slots := #[.long (-14)], vm := .none },
  { cls := 8, slots := #[.long (-13)], vm := .none },
  { cls := 8, slots := #[.long (-12)], vm := .none },
  { cls := 8, slots := #[.long (-11)], vm := .none },
  { cls := 8, slots := #[.long (-10)], vm := .none },
  { cls := 8, slots := #[.long (-9)], vm := .none },
  { cls := 8, slots := #[.long (-8)], vm := .none },
  { cls := 8, slots := #[.long (-7)], vm := .none },
  { cls := 8, slots := #[.long (-6)], vm := .none },
  { cls := 8, slots := #[.long (-5)], vm := .none },
  { cls := 8, slots := #[.long (-4)], vm := .none },
  { cls := 8, slots := #[.long (-3)], vm := .none },
  { cls := 8, slots := #[.long (-2)], vm := .none },
  { cls := 8, slots := #[.long (-1)], vm := .none },
  { cls := 8, slots := #[.long (0)], vm := .none },
  { cls := 8, slots := #[.long (1)], vm := .none },
  { cls := 8, slots := #[.long (2)], vm := .none },
  { cls := 8, slots := #[.long (3)], vm := .none },
  { cls := 8, slots := #[.long (4)], vm := .none },
  { cls := 8, slots := #[.long (5)], vm := .none },
  { cls := 8, slots := #[.long (6)], vm := .none },
  { cls := 8, slots := #[.long (7)], vm := .none },
  { cls := 8, slots := #[.long (8)], vm := .none },
  { cls := 8, slots := #[.long (9)], vm := .none },
  { cls := 8, slots := #[.long (10)], vm := .none },
  { cls := 8, slots := #[.long (11)], vm := .none },
  { cls := 8, slots := #[.long (12)], vm := .none },
  { cls := 8, slots := #[.long (13)], vm := .none },
  { cls := 8, slots := #[.long (14)], vm := .none },
  { cls := 8, slots := #[.long (15)], vm := .none },
  { cls := 8, slots := #[.long (16)], vm := .none },
  { cls := 8, slots := #[.long (17)], vm := .none },
  { cls := 8, slots := #[.long (18)], vm := .none },
  { cls := 8, slots := #[.long (19)], vm := .none },
  { cls := 8, slots := #[.long (20)], vm := .none },
  { cls := 8, slots := #[.long (21)], vm := .none },
  { cls := 8, slots := #[.long (22)], vm := .none },
  { cls := 8, slots := #[.long (23)], vm := .none },
  { cls := 8, slots := #[.long (24)], vm := .none },
  { cls := 8, slots := #[.long (25)], vm := .none },
  { cls := 8, slots := #[.long (26)], vm := .none },
  { cls := 8, slots := #[.long (27)], vm := .none },
  { cls := 8, slots := #[.long (28)], vm := .none },
  { cls := 8, slots := #[.long (29)], vm := .none },
  { cls := 8, slots := #[.long (30)], vm := .none },
  { cls := 8, slots := #[.long (31)], vm := .none },
  { cls := 8, slots := #[.long (32)], vm := .none },
  { cls := 8, slots := #[.long (33)], vm := .none },
  { cls := 8, slots := #[.long (34)], vm := .none },
  { cls := 8, slots := #[.long (35)], vm := .none },
  { cls := 8, slots := #[.long (36)], vm := .none },
  { cls := 8, slots := #[.long (37)], vm := .none },
  { cls := 8, slots := #[.long (38)], vm := .none },
  { cls := 8, slots := #[.long (39)], vm := .none },
  { cls := 8, slots := #[.long (40)], vm := .none },
  { cls := 8, slots := #[.long (41)], vm := .none },
  { cls := 8, slots := #[.long (42)], vm := .none },
  { cls := 8, slots := #[.long (43)], vm := .none },
  { cls := 8, slots := #[.long (44)], vm := .none },
  { cls := 8, slots := #[.long (45)], vm := .none },
  { cls := 8, slots := #[.long (46)], vm := .none },
  { cls := 8, slots := #[.long (47)], vm := .none },
  { cls := 8, slots := #[.long (48)], vm := .none },
  { cls := 8, slots := #[.long (49)], vm := .none },
  { cls := 8, slots := #[.long (50)], vm := .none },
  { cls := 8, slots := #[.long (51)], vm := .none },
  { cls := 8, slots := #[.long (52)], vm := .none },
  { cls := 8, slots := #[.long (53)], vm := .none },
  { cls := 8, slots := #[.long (54)], vm := .none },
  { cls := 8, slots := #[.long (55)], vm := .none },
  { cls := 8, slots := #[.long (56)], vm := .none },
  { cls := 8, slots := #[.long (57)], vm := .none },
  { cls := 8, slots := #[.long (58)], vm := .none },
  { cls := 8, slots := #[.long (59)], vm := .none },
  { cls := 8, slots := #[.long (60)], vm := .none },
  { cls := 8, slots := #[.long (61)], vm := .none },
  { cls := 8, slots := #[.long (62)], vm := .none },
  { cls := 8, slots := #[.long (63)], vm := .none },
  { cls := 8, slots := #[.long (64)], vm := .none },
  { cls := 8, slots := #[.long (65)], vm := .none },
  { cls := 8, slots := #[.long (66)], vm := .none },
  { cls := 8, slots := #[.long (67)], vm := .none },
  { cls := 8, slots := #[.long (68)], vm := .none },
  { cls := 8, slots := #[.long (69)], vm := .none },
  { cls := 8, slots := #[.long (70)], vm := .none },
  { cls := 8, slots := #[.long (71)], vm := .none },
  { cls := 8, slots := #[.long (72)], vm := .none },
  { cls := 8, slots := #[.long (73)], vm := .none },
  { cls := 8, slots := #[.long (74)], vm := .none },
  { cls := 8, slots := #[.long (75)], vm := .none },
  { cls := 8, slots := #[.long (76)], vm := .none },
  { cls := 8, slots := #[.long (77)], vm := .none },
  { cls := 8, slots := #[.long (78)], vm := .none },
  { cls := 8, slots := #[.long (79)], vm := .none },
  { cls := 8, slots := #[.long (80)], vm := .none },
  { cls := 8, slots := #[.long (81)], vm := .none },
  { cls := 8, slots := #[.long (82)], vm := .none },
  { cls := 8, slots := #[.long (83)], vm := .none },
  { cls := 8, slots := #[.long (84)], vm := .none },
  { cls := 8, slots := #[.long (85)], vm := .none },
  { cls := 8, slots := #[.long (86)], vm := .none },
  { cls := 8, slots := #[.long (87)], vm := .none },
  { cls := 8, slots := #[.long (88)], vm := .none },
  { cls := 8, slots := #[.long (89)], vm := .none },
  { cls := 8, slots := #[.long (90)], vm := .none },
  { cls := 8, slots := #[.long (91)], vm := .none },
  { cls := 8, slots := #[.long (92)], vm := .none },
  { cls := 8, slots := #[.long (93)], vm := .none },
  { cls := 8, slots := #[.long (94)], vm := .none },
  { cls := 8, slots := #[.long (95)], vm := .none },
  { cls := 8, slots := #[.long (96)], vm := .none },
  { cls := 8, slots := #[.long (97)], vm := .none },
  { cls := 8, slots := #[.long (98)], vm := .none },
  { cls := 8, slots := #[.long (99)], vm := .none },
  { cls := 8, slots := #[.long (100)], vm := .none },
  { cls := 8, slots := #[.long (101)], vm := .none },
  { cls := 8, slots := #[.long (102)], vm := .none },
  { cls := 8, slots := #[.long (103)], vm := .none },
  { cls := 8, slots := #[.long (104)], vm := .none },
  { cls := 8, slots := #[.long (105)], vm := .none },
  { cls := 8, slots := #[.long (106)], vm := .none },
  { cls := 8, slots := #[.long (107)], vm := .none },
  { cls := 8, slots := #[.long (108)], vm := .none },
  { cls := 8, slots := #[.long (109)], vm := .none },
  { cls := 8, slots := #[.long (110)], vm := .none },
  { cls := 8, slots := #[.long (111)], vm := .none },
  { cls := 8, slots := #[.long (112)], vm := .none },
  { cls := 8, slots := #[.long (113)], vm := .none },
  { cls := 8, slots := #[.long (114)], vm := .none },
  { cls := 8, slots := #[.long (115)], vm := .none },
  { cls := 8, slots := #[.long (116)], vm := .none },
  { cls := 8, slots := #[.long (117)], vm := .none },
  { cls := 8, slots := #[.long (118)], vm := .none },
  { cls := 8, slots := #[.long (119)], vm := .none },
  { cls := 8, slots := #[.long (120)], vm := .none },
  { cls := 8, slots := #[.long (121)], vm := .none },
  { cls := 8, slots := #[.long (122)], vm := .none },
  { cls := 8, slots := #[.long (123)], vm := .none },
  { cls := 8, slots := #[.long (124)], vm := .none },
  { cls := 8, slots := #[.long (125)], vm := .none },
  { cls := 8, slots := #[.long (126)], vm := .none },
  { cls := 8, slots := #[.long (127)], vm := .none }]
def classes : Array Class := #[k0, k1, k2, k3, k4, k5, k6, k7, k8, k9, k10, k11, k12, k13, k14, k15]
def interned : List (Array UInt16 × Addr) := []
def slotsUsed : Nat := 515
def theMethod : MethodId := ⟨1, 1⟩
def args0 : Array Value := #[.long 5, .int 6, .long 7, .int 16, .long 9, .long 10]
def aboutOver (below : List Frame) : State where
  vm := { classes := classes, interned := interned.toArray }
  heap := heap
  slotsUsed := slotsUsed
  threads := #[{ frames := .invoking theMethod args0 :: below }]
def below0 : List Frame := [.native { method := ⟨0, 0⟩, args := #[] }]
def about1 : State := aboutOver below0
def p0 : Program := .bare "" "" ""
def e0 : Env := launch0.env 0 0 0
theorem w_frames : about1.frames = Frame.invoking theMethod args0 :: below0 := rfl
set_option maxRecDepth 65536 in
theorem w_args : argsFit about1.vm theMethod args0 = true := by decide +kernel
set_option maxRecDepth 65536 in
theorem w_heap : heapFits about1 = true := by decide +kernel
set_option maxRecDepth 65536 in
theorem w_runnable : about1.curStatus? = some .runnable := by decide +kernel
set_option maxRecDepth 65536 in
theorem w_alone : about1.alone = true := by decide +kernel
set_option maxRecDepth 65536 in
theorem w_named : about1.methodNamed? x = some theMethod := by decide +kernel
set_option maxRecDepth 65536 in
theorem w_hears : about1.hears theMethod below0 = true := by decide +kernel
set_option maxRecDepth 65536 in
theorem w_ripe : about1.ripe theMethod args0 below0 = true := by decide +kernel
theorem w_running : about1.status = .running := rfl
set_option maxRecDepth 65536 in
theorem w_room : about1.hasRoom e0.platform room_1 = true :=
  launch0.hasRoom_least _ room_1 (by decide +kernel) (by decide +kernel) (by decide +kernel) (by decide +kernel) (by decide +kernel) (by decide +kernel)
theorem allAtoms_all (ts : List Jvm.Cond) (a : Array Jvm.Value) (st : Jvm.State) : (allAtoms ts).before a st = ts.all (fun c => c.before a st) := by
  induction ts with
  | nil => rfl
  | cons c t ih =>
    show (Jvm.Cond.and c (allAtoms t)).before a st = _
    rw [Jvm.Cond.before_and, ih, List.all_cons]
def words1 : List Jvm.Cond := Jvm.Cond.code x code maxLocals ret :: tables_1
/-- a 'code' word, met by the world's own term for the bytes: nothing is compared byte by byte -/
theorem code_word {y : MethodName} {bytes : ByteArray} {mx : Nat} {rt : Option FieldType} {a : Array Value} {s : State} {m : MethodId} {meth : Method} {c : Code} (h1 : s.methodNamed? y = some m) (h2 : s.vm.method? m = some meth) (h3 : meth.code = some c) (h4 : c.code = bytes)
    (h5 : (c.maxLocals == mx && c.exceptionTable.isEmpty && decide (c.maxStack ≤ mostOperands) && decide (meth.sig.returnType = rt) && !meth.locks && decide (parseMethodDescriptor y.desc = some meth.sig)) = true) : (Jvm.Cond.code y bytes mx rt).before a s = true := by
  simp only [Bool.and_eq_true, beq_iff_eq, Bool.not_eq_true', decide_eq_true_eq] at h5
  obtain ⟨⟨⟨⟨⟨g1, g2⟩, g3⟩, g4⟩, g5⟩, g6⟩ := h5
  simp [Cond.before, Cond.holds, Cond.value, h1, h2, h3, h4, g1, g2, g3, g4, g5, g6]
def isCode : Jvm.Cond → Bool
  | .code _ _ _ _ => true
  | _ => false
theorem all_split {L : List Jvm.Cond} {P : Jvm.Cond → Bool} (h1 : L.all (fun c => isCode c || P c) = true) (h2 : ∀ c ∈ L.filter isCode, P c = true) : L.all P = true := by
  refine List.all_eq_true.mpr fun c hc => ?_
  have h := List.all_eq_true.mp h1 c hc
  rcases Bool.eq_false_or_eq_true (isCode c) with hi | hi
  · exact h2 c (List.mem_filter.mpr ⟨hc, hi⟩)
  · simpa [hi] using h
set_option maxRecDepth 65536 in
theorem w_c0 : (Jvm.Cond.code x code maxLocals ret).before args0 about1 = true := code_word (m := ⟨1, 1⟩) (meth := k1m1) (c := k1c1) (by decide +kernel) rfl rfl rfl (by decide +kernel)
set_option maxRecDepth 65536 in
theorem w_c1 : (Jvm.Cond.code ({ cls := "com/example/spool/spool/storage/IndexEntry", name := "<init>", desc := "(JIJ)V" } : Jvm.MethodName) prog_20_method_1_code (6 : Nat) (Option.none : Option Jvm.ClassFile.FieldType)).before args0 about1 = true := code_word (m := ⟨2, 0⟩) (meth := k2m0) (c := k2c0) (by decide +kernel) rfl rfl rfl (by decide +kernel)
set_option maxRecDepth 65536 in
theorem w_c2 : (Jvm.Cond.code ({ cls := "java/lang/Object", name := "<init>", desc := "()V" } : Jvm.MethodName) object_method_1_code (1 : Nat) (Option.none : Option Jvm.ClassFile.FieldType)).before args0 about1 = true := code_word (m := ⟨0, 0⟩) (meth := k0m0) (c := k0c0) (by decide +kernel) rfl rfl rfl (by decide +kernel)
set_option maxRecDepth 65536 in
theorem w_c3 : (Jvm.Cond.code ({ cls := "java/lang/Long", name := "valueOf", desc := "(J)Ljava/lang/Long;" } : Jvm.MethodName) jdk_35_method_24_code (3 : Nat) (Option.some (Jvm.ClassFile.FieldType.object "java/lang/Long"))).before args0 about1 = true := code_word (m := ⟨8, 0⟩) (meth := k8m0) (c := k8c0) (by decide +kernel) rfl rfl rfl (by decide +kernel)
set_option maxRecDepth 65536 in
theorem w_c4 : (Jvm.Cond.code ({ cls := "com/example/spool/spool/storage/IndexEntry", name := "equals", desc := "(Ljava/lang/Object;)Z" } : Jvm.MethodName) prog_20_method_6_code (3 : Nat) (Option.some Jvm.ClassFile.FieldType.boolean)).before args0 about1 = true := code_word (m := ⟨2, 1⟩) (meth := k2m1) (c := k2c1) (by decide +kernel) rfl rfl rfl (by decide +kernel)
set_option maxRecDepth 65536 in
theorem w_c5 : (Jvm.Cond.code ({ cls := "java/lang/Long", name := "<init>", desc := "(J)V" } : Jvm.MethodName) jdk_35_method_26_code (3 : Nat) (Option.none : Option Jvm.ClassFile.FieldType)).before args0 about1 = true := code_word (m := ⟨8, 1⟩) (meth := k8m1) (c := k8c1) (by decide +kernel) rfl rfl rfl (by decide +kernel)
set_option maxRecDepth 65536 in
theorem w_c6 : (Jvm.Cond.code ({ cls := "java/lang/Number", name := "<init>", desc := "()V" } : Jvm.MethodName) jdk_18_method_1_code (1 : Nat) (Option.none : Option Jvm.ClassFile.FieldType)).before args0 about1 = true := code_word (m := ⟨4, 0⟩) (meth := k4m0) (c := k4c0) (by decide +kernel) rfl rfl rfl (by decide +kernel)
def codes1 : List Jvm.Cond := [Jvm.Cond.code x code maxLocals ret, Jvm.Cond.code ({ cls := "com/example/spool/spool/storage/IndexEntry", name := "<init>", desc := "(JIJ)V" } : Jvm.MethodName) prog_20_method_1_code (6 : Nat) (Option.none : Option Jvm.ClassFile.FieldType), Jvm.Cond.code ({ cls := "java/lang/Object", name := "<init>", desc := "()V" } : Jvm.MethodName) object_method_1_code (1 : Nat) (Option.none : Option Jvm.ClassFile.FieldType), Jvm.Cond.code ({ cls := "java/lang/Long", name := "valueOf", desc := "(J)Ljava/lang/Long;" } : Jvm.MethodName) jdk_35_method_24_code (3 : Nat) (Option.some (Jvm.ClassFile.FieldType.object "java/lang/Long")), Jvm.Cond.code ({ cls := "com/example/spool/spool/storage/IndexEntry", name := "equals", desc := "(Ljava/lang/Object;)Z" } : Jvm.MethodName) prog_20_method_6_code (3 : Nat) (Option.some Jvm.ClassFile.FieldType.boolean), Jvm.Cond.code ({ cls := "java/lang/Long", name := "<init>", desc := "(J)V" } : Jvm.MethodName) jdk_35_method_26_code (3 : Nat) (Option.none : Option Jvm.ClassFile.FieldType), Jvm.Cond.code ({ cls := "java/lang/Number", name := "<init>", desc := "()V" } : Jvm.MethodName) jdk_18_method_1_code (1 : Nat) (Option.none : Option Jvm.ClassFile.FieldType)]
set_option maxRecDepth 65536 in
theorem codes_eq : words1.filter isCode = codes1 := rfl
theorem w_codes : ∀ c ∈ words1.filter isCode, c.before args0 about1 = true := by
  rw [codes_eq]
  intro c hc
  simp only [codes1, List.mem_cons, List.not_mem_nil, or_false] at hc
  rcases hc with rfl | rfl | rfl | rfl | rfl | rfl | rfl
  · exact w_c0
  · exact w_c1
  · exact w_c2
  · exact w_c3
  · exact w_c4
  · exact w_c5
  · exact w_c6
set_option maxRecDepth 65536 in
theorem w_t1 : (words1.take 24).all (fun c => isCode c || c.before args0 about1) = true := by decide +kernel
set_option maxRecDepth 65536 in
theorem w_t2 : ((words1.drop 24).take 24).all (fun c => isCode c || c.before args0 about1) = true := by decide +kernel
set_option maxRecDepth 65536 in
theorem w_t3 : ((words1.drop 24).drop 24).all (fun c => isCode c || c.before args0 about1) = true := by decide +kernel
theorem w_tables : (allAtoms (Jvm.Cond.code x code maxLocals ret :: tables_1)).before args0 about1 = true := by
  rw [allAtoms_all]
  show words1.all (fun c => c.before args0 about1) = true
  refine all_split ?_ w_codes
  rw [← List.take_append_drop 24 words1, List.all_append, w_t1, ← List.take_append_drop 24 (words1.drop 24), List.all_append, w_t2, w_t3]
  rfl
set_option maxRecDepth 65536 in
theorem w_rest : rest_1_c.before args0 about1 = true := by decide +kernel
set_option maxRecDepth 65536 in
theorem w_case : (Jvm.Cond.and given_1 narrow_1).before args0 about1 = true := by decide +kernel
theorem w_applies : (headSpec (Jvm.Cond.code x code maxLocals ret :: tables_1) room_1).applies x e0.platform about1 = true :=
  (Spec.applies_iff w_frames).mpr ⟨w_running, w_runnable, w_alone, w_named, w_hears, w_ripe, w_room, w_tables⟩
theorem atStart : AtStart classFile x code maxLocals ret World_1 tables_1 room_1 Calls_1 rest_1 Pre_1 launch0 p0 e0 about1 theMethod args0 below0 :=
  ⟨lists_1, trivial, launch0.admits_env _ _ _, launch0.least_env, fairChoices_fair.cas, fairChoices_fair.clock, w_frames, w_args, w_heap, w_applies, trivial, w_rest, w_case⟩
end start1
theorem witness_1 : WitnessClaimed_1 := ⟨start1.p0, start1.e0, start1.about1, start1.theMethod, start1.args0, start1.below0, start1.atStart⟩
end Jvm.Pilot.@@N@@
