import JvmDerived
import JvmDerived.Pilot.@@N@@Statement
import JvmDerived.Pilot.@@N@@Code
set_option linter.unusedVariables false
set_option linter.unusedSimpArgs false
namespace Jvm.RoadKit
open Sem ClassFile Op Lib Jvm.Stand Jvm.Free Jvm.LawKit
section Own
variable {p : Program} {l : Launch} {e : Env} {R : Room} {s : State} {m : MethodId} {args : Array Value} {below : List Frame} {meth : Method} {c : Code} {T : State} {locs : List Loc} {cells slots : Nat}
theorem retI (X : Stand p l e R s m args below meth c T locs cells slots) (hx : p.tables.exec = Jvm.exec) {pc : Nat} {Ls : Array Slot} {z : Int32} {rest : List Value} (hret : meth.sig.returnType = some .int) (hd : decode c.code pc = .ok (.ireturn, 1)) {fs : List Frame}
    (hl : ∀ (f : JFrame) (acts : List Action), f.method = m → f.locked = none → f.entered = [] → (doReturn e (T.setTop f) acts (some (.int z))).1 = T.setFrames fs) : Steps p.tables e below (T.setTop (mkF m pc Ls (.int z :: rest))) (T.setFrames fs) := by
  have hm' : T.vm.method? m = some meth := X.method'
  have hn : narrow .int (.int z) = .int z := rfl
  show Steps p.tables e below (T.setTop { method := m, pc := pc, locals := Ls, stack := _ :: rest, locked := none }) _
  jvm_step X.here [X.here.top, hx, hd, hm', hret, hn]
  first | (intro acts; rw [hl _ acts rfl rfl rfl]) | rw [hl _ _ rfl rfl rfl]
  exact Steps.refl _
/-- the run from st comes to an end of which P holds -/
def own_G (tb : Tables) (e : Env) (below : List Frame) (P : Outcome → State → Prop) (st : State) : Prop :=
  ∃ s₂ o, Steps tb e below st s₂ ∧ s₂.status = .running ∧ Ended s₂ below o ∧ P o s₂
theorem own_st {tb : Tables} {P : Outcome → State → Prop} {st st' : State} (h : ∀ t, Steps tb e below st' t → Steps tb e below st t) (k : own_G tb e below P st') : own_G tb e below P st := by
  obtain ⟨s2, o, h1, h2⟩ := k
  exact ⟨s2, o, h _ h1, h2⟩
def own_P (s : State) (Q : Option Value → Heap → List Loc → Prop) (k n : Nat) (o : Outcome) (U' : State) : Prop :=
  ∃ v L, o = .returned v ∧ Q v U'.heap L ∧ FrameEnd s o U' L k n
theorem own_end {Q : Option Value → Heap → List Loc → Prop} {k n : Nat} {st : State} {v : Option Value} (X : Stand p l e R s m args below meth c T locs cells slots) (hlk : meth.locks = false) (hv : meth.sig.returnType = none → v = none)
    (hst : ∀ fs, (∀ (f : JFrame) (acts : List Action), f.method = m → f.locked = none → f.entered = [] → (doReturn e (T.setTop f) acts v).1 = T.setFrames fs) → Steps p.tables e below st (T.setFrames fs))
    (hQ : Q v T.heap locs) (hk : cells ≤ k) (hn : slots ≤ n) : own_G p.tables e below (own_P s Q k n) st := by
  obtain ⟨fs, hr, hrun, hended, hW, hsame⟩ := X.leave hv hlk
  exact ⟨_, _, hst fs hr, hrun, hended, _, _, rfl, hQ, ⟨_, rfl⟩, hW, hsame.mono hk hn⟩
theorem own_retZ {Q : Option Value → Heap → List Loc → Prop} {k n : Nat} (X : Stand p l e R s m args below meth c T locs cells slots) (hx : p.tables.exec = Jvm.exec) (hlk : meth.locks = false) (hret : meth.sig.returnType = some .boolean) {pc : Nat} {Ls : Array Slot} {z : Int32} {rest : List Value}
    (hd : decode c.code pc = .ok (.ireturn, 1)) (hz : nar .boolean z = z) (hQ : Q (some (.int z)) T.heap locs) (hk : cells ≤ k) (hn : slots ≤ n) : own_G p.tables e below (own_P s Q k n) (T.setTop (mkF m pc Ls (.int z :: rest))) :=
  own_end X hlk (fun h => by rw [hret] at h; cases h) (fun fs hr => retN X hx (t := .boolean) hret (by simp) hd (by rw [hz]; exact hr)) hQ hk hn
theorem own_retI {Q : Option Value → Heap → List Loc → Prop} {k n : Nat} (X : Stand p l e R s m args below meth c T locs cells slots) (hx : p.tables.exec = Jvm.exec) (hlk : meth.locks = false) (hret : meth.sig.returnType = some .int) {pc : Nat} {Ls : Array Slot} {z : Int32} {rest : List Value}
    (hd : decode c.code pc = .ok (.ireturn, 1)) (hQ : Q (some (.int z)) T.heap locs) (hk : cells ≤ k) (hn : slots ≤ n) : own_G p.tables e below (own_P s Q k n) (T.setTop (mkF m pc Ls (.int z :: rest))) :=
  own_end X hlk (fun h => by rw [hret] at h; cases h) (fun fs hr => retI X hx hret hd hr) hQ hk hn
theorem own_retJ {Q : Option Value → Heap → List Loc → Prop} {k n : Nat} (X : Stand p l e R s m args below meth c T locs cells slots) (hx : p.tables.exec = Jvm.exec) (hlk : meth.locks = false) (hret : meth.sig.returnType = some .long) {pc : Nat} {Ls : Array Slot} {z : Int64} {rest : List Value}
    (hd : decode c.code pc = .ok (.lreturn, 1)) (hQ : Q (some (.long z)) T.heap locs) (hk : cells ≤ k) (hn : slots ≤ n) : own_G p.tables e below (own_P s Q k n) (T.setTop (mkF m pc Ls (.long z :: rest))) :=
  own_end X hlk (fun h => by rw [hret] at h; cases h) (fun fs hr => retOut X hx hret rfl (Or.inr (Or.inl ⟨rfl, rfl, _, rfl⟩)) hd hr) hQ hk hn
theorem own_retR {Q : Option Value → Heap → List Loc → Prop} {k n : Nat} {t : FieldType} (X : Stand p l e R s m args below meth c T locs cells slots) (hx : p.tables.exec = Jvm.exec) (hlk : meth.locks = false) (hret : meth.sig.returnType = some t) (ht : t.isReference = true) {pc : Nat} {Ls : Array Slot} {w : Value} {rest : List Value} (hw : w.isRef = true) (hnw : narrow t w = w)
    (hd : decode c.code pc = .ok (.areturn, 1)) (hQ : Q (some w) T.heap locs) (hk : cells ≤ k) (hn : slots ≤ n) : own_G p.tables e below (own_P s Q k n) (T.setTop (mkF m pc Ls (w :: rest))) :=
  own_end X hlk (fun h => by rw [hret] at h; cases h) (fun fs hr => retOut X hx hret hnw (Or.inr (Or.inr (Or.inr (Or.inr ⟨rfl, ht, hw⟩)))) hd hr) hQ hk hn
theorem own_retV {Q : Option Value → Heap → List Loc → Prop} {k n : Nat} (X : Stand p l e R s m args below meth c T locs cells slots) (hx : p.tables.exec = Jvm.exec) (hlk : meth.locks = false) (hret : meth.sig.returnType = none) {pc : Nat} {Ls : Array Slot}
    (hd : decode c.code pc = .ok (.return_, 1)) (hQ : Q none T.heap locs) (hk : cells ≤ k) (hn : slots ≤ n) : own_G p.tables e below (own_P s Q k n) (T.setTop (mkF m pc Ls [])) :=
  own_end X hlk (fun _ => rfl) (fun fs hr => X.returnOut hx hret hd hr) hQ hk hn
theorem own_mono {cells' slots' : Nat} (X : Stand p l e R s m args below meth c T locs cells slots) (h1 : cells ≤ cells') (h2 : slots ≤ slots') : Stand p l e R s m args below meth c T locs cells' slots' :=
  ⟨X.admits, X.cas, X.clock, X.frames, X.room, X.hears, X.method, X.code, X.here, X.tail, X.warmed, X.limits, X.bytes, X.same.mono h1 h2⟩
theorem own_fld {Z : State} {h : Heap} {a : Addr} {C n d : String} {v w : Value} (F : Fld Z h a C n d v) (q : v = w) : Fld Z h a C n d w := q ▸ F
end Own
/-- a boolean as the machine holds it -/
def own_b (P : Prop) [Decidable P] : Int32 := if P then 1 else 0
theorem own_bt {P : Prop} [Decidable P] (h : P) : own_b P = 1 := if_pos h
theorem own_bf {P : Prop} [Decidable P] (h : ¬ P) : own_b P = 0 := if_neg h
theorem own_b1 {P : Prop} [Decidable P] {z : Int32} (hz : z = own_b P) (h : P) : ¬ z = 0 := by rw [hz, own_bt h]; decide
theorem own_b0 {P : Prop} [Decidable P] {z : Int32} (hz : z = own_b P) (h : ¬ P) : z = 0 := by rw [hz, own_bf h]
theorem own_nar {P : Prop} [Decidable P] {z : Int32} (hz : z = own_b P) : nar .boolean z = z := by
  rw [hz]; by_cases h : P
  · rw [own_bt h]; decide
  · rw [own_bf h]; decide
theorem own_fitZ {P : Prop} [Decidable P] {z : Int32} (hz : z = own_b P) : fits .boolean (.int z) = true := by
  rw [hz]; by_cases h : P
  · rw [own_bt h]; decide
  · rw [own_bf h]; decide
theorem own_bc {P Q : Prop} [Decidable P] [Decidable Q] (h : P ↔ Q) : own_b P = own_b Q := by
  by_cases q : Q
  · rw [own_bt q, own_bt (h.mpr q)]
  · rw [own_bf q, own_bf (fun r => q (h.mp r))]
theorem own_bi {P Q : Prop} [Decidable P] [Decidable Q] (h : own_b P = own_b Q) : P ↔ Q := by
  by_cases p : P <;> by_cases q : Q <;> simp_all [own_b]
end Jvm.RoadKit
namespace Jvm.Pilot.@@N@@
open Jvm Jvm.ClassFile Sem Op Lib Jvm.Free Jvm.Stand Jvm.LawKit Jvm.RoadKit Bundle Jvm.Pilot.@@N@@.Jvm.D
theorem pn_0 : plainName "com/example/stakan/stakan/venue/PriceCorridorContainsPinLaw" = true := by first | (simp [plainName, overriddenIn]; done) | decide +kernel
theorem d1_0 : decode jdk_29_method_70_code 0 = .ok (.lload_n 0, 1) := by decide +kernel
theorem d1_1 : decode jdk_29_method_70_code 1 = .ok (.lload_n 2, 1) := by decide +kernel
theorem d1_2 : decode jdk_29_method_70_code 2 = .ok (.lcmp, 1) := by decide +kernel
theorem d1_3 : decode jdk_29_method_70_code 3 = .ok (.ifCond .gt 7, 3) := by decide +kernel
theorem d1_6 : decode jdk_29_method_70_code 6 = .ok (.lload_n 0, 1) := by decide +kernel
theorem d1_7 : decode jdk_29_method_70_code 7 = .ok (.goto 4, 3) := by decide +kernel
theorem d1_10 : decode jdk_29_method_70_code 10 = .ok (.lload_n 2, 1) := by decide +kernel
theorem d1_11 : decode jdk_29_method_70_code 11 = .ok (.lreturn, 1) := by decide +kernel
theorem d2_0 : decode jdk_29_method_66_code 0 = .ok (.lload_n 0, 1) := by decide +kernel
theorem d2_1 : decode jdk_29_method_66_code 1 = .ok (.lload_n 2, 1) := by decide +kernel
theorem d2_2 : decode jdk_29_method_66_code 2 = .ok (.lcmp, 1) := by decide +kernel
theorem d2_3 : decode jdk_29_method_66_code 3 = .ok (.ifCond .lt 7, 3) := by decide +kernel
theorem d2_6 : decode jdk_29_method_66_code 6 = .ok (.lload_n 0, 1) := by decide +kernel
theorem d2_7 : decode jdk_29_method_66_code 7 = .ok (.goto 4, 3) := by decide +kernel
theorem d2_10 : decode jdk_29_method_66_code 10 = .ok (.lload_n 2, 1) := by decide +kernel
theorem d2_11 : decode jdk_29_method_66_code 11 = .ok (.lreturn, 1) := by decide +kernel
theorem d3_0 : decode prog_47_method_1_code 0 = .ok (.aload_n 0, 1) := by decide +kernel
theorem d3_1 : decode prog_47_method_1_code 1 = .ok (.invokespecial 1, 3) := by decide +kernel
theorem d3_4 : decode prog_47_method_1_code 4 = .ok (.lload_n 1, 1) := by decide +kernel
theorem d3_5 : decode prog_47_method_1_code 5 = .ok (.lload_n 3, 1) := by decide +kernel
theorem d3_6 : decode prog_47_method_1_code 6 = .ok (.lcmp, 1) := by decide +kernel
theorem d3_7 : decode prog_47_method_1_code 7 = .ok (.ifCond .le 18, 3) := by decide +kernel
theorem d3_25 : decode prog_47_method_1_code 25 = .ok (.aload_n 0, 1) := by decide +kernel
theorem d3_26 : decode prog_47_method_1_code 26 = .ok (.lload_n 1, 1) := by decide +kernel
theorem d3_27 : decode prog_47_method_1_code 27 = .ok (.putfield 16, 3) := by decide +kernel
theorem d3_30 : decode prog_47_method_1_code 30 = .ok (.aload_n 0, 1) := by decide +kernel
theorem d3_31 : decode prog_47_method_1_code 31 = .ok (.lload_n 3, 1) := by decide +kernel
theorem d3_32 : decode prog_47_method_1_code 32 = .ok (.putfield 22, 3) := by decide +kernel
theorem d3_35 : decode prog_47_method_1_code 35 = .ok (.return_, 1) := by decide +kernel
theorem pn_3 : plainName "com/example/stakan/stakan/venue/PriceCorridor" = true := by first | (simp [plainName, overriddenIn]; done) | decide +kernel
theorem d4_0 : decode jdk_30_method_1_code 0 = .ok (.aload_n 0, 1) := by decide +kernel
theorem d4_1 : decode jdk_30_method_1_code 1 = .ok (.invokespecial 1, 3) := by decide +kernel
theorem d4_4 : decode jdk_30_method_1_code 4 = .ok (.return_, 1) := by decide +kernel
theorem pn_4 : plainName "java/lang/Record" = true := by first | (simp [plainName, overriddenIn]; done) | decide +kernel
theorem d6_0 : decode method_2_code 0 = .ok (.iload_n 0, 1) := by decide +kernel
theorem d6_1 : decode method_2_code 1 = .ok (.bipush 7, 2) := by decide +kernel
theorem d6_3 : decode method_2_code 3 = .ok (.iand, 1) := by decide +kernel
theorem d6_4 : decode method_2_code 4 = .ok (.istore 7, 2) := by decide +kernel
theorem d6_6 : decode method_2_code 6 = .ok (.iload 7, 2) := by decide +kernel
theorem d6_8 : decode method_2_code 8 = .ok (.iconst 4, 1) := by decide +kernel
theorem d6_9 : decode method_2_code 9 = .ok (.if_icmp .ne 7, 3) := by decide +kernel
theorem d6_12 : decode method_2_code 12 = .ok (.lload_n 3, 1) := by decide +kernel
theorem d6_13 : decode method_2_code 13 = .ok (.lconst 1, 1) := by decide +kernel
theorem d6_14 : decode method_2_code 14 = .ok (.lsub, 1) := by decide +kernel
theorem d6_15 : decode method_2_code 15 = .ok (.lreturn, 1) := by decide +kernel
theorem d6_16 : decode method_2_code 16 = .ok (.iload 7, 2) := by decide +kernel
theorem d6_18 : decode method_2_code 18 = .ok (.iconst 5, 1) := by decide +kernel
theorem d6_19 : decode method_2_code 19 = .ok (.if_icmp .ne 8, 3) := by decide +kernel
theorem d6_22 : decode method_2_code 22 = .ok (.lload 5, 2) := by decide +kernel
theorem d6_24 : decode method_2_code 24 = .ok (.lconst 1, 1) := by decide +kernel
theorem d6_25 : decode method_2_code 25 = .ok (.ladd, 1) := by decide +kernel
theorem d6_26 : decode method_2_code 26 = .ok (.lreturn, 1) := by decide +kernel
theorem d6_27 : decode method_2_code 27 = .ok (.iload 7, 2) := by decide +kernel
theorem d6_29 : decode method_2_code 29 = .ok (.bipush 6, 2) := by decide +kernel
theorem d6_31 : decode method_2_code 31 = .ok (.if_icmp .ne 7, 3) := by decide +kernel
theorem d6_34 : decode method_2_code 34 = .ok (.lload_n 3, 1) := by decide +kernel
theorem d6_35 : decode method_2_code 35 = .ok (.lconst 1, 1) := by decide +kernel
theorem d6_36 : decode method_2_code 36 = .ok (.ladd, 1) := by decide +kernel
theorem d6_37 : decode method_2_code 37 = .ok (.lreturn, 1) := by decide +kernel
theorem d6_38 : decode method_2_code 38 = .ok (.iload 7, 2) := by decide +kernel
theorem d6_40 : decode method_2_code 40 = .ok (.bipush 7, 2) := by decide +kernel
theorem d6_42 : decode method_2_code 42 = .ok (.if_icmp .ne 8, 3) := by decide +kernel
theorem d6_45 : decode method_2_code 45 = .ok (.lload 5, 2) := by decide +kernel
theorem d6_47 : decode method_2_code 47 = .ok (.lconst 1, 1) := by decide +kernel
theorem d6_48 : decode method_2_code 48 = .ok (.lsub, 1) := by decide +kernel
theorem d6_49 : decode method_2_code 49 = .ok (.lreturn, 1) := by decide +kernel
theorem d6_50 : decode method_2_code 50 = .ok (.lload_n 1, 1) := by decide +kernel
theorem d6_51 : decode method_2_code 51 = .ok (.lreturn, 1) := by decide +kernel
theorem pn_6 : plainName "com/example/stakan/stakan/venue/PriceCorridorContainsPinLaw" = true := by first | (simp [plainName, overriddenIn]; done) | decide +kernel
theorem d7_0 : decode prog_47_method_2_code 0 = .ok (.aload_n 0, 1) := by decide +kernel
theorem d7_1 : decode prog_47_method_2_code 1 = .ok (.getfield 16, 3) := by decide +kernel
theorem d7_4 : decode prog_47_method_2_code 4 = .ok (.lload_n 1, 1) := by decide +kernel
theorem d7_5 : decode prog_47_method_2_code 5 = .ok (.lcmp, 1) := by decide +kernel
theorem d7_6 : decode prog_47_method_2_code 6 = .ok (.ifCond .gt 16, 3) := by decide +kernel
theorem d7_9 : decode prog_47_method_2_code 9 = .ok (.lload_n 1, 1) := by decide +kernel
theorem d7_10 : decode prog_47_method_2_code 10 = .ok (.aload_n 0, 1) := by decide +kernel
theorem d7_11 : decode prog_47_method_2_code 11 = .ok (.getfield 22, 3) := by decide +kernel
theorem d7_14 : decode prog_47_method_2_code 14 = .ok (.lcmp, 1) := by decide +kernel
theorem d7_15 : decode prog_47_method_2_code 15 = .ok (.ifCond .gt 7, 3) := by decide +kernel
theorem d7_18 : decode prog_47_method_2_code 18 = .ok (.iconst 1, 1) := by decide +kernel
theorem d7_19 : decode prog_47_method_2_code 19 = .ok (.goto 4, 3) := by decide +kernel
theorem d7_22 : decode prog_47_method_2_code 22 = .ok (.iconst 0, 1) := by decide +kernel
theorem d7_23 : decode prog_47_method_2_code 23 = .ok (.ireturn, 1) := by decide +kernel
theorem pn_7 : plainName "com/example/stakan/stakan/venue/PriceCorridor" = true := by first | (simp [plainName, overriddenIn]; done) | decide +kernel
theorem pd_0 : parseMethodDescriptor "()V" = some ⟨[], none⟩ := by decide +kernel
theorem pd_1 : parseMethodDescriptor "(JJ)J" = some ⟨[.long, .long], some .long⟩ := by decide +kernel
theorem pd_2 : parseMethodDescriptor "(JJ)V" = some ⟨[.long, .long], none⟩ := by decide +kernel
theorem pd_3 : parseMethodDescriptor "(IJJJ)J" = some ⟨[.int, .long, .long, .long], some .long⟩ := by decide +kernel
theorem pd_4 : parseMethodDescriptor "(J)Z" = some ⟨[.long], some .boolean⟩ := by decide +kernel
theorem ef_1 (m : MethodId) (x0 : Int64) (x1 : Int64) : entryFrame m #[(.long x0), (.long x1)] 4 = mkF m 0 #[.val (.long x0), .second, .val (.long x1), .second] [] := by first | (simp [entryFrame, mkF, argsToLocals, Value.category]; done) | rfl
theorem ef_2 (m : MethodId) (x0 : Int64) (x1 : Int64) : entryFrame m #[(.long x0), (.long x1)] 4 = mkF m 0 #[.val (.long x0), .second, .val (.long x1), .second] [] := by first | (simp [entryFrame, mkF, argsToLocals, Value.category]; done) | rfl
theorem ef_4 (m : MethodId) (x0 : Addr) : entryFrame m #[(.ref x0)] 1 = mkF m 0 #[.val (.ref x0)] [] := by first | (simp [entryFrame, mkF, argsToLocals, Value.category]; done) | rfl
theorem ef_3 (m : MethodId) (x0 : Addr) (x1 : Int64) (x2 : Int64) : entryFrame m #[(.ref x0), (.long x1), (.long x2)] 5 = mkF m 0 #[.val (.ref x0), .val (.long x1), .second, .val (.long x2), .second] [] := by first | (simp [entryFrame, mkF, argsToLocals, Value.category]; done) | rfl
theorem ef_6 (m : MethodId) (x0 : Int32) (x1 : Int64) (x2 : Int64) (x3 : Int64) : entryFrame m #[(.int x0), (.long x1), (.long x2), (.long x3)] 8 = mkF m 0 #[.val (.int x0), .val (.long x1), .second, .val (.long x2), .second, .val (.long x3), .second, .unset] [] := by first | (simp [entryFrame, mkF, argsToLocals, Value.category]; done) | rfl
theorem ef_7 (m : MethodId) (x0 : Addr) (x1 : Int64) : entryFrame m #[(.ref x0), (.long x1)] 3 = mkF m 0 #[.val (.ref x0), .val (.long x1), .second] [] := by first | (simp [entryFrame, mkF, argsToLocals, Value.category]; done) | rfl
theorem ef_0 (m : MethodId) (x0 : Int64) (x1 : Int64) (x2 : Int64) (x3 : Int32) : entryFrame m #[(.long x0), (.long x1), (.long x2), (.int x3)] maxLocals = mkF m 0 #[.val (.long x0), .second, .val (.long x1), .second, .val (.long x2), .second, .val (.int x3), .unset, .unset, .unset, .unset, .unset, .unset, .unset, .unset, .unset, .unset] [] := by first | (simp [entryFrame, mkF, argsToLocals, Value.category, maxLocals]; done) | rfl
theorem own_mm (a b : Int64) : ((if b < a then b else a).toInt = if b.toInt < a.toInt then b.toInt else a.toInt) ∧ ((if a < b then b else a).toInt = if a.toInt < b.toInt then b.toInt else a.toInt) := by
  simp only [Int64.lt_iff_toInt_lt]; constructor <;> split <;> rfl
theorem own_lohi (a b : Int64) : ¬ ((if a < b then b else a) < (if b < a then b else a)) := by
  rw [Int64.lt_iff_toInt_lt, (own_mm a b).1, (own_mm a b).2]; omega
theorem own_elo (a b : Int64) : ¬ ((if b < a then b else a) < (if b < a then b else a)) ∧ (¬ ((if a < b then b else a) < (if b < a then b else a))) := by
  exact ⟨Int64.lt_irrefl, own_lohi a b⟩
theorem own_ehi (a b : Int64) : ¬ ((if a < b then b else a) < (if b < a then b else a)) ∧ (¬ ((if a < b then b else a) < (if a < b then b else a))) := by
  exact ⟨own_lohi a b, Int64.lt_irrefl⟩
theorem own_iff (a b p : Int64) : (¬ (p < (if b < a then b else a)) ∧ (¬ ((if a < b then b else a) < p))) ↔ ((if (if b < a then b else a) < (if (if a < b then b else a) < p then (if a < b then b else a) else p) then (if (if a < b then b else a) < p then (if a < b then b else a) else p) else (if b < a then b else a)) = p) := by
  have h := own_lohi a b
  generalize (if b < a then b else a) = lo at *
  generalize (if a < b then b else a) = hi at *
  rw [← Int64.toInt_inj, (own_mm lo _).2, (own_mm p hi).1]
  simp only [Int64.lt_iff_toInt_lt] at *
  omega
def Q1 (Z : State) (q1 : Int64) (q2 : Int64) (h0 : Heap) (n0 : Nat) (v : Option Value) (h : Heap) (L : List Loc) : Prop := (∃ z : Int64, v = some (.long z) ∧ z = (if q2 < q1 then q2 else q1)) ∧ Fr n0 L ∧ h = h0
set_option maxRecDepth 65536 in
set_option maxHeartbeats 40000000 in
theorem rm1 (l : Launch) (Z : State) (a0 : Array Value) (hw : ∀ d ∈ tables_1, d.before a0 Z = true) (ws : List Jvm.Cond) (q1 : Int64) (q2 : Int64) (h0 : Heap) (n0 : Nat) (Z0 : n0 ≤ h0.size) :
    MetFree l (⟨"java/lang/Math", "min", "(JJ)J"⟩ : MethodName) (head1 (Jvm.Cond.code (⟨"java/lang/Math", "min", "(JJ)J"⟩ : MethodName) jdk_29_method_70_code 4 (some .long) :: ws) ({ frames := 0, cells := 0, slots := 0, locals := 0 } : Room)) (fun a U => a = #[(.long q1), (.long q2)] ∧ Z.Warmed39 U.vm ∧ U.heap = h0) (fun _ _ _ _ _ => True) (fun _ U o U' => ∃ v L, o = .returned v ∧ Q1 Z q1 q2 h0 n0 v U'.heap L ∧ FrameEnd U o U' L ({ frames := 0, cells := 0, slots := 0, locals := 0 } : Room).cells ({ frames := 0, cells := 0, slots := 0, locals := 0 } : Room).slots) := by
  refine MetFree.of_bodySF (Jvm.Free.JP.mathPlain rfl (by decide +kernel)) hisR ?_
  intro p e s m args below meth c s₁ Bd hml0 hP hK
  obtain ⟨rfl, hZ, hh⟩ := hP
  have hx := Bd.exec
  have hby := Bd.bytes
  have hlk := BodyLoose.notSynchronized Bd
  have hml : c.maxLocals = 4 := hml0
  have hown : s.vm.findClass "java/lang/Math" = some m.cls := findClass_of_methodNamed Bd.named
  have hnm := (name_of_methodNamed Bd.named Bd.method).1
  have X0 : Stand p l e ({ frames := 0, cells := 0, slots := 0, locals := 0 } : Room) s m #[(.long q1), (.long q2)] below meth c s₁ [] 0 0 := Stand.of_body Bd
  have e0 : s₁.heap = h0 := by rw [← hh, Bd.state]; rfl
  have N0 := Fr.nil n0
  have K0 := Keep.refl h0 []
  show own_G p.tables e below (own_P s (Q1 Z q1 q2 h0 n0) 0 0) (s₁.setTop (entryFrame m #[(.long q1), (.long q2)] 4))
  refine own_st (fun t k => castTop (ef_1 m q1 q2) k) ?_
  show own_G p.tables e below _ (s₁.setTop (mkF m 0 #[.val (.long q1), .second, .val (.long q2), .second] []))
  refine own_st (fun _ k => XS.lloadN X0.here hx rfl (hb hby d1_0) rfl k) ?_
  show own_G p.tables e below _ (s₁.setTop (mkF m 1 #[.val (.long q1), .second, .val (.long q2), .second] [(.long q1)]))
  refine own_st (fun _ k => XS.lloadN X0.here hx rfl (hb hby d1_1) rfl k) ?_
  show own_G p.tables e below _ (s₁.setTop (mkF m 2 #[.val (.long q1), .second, .val (.long q2), .second] [(.long q2), (.long q1)]))
  refine own_st (fun _ k => XS.lcmp X0.here hx rfl (hb hby d1_2) rfl k) ?_
  show own_G p.tables e below _ (s₁.setTop (mkF m 3 #[.val (.long q1), .second, .val (.long q2), .second] [(.int (lcmpW q1 q2))]))
  have J11_2 : ∀ (z3 : Int64) (hz3 : z3 = (if q2 < q1 then q2 else q1)), own_G p.tables e below (own_P s (Q1 Z q1 q2 h0 n0) 0 0) (s₁.setTop (mkF m 11 #[.val (.long q1), .second, .val (.long q2), .second] [(.long z3)])) := by
    intro z3 hz3
    exact own_retJ X0 hx hlk Bd.returns (hb hby d1_11) (by rw [e0]; exact ⟨⟨_, rfl, (by subst hz3; exact rfl)⟩, N0, rfl⟩) (by decide) (by decide)
  by_cases hc3_1 : q2 < q1
  · refine own_st (fun _ k => XS.ifYes X0.here hx rfl (pc0 := 3) (pc' := 10) rfl (hb hby d1_3) rfl ((if0 _ _).trans (tlt ((lw_gt q1 q2).mpr hc3_1)).2.2.1) (by decide) (by decide) k) ?_
    show own_G p.tables e below _ (s₁.setTop (mkF m 10 #[.val (.long q1), .second, .val (.long q2), .second] []))
    refine own_st (fun _ k => XS.lloadN X0.here hx rfl (hb hby d1_10) rfl k) ?_
    show own_G p.tables e below _ (s₁.setTop (mkF m 11 #[.val (.long q1), .second, .val (.long q2), .second] [(.long q2)]))
    exact J11_2 q2 ((if_pos hc3_1).symm)
  · refine own_st (fun _ k => XS.ifNo X0.here hx rfl (hb hby d1_3) rfl ((if0 _ _).trans (flt (fun q => hc3_1 ((lw_gt q1 q2).mp q))).2.2.1) k) ?_
    show own_G p.tables e below _ (s₁.setTop (mkF m 6 #[.val (.long q1), .second, .val (.long q2), .second] []))
    refine own_st (fun _ k => XS.lloadN X0.here hx rfl (hb hby d1_6) rfl k) ?_
    show own_G p.tables e below _ (s₁.setTop (mkF m 7 #[.val (.long q1), .second, .val (.long q2), .second] [(.long q1)]))
    refine own_st (fun _ k => XS.goto X0.here hx rfl (pc0 := 7) (pc' := 11) rfl (hb hby d1_7) (by decide) (by decide) k) ?_
    show own_G p.tables e below _ (s₁.setTop (mkF m 11 #[.val (.long q1), .second, .val (.long q2), .second] [(.long q1)]))
    exact J11_2 q1 ((if_neg hc3_1).symm)
def Q2 (Z : State) (q1 : Int64) (q2 : Int64) (h0 : Heap) (n0 : Nat) (v : Option Value) (h : Heap) (L : List Loc) : Prop := (∃ z : Int64, v = some (.long z) ∧ z = (if q1 < q2 then q2 else q1)) ∧ Fr n0 L ∧ h = h0
set_option maxRecDepth 65536 in
set_option maxHeartbeats 40000000 in
theorem rm2 (l : Launch) (Z : State) (a0 : Array Value) (hw : ∀ d ∈ tables_1, d.before a0 Z = true) (ws : List Jvm.Cond) (q1 : Int64) (q2 : Int64) (h0 : Heap) (n0 : Nat) (Z0 : n0 ≤ h0.size) :
    MetFree l (⟨"java/lang/Math", "max", "(JJ)J"⟩ : MethodName) (head1 (Jvm.Cond.code (⟨"java/lang/Math", "max", "(JJ)J"⟩ : MethodName) jdk_29_method_66_code 4 (some .long) :: ws) ({ frames := 0, cells := 0, slots := 0, locals := 0 } : Room)) (fun a U => a = #[(.long q1), (.long q2)] ∧ Z.Warmed39 U.vm ∧ U.heap = h0) (fun _ _ _ _ _ => True) (fun _ U o U' => ∃ v L, o = .returned v ∧ Q2 Z q1 q2 h0 n0 v U'.heap L ∧ FrameEnd U o U' L ({ frames := 0, cells := 0, slots := 0, locals := 0 } : Room).cells ({ frames := 0, cells := 0, slots := 0, locals := 0 } : Room).slots) := by
  refine MetFree.of_bodySF (Jvm.Free.JP.mathPlain rfl (by decide +kernel)) hisR ?_
  intro p e s m args below meth c s₁ Bd hml0 hP hK
  obtain ⟨rfl, hZ, hh⟩ := hP
  have hx := Bd.exec
  have hby := Bd.bytes
  have hlk := BodyLoose.notSynchronized Bd
  have hml : c.maxLocals = 4 := hml0
  have hown : s.vm.findClass "java/lang/Math" = some m.cls := findClass_of_methodNamed Bd.named
  have hnm := (name_of_methodNamed Bd.named Bd.method).1
  have X0 : Stand p l e ({ frames := 0, cells := 0, slots := 0, locals := 0 } : Room) s m #[(.long q1), (.long q2)] below meth c s₁ [] 0 0 := Stand.of_body Bd
  have e0 : s₁.heap = h0 := by rw [← hh, Bd.state]; rfl
  have N0 := Fr.nil n0
  have K0 := Keep.refl h0 []
  show own_G p.tables e below (own_P s (Q2 Z q1 q2 h0 n0) 0 0) (s₁.setTop (entryFrame m #[(.long q1), (.long q2)] 4))
  refine own_st (fun t k => castTop (ef_2 m q1 q2) k) ?_
  show own_G p.tables e below _ (s₁.setTop (mkF m 0 #[.val (.long q1), .second, .val (.long q2), .second] []))
  refine own_st (fun _ k => XS.lloadN X0.here hx rfl (hb hby d2_0) rfl k) ?_
  show own_G p.tables e below _ (s₁.setTop (mkF m 1 #[.val (.long q1), .second, .val (.long q2), .second] [(.long q1)]))
  refine own_st (fun _ k => XS.lloadN X0.here hx rfl (hb hby d2_1) rfl k) ?_
  show own_G p.tables e below _ (s₁.setTop (mkF m 2 #[.val (.long q1), .second, .val (.long q2), .second] [(.long q2), (.long q1)]))
  refine own_st (fun _ k => XS.lcmp X0.here hx rfl (hb hby d2_2) rfl k) ?_
  show own_G p.tables e below _ (s₁.setTop (mkF m 3 #[.val (.long q1), .second, .val (.long q2), .second] [(.int (lcmpW q1 q2))]))
  have J11_2 : ∀ (z3 : Int64) (hz3 : z3 = (if q1 < q2 then q2 else q1)), own_G p.tables e below (own_P s (Q2 Z q1 q2 h0 n0) 0 0) (s₁.setTop (mkF m 11 #[.val (.long q1), .second, .val (.long q2), .second] [(.long z3)])) := by
    intro z3 hz3
    exact own_retJ X0 hx hlk Bd.returns (hb hby d2_11) (by rw [e0]; exact ⟨⟨_, rfl, (by subst hz3; exact rfl)⟩, N0, rfl⟩) (by decide) (by decide)
  by_cases hc3_1 : q1 < q2
  · refine own_st (fun _ k => XS.ifYes X0.here hx rfl (pc0 := 3) (pc' := 10) rfl (hb hby d2_3) rfl ((if0 _ _).trans (tlt ((lw_lt q1 q2).mpr hc3_1)).1) (by decide) (by decide) k) ?_
    show own_G p.tables e below _ (s₁.setTop (mkF m 10 #[.val (.long q1), .second, .val (.long q2), .second] []))
    refine own_st (fun _ k => XS.lloadN X0.here hx rfl (hb hby d2_10) rfl k) ?_
    show own_G p.tables e below _ (s₁.setTop (mkF m 11 #[.val (.long q1), .second, .val (.long q2), .second] [(.long q2)]))
    exact J11_2 q2 ((if_pos hc3_1).symm)
  · refine own_st (fun _ k => XS.ifNo X0.here hx rfl (hb hby d2_3) rfl ((if0 _ _).trans (flt (fun q => hc3_1 ((lw_lt q1 q2).mp q))).1) k) ?_
    show own_G p.tables e below _ (s₁.setTop (mkF m 6 #[.val (.long q1), .second, .val (.long q2), .second] []))
    refine own_st (fun _ k => XS.lloadN X0.here hx rfl (hb hby d2_6) rfl k) ?_
    show own_G p.tables e below _ (s₁.setTop (mkF m 7 #[.val (.long q1), .second, .val (.long q2), .second] [(.long q1)]))
    refine own_st (fun _ k => XS.goto X0.here hx rfl (pc0 := 7) (pc' := 11) rfl (hb hby d2_7) (by decide) (by decide) k) ?_
    show own_G p.tables e below _ (s₁.setTop (mkF m 11 #[.val (.long q1), .second, .val (.long q2), .second] [(.long q1)]))
    exact J11_2 q1 ((if_neg hc3_1).symm)
def Q4 (Z : State) (a1 : Addr) (h0 : Heap) (n0 : Nat) (v : Option Value) (h : Heap) (L : List Loc) : Prop := v = none ∧ Fr n0 L ∧ h = h0
set_option maxRecDepth 65536 in
set_option maxHeartbeats 40000000 in
theorem rm4 (l : Launch) (Z : State) (a0 : Array Value) (hw : ∀ d ∈ tables_1, d.before a0 Z = true) (ws : List Jvm.Cond) (a1 : Addr) (h0 : Heap) (n0 : Nat) (Z0 : n0 ≤ h0.size) :
    MetFree l (⟨"java/lang/Record", "<init>", "()V"⟩ : MethodName) (head1 (Jvm.Cond.code (⟨"java/lang/Record", "<init>", "()V"⟩ : MethodName) jdk_30_method_1_code 1 none :: ws) ({ frames := 1, cells := 0, slots := 0, locals := 12 } : Room)) (fun a U => a = #[(.ref a1)] ∧ Z.Warmed39 U.vm ∧ U.heap = h0) (fun _ _ _ _ _ => True) (fun _ U o U' => ∃ v L, o = .returned v ∧ Q4 Z a1 h0 n0 v U'.heap L ∧ FrameEnd U o U' L ({ frames := 1, cells := 0, slots := 0, locals := 12 } : Room).cells ({ frames := 1, cells := 0, slots := 0, locals := 12 } : Room).slots) := by
  refine MetFree.of_bodySF (plainFor_of_name pn_4) hisR ?_
  intro p e s m args below meth c s₁ Bd hml0 hP hK
  obtain ⟨rfl, hZ, hh⟩ := hP
  have hx := Bd.exec
  have hby := Bd.bytes
  have hlk := BodyLoose.notSynchronized Bd
  have hml : c.maxLocals = 1 := hml0
  have hown : s.vm.findClass "java/lang/Record" = some m.cls := findClass_of_methodNamed Bd.named
  have hnm := (name_of_methodNamed Bd.named Bd.method).1
  have X0 : Stand p l e ({ frames := 1, cells := 0, slots := 0, locals := 12 } : Room) s m #[(.ref a1)] below meth c s₁ [] 0 0 := Stand.of_body Bd
  have e0 : s₁.heap = h0 := by rw [← hh, Bd.state]; rfl
  have N0 := Fr.nil n0
  have K0 := Keep.refl h0 []
  show own_G p.tables e below (own_P s (Q4 Z a1 h0 n0) 0 0) (s₁.setTop (entryFrame m #[(.ref a1)] 1))
  refine own_st (fun t k => castTop (ef_4 m a1) k) ?_
  show own_G p.tables e below _ (s₁.setTop (mkF m 0 #[.val (.ref a1)] []))
  refine own_st (fun _ k => XS.aloadN X0.here hx rfl (hb hby d4_0) rfl rfl k) ?_
  show own_G p.tables e below _ (s₁.setTop (mkF m 1 #[.val (.ref a1)] [(.ref a1)]))
  obtain ⟨T1, X1, e1, st1⟩ := initO X0 hx hZ hown (hw _ (List.mem_of_getElem? (i := 18) rfl)) (hw _ (List.mem_of_getElem? (i := 19) rfl)) (hw _ (List.mem_of_getElem? (i := 20) rfl)) e0 (g := (mkF m 1 #[.val (.ref a1)] [(.ref a1)])) rfl (by rw [hml]; rfl) rfl (hb hby d4_1) (by decide) (W := 0) (by show 2 * 0 + _ ≤ _; exact Nat.le_of_eq rfl) (by decide)
  refine own_st st1 ?_
  show own_G p.tables e below _ (T1.setTop (mkF m 4 #[.val (.ref a1)] []))
  exact own_retV X1 hx hlk Bd.returns (hb hby d4_4) (by rw [e1]; exact ⟨rfl, N0, rfl⟩) (by decide) (by decide)
def Q3 (Z : State) (a1 : Addr) (q1 : Int64) (q2 : Int64) (u_low_a1 : Int64) (u_high_a1 : Int64) (h0 : Heap) (n0 : Nat) (v : Option Value) (h : Heap) (L : List Loc) : Prop := v = none ∧ Fr n0 L ∧ Keep h0 h [a1] ∧ Exa Z h a1 "com/example/stakan/stakan/venue/PriceCorridor" ∧ Fld Z h a1 "com/example/stakan/stakan/venue/PriceCorridor" "low" "J" (.long q1) ∧ Fld Z h a1 "com/example/stakan/stakan/venue/PriceCorridor" "high" "J" (.long q2)
set_option maxRecDepth 65536 in
set_option maxHeartbeats 40000000 in
theorem rm3 (l : Launch) (Z : State) (a0 : Array Value) (hw : ∀ d ∈ tables_1, d.before a0 Z = true) (ws : List Jvm.Cond) (a1 : Addr) (q1 : Int64) (q2 : Int64) (u_low_a1 : Int64) (u_high_a1 : Int64) (h0 : Heap) (n0 : Nat) (Z0 : n0 ≤ h0.size) (F_low_a1 : Fld Z h0 a1 "com/example/stakan/stakan/venue/PriceCorridor" "low" "J" (.long u_low_a1)) (F_high_a1 : Fld Z h0 a1 "com/example/stakan/stakan/venue/PriceCorridor" "high" "J" (.long u_high_a1)) (E_a1 : Exa Z h0 a1 "com/example/stakan/stakan/venue/PriceCorridor") (hp : ¬ (q2 < q1)) (ge_a1 : n0 ≤ a1) :
    MetFree l (⟨"com/example/stakan/stakan/venue/PriceCorridor", "<init>", "(JJ)V"⟩ : MethodName) (head1 (Jvm.Cond.code (⟨"com/example/stakan/stakan/venue/PriceCorridor", "<init>", "(JJ)V"⟩ : MethodName) prog_47_method_1_code 5 none :: ws) ({ frames := 2, cells := 0, slots := 0, locals := 24 } : Room)) (fun a U => a = #[(.ref a1), (.long q1), (.long q2)] ∧ Z.Warmed39 U.vm ∧ U.heap = h0) (fun _ _ _ _ _ => True) (fun _ U o U' => ∃ v L, o = .returned v ∧ Q3 Z a1 q1 q2 u_low_a1 u_high_a1 h0 n0 v U'.heap L ∧ FrameEnd U o U' L ({ frames := 2, cells := 0, slots := 0, locals := 24 } : Room).cells ({ frames := 2, cells := 0, slots := 0, locals := 24 } : Room).slots) := by
  refine MetFree.of_bodySF (plainFor_of_name pn_3) hisR ?_
  intro p e s m args below meth c s₁ Bd hml0 hP hK
  obtain ⟨rfl, hZ, hh⟩ := hP
  have hx := Bd.exec
  have hby := Bd.bytes
  have hlk := BodyLoose.notSynchronized Bd
  have hml : c.maxLocals = 5 := hml0
  have hown : s.vm.findClass "com/example/stakan/stakan/venue/PriceCorridor" = some m.cls := findClass_of_methodNamed Bd.named
  have hnm := (name_of_methodNamed Bd.named Bd.method).1
  have X0 : Stand p l e ({ frames := 2, cells := 0, slots := 0, locals := 24 } : Room) s m #[(.ref a1), (.long q1), (.long q2)] below meth c s₁ [] 0 0 := Stand.of_body Bd
  have e0 : s₁.heap = h0 := by rw [← hh, Bd.state]; rfl
  have N0 := Fr.nil n0
  have K0 := Keep.refl h0 [a1]
  show own_G p.tables e below (own_P s (Q3 Z a1 q1 q2 u_low_a1 u_high_a1 h0 n0) 0 0) (s₁.setTop (entryFrame m #[(.ref a1), (.long q1), (.long q2)] 5))
  refine own_st (fun t k => castTop (ef_3 m a1 q1 q2) k) ?_
  show own_G p.tables e below _ (s₁.setTop (mkF m 0 #[.val (.ref a1), .val (.long q1), .second, .val (.long q2), .second] []))
  refine own_st (fun _ k => XS.aloadN X0.here hx rfl (hb hby d3_0) rfl rfl k) ?_
  show own_G p.tables e below _ (s₁.setTop (mkF m 1 #[.val (.ref a1), .val (.long q1), .second, .val (.long q2), .second] [(.ref a1)]))
  obtain ⟨_, _, ⟨T1, L1, k1, n1⟩, -, X1, ⟨Lc1, hQ1, l1, y1, z1⟩, st1⟩ := X0.specialBack hx (y := (⟨"java/lang/Record", "<init>", "()V"⟩ : MethodName)) rfl hown (mvT hZ (hw _ (List.mem_of_getElem? (i := 13) rfl))) (mvT hZ (hw _ (List.mem_of_getElem? (i := 14) rfl))) (mvT hZ (hw _ (List.mem_of_getElem? (i := 17) rfl))) (by decide) (backOf (W := 0) (rm4 l Z a0 hw [] a1 h0 n0 Z0 ) hZ (hw _ (List.mem_of_getElem? (i := 17) rfl)) (hw _ (List.mem_of_getElem? (i := 16) rfl)) (by decide) (by decide)) (g := (mkF m 1 #[.val (.ref a1), .val (.long q1), .second, .val (.long q2), .second] [(.ref a1)])) rfl (by rw [hml]; rfl) (Steps.refl _) (a := a1) (argsL := []) (rest := []) (lenOf pd_0 rfl) rfl (by show 2 * 0 + _ ≤ _; exact Nat.le_of_eq rfl) (hb hby d3_1) (fun _ _ => ⟨rfl, e0, (by decide : 0 + 0 ≤ _), (by decide : 0 + 0 ≤ _)⟩)
  dsimp only [Pt.U, Pt.locs, Pt.cells, Pt.slots] at X1 l1 y1 z1 st1 hQ1
  subst l1 y1 z1
  obtain ⟨rfl, N1q, e1⟩ := hQ1
  have N1 := Fr.app N0 N1q
  refine own_st (fun _ k => st1.trans k) ?_
  show own_G p.tables e below _ (T1.setTop (mkF m 4 #[.val (.ref a1), .val (.long q1), .second, .val (.long q2), .second] []))
  refine own_st (fun _ k => XS.lloadN X1.here hx rfl (hb hby d3_4) rfl k) ?_
  show own_G p.tables e below _ (T1.setTop (mkF m 5 #[.val (.ref a1), .val (.long q1), .second, .val (.long q2), .second] [(.long q1)]))
  refine own_st (fun _ k => XS.lloadN X1.here hx rfl (hb hby d3_5) rfl k) ?_
  show own_G p.tables e below _ (T1.setTop (mkF m 6 #[.val (.ref a1), .val (.long q1), .second, .val (.long q2), .second] [(.long q2), (.long q1)]))
  refine own_st (fun _ k => XS.lcmp X1.here hx rfl (hb hby d3_6) rfl k) ?_
  show own_G p.tables e below _ (T1.setTop (mkF m 7 #[.val (.ref a1), .val (.long q1), .second, .val (.long q2), .second] [(.int (lcmpW q1 q2))]))
  have hf2 : ¬ (q2 < q1) := hp
  refine own_st (fun _ k => XS.ifYes X1.here hx rfl (pc0 := 7) (pc' := 25) rfl (hb hby d3_7) rfl ((if0 _ _).trans (flt (fun q => hf2 ((lw_gt q1 q2).mp q))).2.2.2) (by decide) (by decide) k) ?_
  show own_G p.tables e below _ (T1.setTop (mkF m 25 #[.val (.ref a1), .val (.long q1), .second, .val (.long q2), .second] []))
  refine own_st (fun _ k => XS.aloadN X1.here hx rfl (hb hby d3_25) rfl rfl k) ?_
  show own_G p.tables e below _ (T1.setTop (mkF m 26 #[.val (.ref a1), .val (.long q1), .second, .val (.long q2), .second] [(.ref a1)]))
  refine own_st (fun _ k => XS.lloadN X1.here hx rfl (hb hby d3_26) rfl k) ?_
  show own_G p.tables e below _ (T1.setTop (mkF m 27 #[.val (.ref a1), .val (.long q1), .second, .val (.long q2), .second] [(.long q1), (.ref a1)]))
  obtain ⟨T3, h3, X3, e3, W3, st3⟩ := putF X1 hx hZ hown (host := "") (Or.inl (hw _ (List.mem_of_getElem? (i := 21) rfl))) Via.refl e1 F_low_a1 E_a1 (Or.inr ⟨(hw _ (List.mem_of_getElem? (i := 22) rfl)), rfl, hnm⟩) (hw _ (List.mem_of_getElem? (i := 8) rfl)) (ty := .long) (by decide) rfl rfl (g := (mkF m 27 #[.val (.ref a1), .val (.long q1), .second, .val (.long q2), .second] [(.long q1), (.ref a1)])) rfl rfl (hb hby d3_27)
  have N3 := Fr.snoc X3 N1 ge_a1
  have E4 := E_a1.wr W3
  have F5 := F_low_a1.same W3
  have F6 := F_high_a1.other W3 (Or.inr (slot_ne (Or.inr (hw _ (List.mem_of_getElem? (i := 24) rfl))) (Or.inr (hw _ (List.mem_of_getElem? (i := 22) rfl))) (by decide) (t := .long) (t' := .long) (by decide) (by decide)))
  have Z7 := Nat.le_trans Z0 (Keep.of_wr W3).1
  have K8 := K0.wr W3 (Or.inl (List.mem_of_getElem? (i := 0) rfl))
  refine own_st st3 ?_
  show own_G p.tables e below _ (T3.setTop (mkF m 30 #[.val (.ref a1), .val (.long q1), .second, .val (.long q2), .second] []))
  refine own_st (fun _ k => XS.aloadN X3.here hx rfl (hb hby d3_30) rfl rfl k) ?_
  show own_G p.tables e below _ (T3.setTop (mkF m 31 #[.val (.ref a1), .val (.long q1), .second, .val (.long q2), .second] [(.ref a1)]))
  refine own_st (fun _ k => XS.lloadN X3.here hx rfl (hb hby d3_31) rfl k) ?_
  show own_G p.tables e below _ (T3.setTop (mkF m 32 #[.val (.ref a1), .val (.long q1), .second, .val (.long q2), .second] [(.long q2), (.ref a1)]))
  obtain ⟨T9, h9, X9, e9, W9, st9⟩ := putF X3 hx hZ hown (host := "") (Or.inl (hw _ (List.mem_of_getElem? (i := 23) rfl))) Via.refl e3 F6 E4 (Or.inr ⟨(hw _ (List.mem_of_getElem? (i := 24) rfl)), rfl, hnm⟩) (hw _ (List.mem_of_getElem? (i := 8) rfl)) (ty := .long) (by decide) rfl rfl (g := (mkF m 32 #[.val (.ref a1), .val (.long q1), .second, .val (.long q2), .second] [(.long q2), (.ref a1)])) rfl rfl (hb hby d3_32)
  have N9 := Fr.snoc X9 N3 ge_a1
  have E10 := E4.wr W9
  have F11 := F5.other W9 (Or.inr (slot_ne (Or.inr (hw _ (List.mem_of_getElem? (i := 22) rfl))) (Or.inr (hw _ (List.mem_of_getElem? (i := 24) rfl))) (by decide) (t := .long) (t' := .long) (by decide) (by decide)))
  have F12 := F6.same W9
  have Z13 := Nat.le_trans Z7 (Keep.of_wr W9).1
  have K14 := K8.wr W9 (Or.inl (List.mem_of_getElem? (i := 0) rfl))
  refine own_st st9 ?_
  show own_G p.tables e below _ (T9.setTop (mkF m 35 #[.val (.ref a1), .val (.long q1), .second, .val (.long q2), .second] []))
  exact own_retV X9 hx hlk Bd.returns (hb hby d3_35) (by rw [e9]; exact ⟨rfl, N9, K14, E10, F11, F12⟩) (by decide) (by decide)
def Q6 (Z : State) (q1 : Int32) (q2 : Int64) (q3 : Int64) (q4 : Int64) (h0 : Heap) (n0 : Nat) (v : Option Value) (h : Heap) (L : List Loc) : Prop := (∃ z : Int64, v = some (.long z) ∧ z = (if (q1 &&& (7 : Int32)) = (4 : Int32) then (q3 - (1 : Int64)) else (if (q1 &&& (7 : Int32)) = (5 : Int32) then (q4 + (1 : Int64)) else (if (q1 &&& (7 : Int32)) = (6 : Int32) then (q3 + (1 : Int64)) else (if (q1 &&& (7 : Int32)) = (7 : Int32) then (q4 - (1 : Int64)) else q2))))) ∧ Fr n0 L ∧ h = h0
set_option maxRecDepth 65536 in
set_option maxHeartbeats 40000000 in
theorem rm6 (l : Launch) (Z : State) (a0 : Array Value) (hw : ∀ d ∈ tables_1, d.before a0 Z = true) (ws : List Jvm.Cond) (q1 : Int32) (q2 : Int64) (q3 : Int64) (q4 : Int64) (h0 : Heap) (n0 : Nat) (Z0 : n0 ≤ h0.size) :
    MetFree l (⟨"com/example/stakan/stakan/venue/PriceCorridorContainsPinLaw", "pick", "(IJJJ)J"⟩ : MethodName) (head1 (Jvm.Cond.code (⟨"com/example/stakan/stakan/venue/PriceCorridorContainsPinLaw", "pick", "(IJJJ)J"⟩ : MethodName) method_2_code 8 (some .long) :: ws) ({ frames := 0, cells := 0, slots := 0, locals := 0 } : Room)) (fun a U => a = #[(.int q1), (.long q2), (.long q3), (.long q4)] ∧ Z.Warmed39 U.vm ∧ U.heap = h0) (fun _ _ _ _ _ => True) (fun _ U o U' => ∃ v L, o = .returned v ∧ Q6 Z q1 q2 q3 q4 h0 n0 v U'.heap L ∧ FrameEnd U o U' L ({ frames := 0, cells := 0, slots := 0, locals := 0 } : Room).cells ({ frames := 0, cells := 0, slots := 0, locals := 0 } : Room).slots) := by
  refine MetFree.of_bodySF (plainFor_of_name pn_6) hisR ?_
  intro p e s m args below meth c s₁ Bd hml0 hP hK
  obtain ⟨rfl, hZ, hh⟩ := hP
  have hx := Bd.exec
  have hby := Bd.bytes
  have hlk := BodyLoose.notSynchronized Bd
  have hml : c.maxLocals = 8 := hml0
  have hown : s.vm.findClass "com/example/stakan/stakan/venue/PriceCorridorContainsPinLaw" = some m.cls := findClass_of_methodNamed Bd.named
  have hnm := (name_of_methodNamed Bd.named Bd.method).1
  have X0 : Stand p l e ({ frames := 0, cells := 0, slots := 0, locals := 0 } : Room) s m #[(.int q1), (.long q2), (.long q3), (.long q4)] below meth c s₁ [] 0 0 := Stand.of_body Bd
  have e0 : s₁.heap = h0 := by rw [← hh, Bd.state]; rfl
  have N0 := Fr.nil n0
  have K0 := Keep.refl h0 []
  show own_G p.tables e below (own_P s (Q6 Z q1 q2 q3 q4 h0 n0) 0 0) (s₁.setTop (entryFrame m #[(.int q1), (.long q2), (.long q3), (.long q4)] 8))
  refine own_st (fun t k => castTop (ef_6 m q1 q2 q3 q4) k) ?_
  show own_G p.tables e below _ (s₁.setTop (mkF m 0 #[.val (.int q1), .val (.long q2), .second, .val (.long q3), .second, .val (.long q4), .second, .unset] []))
  refine own_st (fun _ k => XS.iloadN X0.here hx rfl (hb hby d6_0) rfl k) ?_
  show own_G p.tables e below _ (s₁.setTop (mkF m 1 #[.val (.int q1), .val (.long q2), .second, .val (.long q3), .second, .val (.long q4), .second, .unset] [(.int q1)]))
  refine own_st (fun _ k => XS.bipush X0.here hx rfl (hb hby d6_1) k) ?_
  show own_G p.tables e below _ (s₁.setTop (mkF m 3 #[.val (.int q1), .val (.long q2), .second, .val (.long q3), .second, .val (.long q4), .second, .unset] [(.int (7 : Int32)), (.int q1)]))
  refine own_st (fun _ k => XS.iand X0.here hx rfl (hb hby d6_3) rfl k) ?_
  show own_G p.tables e below _ (s₁.setTop (mkF m 4 #[.val (.int q1), .val (.long q2), .second, .val (.long q3), .second, .val (.long q4), .second, .unset] [(.int (q1 &&& (7 : Int32)))]))
  refine own_st (fun _ k => XS.istore X0.here hx rfl (hb hby d6_4) rfl (l' := #[.val (.int q1), .val (.long q2), .second, .val (.long q3), .second, .val (.long q4), .second, .val (.int (q1 &&& (7 : Int32)))]) rfl k) ?_
  show own_G p.tables e below _ (s₁.setTop (mkF m 6 #[.val (.int q1), .val (.long q2), .second, .val (.long q3), .second, .val (.long q4), .second, .val (.int (q1 &&& (7 : Int32)))] []))
  refine own_st (fun _ k => XS.iload X0.here hx rfl (hb hby d6_6) rfl k) ?_
  show own_G p.tables e below _ (s₁.setTop (mkF m 8 #[.val (.int q1), .val (.long q2), .second, .val (.long q3), .second, .val (.long q4), .second, .val (.int (q1 &&& (7 : Int32)))] [(.int (q1 &&& (7 : Int32)))]))
  refine own_st (fun _ k => XS.iconst X0.here hx rfl (hb hby d6_8) k) ?_
  show own_G p.tables e below _ (s₁.setTop (mkF m 9 #[.val (.int q1), .val (.long q2), .second, .val (.long q3), .second, .val (.long q4), .second, .val (.int (q1 &&& (7 : Int32)))] [(.int (4 : Int32)), (.int (q1 &&& (7 : Int32)))]))
  by_cases hc9_1 : (q1 &&& (7 : Int32)) = (4 : Int32)
  · refine own_st (fun _ k => XS.icmpNo X0.here hx rfl (hb hby d6_9) rfl (teq hc9_1).2 k) ?_
    show own_G p.tables e below _ (s₁.setTop (mkF m 12 #[.val (.int q1), .val (.long q2), .second, .val (.long q3), .second, .val (.long q4), .second, .val (.int (q1 &&& (7 : Int32)))] []))
    refine own_st (fun _ k => XS.lloadN X0.here hx rfl (hb hby d6_12) rfl k) ?_
    show own_G p.tables e below _ (s₁.setTop (mkF m 13 #[.val (.int q1), .val (.long q2), .second, .val (.long q3), .second, .val (.long q4), .second, .val (.int (q1 &&& (7 : Int32)))] [(.long q3)]))
    refine own_st (fun _ k => XS.lconst X0.here hx rfl (hb hby d6_13) k) ?_
    show own_G p.tables e below _ (s₁.setTop (mkF m 14 #[.val (.int q1), .val (.long q2), .second, .val (.long q3), .second, .val (.long q4), .second, .val (.int (q1 &&& (7 : Int32)))] [(.long (1 : Int64)), (.long q3)]))
    refine own_st (fun _ k => XS.lsub X0.here hx rfl (hb hby d6_14) rfl k) ?_
    show own_G p.tables e below _ (s₁.setTop (mkF m 15 #[.val (.int q1), .val (.long q2), .second, .val (.long q3), .second, .val (.long q4), .second, .val (.int (q1 &&& (7 : Int32)))] [(.long (q3 - (1 : Int64)))]))
    exact own_retJ X0 hx hlk Bd.returns (hb hby d6_15) (by rw [e0]; exact ⟨⟨_, rfl, (if_pos hc9_1).symm⟩, N0, rfl⟩) (by decide) (by decide)
  · refine own_st (fun _ k => XS.icmpYes X0.here hx rfl (pc0 := 9) (pc' := 16) rfl (hb hby d6_9) rfl (feq hc9_1).2 (by decide) (by decide) k) ?_
    show own_G p.tables e below _ (s₁.setTop (mkF m 16 #[.val (.int q1), .val (.long q2), .second, .val (.long q3), .second, .val (.long q4), .second, .val (.int (q1 &&& (7 : Int32)))] []))
    refine own_st (fun _ k => XS.iload X0.here hx rfl (hb hby d6_16) rfl k) ?_
    show own_G p.tables e below _ (s₁.setTop (mkF m 18 #[.val (.int q1), .val (.long q2), .second, .val (.long q3), .second, .val (.long q4), .second, .val (.int (q1 &&& (7 : Int32)))] [(.int (q1 &&& (7 : Int32)))]))
    refine own_st (fun _ k => XS.iconst X0.here hx rfl (hb hby d6_18) k) ?_
    show own_G p.tables e below _ (s₁.setTop (mkF m 19 #[.val (.int q1), .val (.long q2), .second, .val (.long q3), .second, .val (.long q4), .second, .val (.int (q1 &&& (7 : Int32)))] [(.int (5 : Int32)), (.int (q1 &&& (7 : Int32)))]))
    by_cases hc19_2 : (q1 &&& (7 : Int32)) = (5 : Int32)
    · refine own_st (fun _ k => XS.icmpNo X0.here hx rfl (hb hby d6_19) rfl (teq hc19_2).2 k) ?_
      show own_G p.tables e below _ (s₁.setTop (mkF m 22 #[.val (.int q1), .val (.long q2), .second, .val (.long q3), .second, .val (.long q4), .second, .val (.int (q1 &&& (7 : Int32)))] []))
      refine own_st (fun _ k => XS.lload X0.here hx rfl (hb hby d6_22) rfl k) ?_
      show own_G p.tables e below _ (s₁.setTop (mkF m 24 #[.val (.int q1), .val (.long q2), .second, .val (.long q3), .second, .val (.long q4), .second, .val (.int (q1 &&& (7 : Int32)))] [(.long q4)]))
      refine own_st (fun _ k => XS.lconst X0.here hx rfl (hb hby d6_24) k) ?_
      show own_G p.tables e below _ (s₁.setTop (mkF m 25 #[.val (.int q1), .val (.long q2), .second, .val (.long q3), .second, .val (.long q4), .second, .val (.int (q1 &&& (7 : Int32)))] [(.long (1 : Int64)), (.long q4)]))
      refine own_st (fun _ k => XS.ladd X0.here hx rfl (hb hby d6_25) rfl k) ?_
      show own_G p.tables e below _ (s₁.setTop (mkF m 26 #[.val (.int q1), .val (.long q2), .second, .val (.long q3), .second, .val (.long q4), .second, .val (.int (q1 &&& (7 : Int32)))] [(.long (q4 + (1 : Int64)))]))
      exact own_retJ X0 hx hlk Bd.returns (hb hby d6_26) (by rw [e0]; exact ⟨⟨_, rfl, ((if_neg hc9_1).trans (if_pos hc19_2)).symm⟩, N0, rfl⟩) (by decide) (by decide)
    · refine own_st (fun _ k => XS.icmpYes X0.here hx rfl (pc0 := 19) (pc' := 27) rfl (hb hby d6_19) rfl (feq hc19_2).2 (by decide) (by decide) k) ?_
      show own_G p.tables e below _ (s₁.setTop (mkF m 27 #[.val (.int q1), .val (.long q2), .second, .val (.long q3), .second, .val (.long q4), .second, .val (.int (q1 &&& (7 : Int32)))] []))
      refine own_st (fun _ k => XS.iload X0.here hx rfl (hb hby d6_27) rfl k) ?_
      show own_G p.tables e below _ (s₁.setTop (mkF m 29 #[.val (.int q1), .val (.long q2), .second, .val (.long q3), .second, .val (.long q4), .second, .val (.int (q1 &&& (7 : Int32)))] [(.int (q1 &&& (7 : Int32)))]))
      refine own_st (fun _ k => XS.bipush X0.here hx rfl (hb hby d6_29) k) ?_
      show own_G p.tables e below _ (s₁.setTop (mkF m 31 #[.val (.int q1), .val (.long q2), .second, .val (.long q3), .second, .val (.long q4), .second, .val (.int (q1 &&& (7 : Int32)))] [(.int (6 : Int32)), (.int (q1 &&& (7 : Int32)))]))
      by_cases hc31_3 : (q1 &&& (7 : Int32)) = (6 : Int32)
      · refine own_st (fun _ k => XS.icmpNo X0.here hx rfl (hb hby d6_31) rfl (teq hc31_3).2 k) ?_
        show own_G p.tables e below _ (s₁.setTop (mkF m 34 #[.val (.int q1), .val (.long q2), .second, .val (.long q3), .second, .val (.long q4), .second, .val (.int (q1 &&& (7 : Int32)))] []))
        refine own_st (fun _ k => XS.lloadN X0.here hx rfl (hb hby d6_34) rfl k) ?_
        show own_G p.tables e below _ (s₁.setTop (mkF m 35 #[.val (.int q1), .val (.long q2), .second, .val (.long q3), .second, .val (.long q4), .second, .val (.int (q1 &&& (7 : Int32)))] [(.long q3)]))
        refine own_st (fun _ k => XS.lconst X0.here hx rfl (hb hby d6_35) k) ?_
        show own_G p.tables e below _ (s₁.setTop (mkF m 36 #[.val (.int q1), .val (.long q2), .second, .val (.long q3), .second, .val (.long q4), .second, .val (.int (q1 &&& (7 : Int32)))] [(.long (1 : Int64)), (.long q3)]))
        refine own_st (fun _ k => XS.ladd X0.here hx rfl (hb hby d6_36) rfl k) ?_
        show own_G p.tables e below _ (s₁.setTop (mkF m 37 #[.val (.int q1), .val (.long q2), .second, .val (.long q3), .second, .val (.long q4), .second, .val (.int (q1 &&& (7 : Int32)))] [(.long (q3 + (1 : Int64)))]))
        exact own_retJ X0 hx hlk Bd.returns (hb hby d6_37) (by rw [e0]; exact ⟨⟨_, rfl, ((if_neg hc9_1).trans ((if_neg hc19_2).trans (if_pos hc31_3))).symm⟩, N0, rfl⟩) (by decide) (by decide)
      · refine own_st (fun _ k => XS.icmpYes X0.here hx rfl (pc0 := 31) (pc' := 38) rfl (hb hby d6_31) rfl (feq hc31_3).2 (by decide) (by decide) k) ?_
        show own_G p.tables e below _ (s₁.setTop (mkF m 38 #[.val (.int q1), .val (.long q2), .second, .val (.long q3), .second, .val (.long q4), .second, .val (.int (q1 &&& (7 : Int32)))] []))
        refine own_st (fun _ k => XS.iload X0.here hx rfl (hb hby d6_38) rfl k) ?_
        show own_G p.tables e below _ (s₁.setTop (mkF m 40 #[.val (.int q1), .val (.long q2), .second, .val (.long q3), .second, .val (.long q4), .second, .val (.int (q1 &&& (7 : Int32)))] [(.int (q1 &&& (7 : Int32)))]))
        refine own_st (fun _ k => XS.bipush X0.here hx rfl (hb hby d6_40) k) ?_
        show own_G p.tables e below _ (s₁.setTop (mkF m 42 #[.val (.int q1), .val (.long q2), .second, .val (.long q3), .second, .val (.long q4), .second, .val (.int (q1 &&& (7 : Int32)))] [(.int (7 : Int32)), (.int (q1 &&& (7 : Int32)))]))
        by_cases hc42_4 : (q1 &&& (7 : Int32)) = (7 : Int32)
        · refine own_st (fun _ k => XS.icmpNo X0.here hx rfl (hb hby d6_42) rfl (teq hc42_4).2 k) ?_
          show own_G p.tables e below _ (s₁.setTop (mkF m 45 #[.val (.int q1), .val (.long q2), .second, .val (.long q3), .second, .val (.long q4), .second, .val (.int (q1 &&& (7 : Int32)))] []))
          refine own_st (fun _ k => XS.lload X0.here hx rfl (hb hby d6_45) rfl k) ?_
          show own_G p.tables e below _ (s₁.setTop (mkF m 47 #[.val (.int q1), .val (.long q2), .second, .val (.long q3), .second, .val (.long q4), .second, .val (.int (q1 &&& (7 : Int32)))] [(.long q4)]))
          refine own_st (fun _ k => XS.lconst X0.here hx rfl (hb hby d6_47) k) ?_
          show own_G p.tables e below _ (s₁.setTop (mkF m 48 #[.val (.int q1), .val (.long q2), .second, .val (.long q3), .second, .val (.long q4), .second, .val (.int (q1 &&& (7 : Int32)))] [(.long (1 : Int64)), (.long q4)]))
          refine own_st (fun _ k => XS.lsub X0.here hx rfl (hb hby d6_48) rfl k) ?_
          show own_G p.tables e below _ (s₁.setTop (mkF m 49 #[.val (.int q1), .val (.long q2), .second, .val (.long q3), .second, .val (.long q4), .second, .val (.int (q1 &&& (7 : Int32)))] [(.long (q4 - (1 : Int64)))]))
          exact own_retJ X0 hx hlk Bd.returns (hb hby d6_49) (by rw [e0]; exact ⟨⟨_, rfl, ((if_neg hc9_1).trans ((if_neg hc19_2).trans ((if_neg hc31_3).trans (if_pos hc42_4)))).symm⟩, N0, rfl⟩) (by decide) (by decide)
        · refine own_st (fun _ k => XS.icmpYes X0.here hx rfl (pc0 := 42) (pc' := 50) rfl (hb hby d6_42) rfl (feq hc42_4).2 (by decide) (by decide) k) ?_
          show own_G p.tables e below _ (s₁.setTop (mkF m 50 #[.val (.int q1), .val (.long q2), .second, .val (.long q3), .second, .val (.long q4), .second, .val (.int (q1 &&& (7 : Int32)))] []))
          refine own_st (fun _ k => XS.lloadN X0.here hx rfl (hb hby d6_50) rfl k) ?_
          show own_G p.tables e below _ (s₁.setTop (mkF m 51 #[.val (.int q1), .val (.long q2), .second, .val (.long q3), .second, .val (.long q4), .second, .val (.int (q1 &&& (7 : Int32)))] [(.long q2)]))
          exact own_retJ X0 hx hlk Bd.returns (hb hby d6_51) (by rw [e0]; exact ⟨⟨_, rfl, ((if_neg hc9_1).trans ((if_neg hc19_2).trans ((if_neg hc31_3).trans (if_neg hc42_4)))).symm⟩, N0, rfl⟩) (by decide) (by decide)
def Q7 (Z : State) (a1 : Addr) (q1 : Int64) (u_low_a1 : Int64) (u_high_a1 : Int64) (h0 : Heap) (n0 : Nat) (v : Option Value) (h : Heap) (L : List Loc) : Prop := (∃ z : Int32, v = some (.int z) ∧ z = (own_b (¬ (q1 < u_low_a1) ∧ (¬ (u_high_a1 < q1))))) ∧ Fr n0 L ∧ h = h0
set_option maxRecDepth 65536 in
set_option maxHeartbeats 40000000 in
theorem rm7 (l : Launch) (Z : State) (a0 : Array Value) (hw : ∀ d ∈ tables_1, d.before a0 Z = true) (ws : List Jvm.Cond) (a1 : Addr) (q1 : Int64) (u_low_a1 : Int64) (u_high_a1 : Int64) (h0 : Heap) (n0 : Nat) (Z0 : n0 ≤ h0.size) (F_low_a1 : Fld Z h0 a1 "com/example/stakan/stakan/venue/PriceCorridor" "low" "J" (.long u_low_a1)) (F_high_a1 : Fld Z h0 a1 "com/example/stakan/stakan/venue/PriceCorridor" "high" "J" (.long u_high_a1)) (E_a1 : Exa Z h0 a1 "com/example/stakan/stakan/venue/PriceCorridor") :
    MetFree l (⟨"com/example/stakan/stakan/venue/PriceCorridor", "contains", "(J)Z"⟩ : MethodName) (head1 (Jvm.Cond.code (⟨"com/example/stakan/stakan/venue/PriceCorridor", "contains", "(J)Z"⟩ : MethodName) prog_47_method_2_code 3 (some .boolean) :: ws) ({ frames := 0, cells := 0, slots := 0, locals := 0 } : Room)) (fun a U => a = #[(.ref a1), (.long q1)] ∧ Z.Warmed39 U.vm ∧ U.heap = h0) (fun _ _ _ _ _ => True) (fun _ U o U' => ∃ v L, o = .returned v ∧ Q7 Z a1 q1 u_low_a1 u_high_a1 h0 n0 v U'.heap L ∧ FrameEnd U o U' L ({ frames := 0, cells := 0, slots := 0, locals := 0 } : Room).cells ({ frames := 0, cells := 0, slots := 0, locals := 0 } : Room).slots) := by
  refine MetFree.of_bodySF (plainFor_of_name pn_7) hisR ?_
  intro p e s m args below meth c s₁ Bd hml0 hP hK
  obtain ⟨rfl, hZ, hh⟩ := hP
  have hx := Bd.exec
  have hby := Bd.bytes
  have hlk := BodyLoose.notSynchronized Bd
  have hml : c.maxLocals = 3 := hml0
  have hown : s.vm.findClass "com/example/stakan/stakan/venue/PriceCorridor" = some m.cls := findClass_of_methodNamed Bd.named
  have hnm := (name_of_methodNamed Bd.named Bd.method).1
  have X0 : Stand p l e ({ frames := 0, cells := 0, slots := 0, locals := 0 } : Room) s m #[(.ref a1), (.long q1)] below meth c s₁ [] 0 0 := Stand.of_body Bd
  have e0 : s₁.heap = h0 := by rw [← hh, Bd.state]; rfl
  have N0 := Fr.nil n0
  have K0 := Keep.refl h0 []
  show own_G p.tables e below (own_P s (Q7 Z a1 q1 u_low_a1 u_high_a1 h0 n0) 0 0) (s₁.setTop (entryFrame m #[(.ref a1), (.long q1)] 3))
  refine own_st (fun t k => castTop (ef_7 m a1 q1) k) ?_
  show own_G p.tables e below _ (s₁.setTop (mkF m 0 #[.val (.ref a1), .val (.long q1), .second] []))
  refine own_st (fun _ k => XS.aloadN X0.here hx rfl (hb hby d7_0) rfl rfl k) ?_
  show own_G p.tables e below _ (s₁.setTop (mkF m 1 #[.val (.ref a1), .val (.long q1), .second] [(.ref a1)]))
  obtain ⟨T1, X1, e1, st1⟩ := getF X0 hx hZ hown (host := "") (Or.inl (hw _ (List.mem_of_getElem? (i := 21) rfl))) Via.refl e0 F_low_a1 (g := (mkF m 1 #[.val (.ref a1), .val (.long q1), .second] [(.ref a1)])) rfl rfl (hb hby d7_1)
  refine own_st st1 ?_
  show own_G p.tables e below _ (T1.setTop (mkF m 4 #[.val (.ref a1), .val (.long q1), .second] [(.long u_low_a1)]))
  refine own_st (fun _ k => XS.lloadN X1.here hx rfl (hb hby d7_4) rfl k) ?_
  show own_G p.tables e below _ (T1.setTop (mkF m 5 #[.val (.ref a1), .val (.long q1), .second] [(.long q1), (.long u_low_a1)]))
  refine own_st (fun _ k => XS.lcmp X1.here hx rfl (hb hby d7_5) rfl k) ?_
  show own_G p.tables e below _ (T1.setTop (mkF m 6 #[.val (.ref a1), .val (.long q1), .second] [(.int (lcmpW u_low_a1 q1))]))
  have J23_3 : ∀ (z4 : Int32) (hz4 : z4 = (own_b (¬ (q1 < u_low_a1) ∧ (¬ (u_high_a1 < q1))))) (T5 : State) (L5 : List Loc) (X5 : Stand p l e ({ frames := 0, cells := 0, slots := 0, locals := 0 } : Room) s m #[(.ref a1), (.long q1)] below meth c T5 L5 0 0) (N5 : Fr n0 L5) (e5 : T5.heap = h0), own_G p.tables e below (own_P s (Q7 Z a1 q1 u_low_a1 u_high_a1 h0 n0) 0 0) (T5.setTop (mkF m 23 #[.val (.ref a1), .val (.long q1), .second] [(.int z4)])) := by
    intro z4 hz4 T5 L5 X5 N5 e5
    exact own_retZ X5 hx hlk Bd.returns (hb hby d7_23) (own_nar hz4) (by rw [e5]; exact ⟨⟨_, rfl, (by subst hz4; exact rfl)⟩, N5, rfl⟩) (by decide) (by decide)
  by_cases hc6_2 : q1 < u_low_a1
  · refine own_st (fun _ k => XS.ifYes X1.here hx rfl (pc0 := 6) (pc' := 22) rfl (hb hby d7_6) rfl ((if0 _ _).trans (tlt ((lw_gt u_low_a1 q1).mpr hc6_2)).2.2.1) (by decide) (by decide) k) ?_
    show own_G p.tables e below _ (T1.setTop (mkF m 22 #[.val (.ref a1), .val (.long q1), .second] []))
    refine own_st (fun _ k => XS.iconst X1.here hx rfl (hb hby d7_22) k) ?_
    show own_G p.tables e below _ (T1.setTop (mkF m 23 #[.val (.ref a1), .val (.long q1), .second] [(.int (0 : Int32))]))
    exact J23_3 (0 : Int32) ((own_bf (fun q => q.1 hc6_2)).symm) _ _ X1 N0 e1
  · refine own_st (fun _ k => XS.ifNo X1.here hx rfl (hb hby d7_6) rfl ((if0 _ _).trans (flt (fun q => hc6_2 ((lw_gt u_low_a1 q1).mp q))).2.2.1) k) ?_
    show own_G p.tables e below _ (T1.setTop (mkF m 9 #[.val (.ref a1), .val (.long q1), .second] []))
    refine own_st (fun _ k => XS.lloadN X1.here hx rfl (hb hby d7_9) rfl k) ?_
    show own_G p.tables e below _ (T1.setTop (mkF m 10 #[.val (.ref a1), .val (.long q1), .second] [(.long q1)]))
    refine own_st (fun _ k => XS.aloadN X1.here hx rfl (hb hby d7_10) rfl rfl k) ?_
    show own_G p.tables e below _ (T1.setTop (mkF m 11 #[.val (.ref a1), .val (.long q1), .second] [(.ref a1), (.long q1)]))
    obtain ⟨T6, X6, e6, st6⟩ := getF X1 hx hZ hown (host := "") (Or.inl (hw _ (List.mem_of_getElem? (i := 23) rfl))) Via.refl e1 F_high_a1 (g := (mkF m 11 #[.val (.ref a1), .val (.long q1), .second] [(.ref a1), (.long q1)])) rfl rfl (hb hby d7_11)
    refine own_st st6 ?_
    show own_G p.tables e below _ (T6.setTop (mkF m 14 #[.val (.ref a1), .val (.long q1), .second] [(.long u_high_a1), (.long q1)]))
    refine own_st (fun _ k => XS.lcmp X6.here hx rfl (hb hby d7_14) rfl k) ?_
    show own_G p.tables e below _ (T6.setTop (mkF m 15 #[.val (.ref a1), .val (.long q1), .second] [(.int (lcmpW q1 u_high_a1))]))
    by_cases hc15_7 : u_high_a1 < q1
    · refine own_st (fun _ k => XS.ifYes X6.here hx rfl (pc0 := 15) (pc' := 22) rfl (hb hby d7_15) rfl ((if0 _ _).trans (tlt ((lw_gt q1 u_high_a1).mpr hc15_7)).2.2.1) (by decide) (by decide) k) ?_
      show own_G p.tables e below _ (T6.setTop (mkF m 22 #[.val (.ref a1), .val (.long q1), .second] []))
      refine own_st (fun _ k => XS.iconst X6.here hx rfl (hb hby d7_22) k) ?_
      show own_G p.tables e below _ (T6.setTop (mkF m 23 #[.val (.ref a1), .val (.long q1), .second] [(.int (0 : Int32))]))
      exact J23_3 (0 : Int32) ((own_bf (fun q => (fun q => q hc15_7) q.2)).symm) _ _ X6 N0 e6
    · refine own_st (fun _ k => XS.ifNo X6.here hx rfl (hb hby d7_15) rfl ((if0 _ _).trans (flt (fun q => hc15_7 ((lw_gt q1 u_high_a1).mp q))).2.2.1) k) ?_
      show own_G p.tables e below _ (T6.setTop (mkF m 18 #[.val (.ref a1), .val (.long q1), .second] []))
      refine own_st (fun _ k => XS.iconst X6.here hx rfl (hb hby d7_18) k) ?_
      show own_G p.tables e below _ (T6.setTop (mkF m 19 #[.val (.ref a1), .val (.long q1), .second] [(.int (1 : Int32))]))
      refine own_st (fun _ k => XS.goto X6.here hx rfl (pc0 := 19) (pc' := 23) rfl (hb hby d7_19) (by decide) (by decide) k) ?_
      show own_G p.tables e below _ (T6.setTop (mkF m 23 #[.val (.ref a1), .val (.long q1), .second] [(.int (1 : Int32))]))
      exact J23_3 (1 : Int32) ((own_bt ⟨hc6_2, hc15_7⟩).symm) _ _ X6 N0 e6
def Q0 (n0 : Nat) (v : Option Value) (h : Heap) (L : List Loc) : Prop := v = some (.int 1) ∧ Fr n0 L
set_option maxRecDepth 65536 in
set_option maxHeartbeats 40000000 in
theorem rm0 (l : Launch) (Z : State) (a0 : Array Value) (hw : ∀ d ∈ tables_1, d.before a0 Z = true) (ws : List Jvm.Cond) (i0 : Int64) (i1 : Int64) (i2 : Int64) (i3 : Int32) (h0 : Heap) (n0 : Nat) (Z0 : n0 ≤ h0.size) :
    MetFree l x (head1 (Jvm.Cond.code x code maxLocals ret :: ws) room_1) (fun a U => a = #[(.long i0), (.long i1), (.long i2), (.int i3)] ∧ Z.Warmed39 U.vm ∧ U.heap = h0) (fun _ _ _ _ _ => True) (fun _ U o U' => ∃ v L, o = .returned v ∧ Q0 n0 v U'.heap L ∧ FrameEnd U o U' L 16 128) := by
  refine MetFree.of_bodySF (plainFor_of_name pn_0) hisR ?_
  intro p e s m args below meth c s₁ Bd hml0 hP hK
  obtain ⟨rfl, hZ, hh⟩ := hP
  have hx := Bd.exec
  have hby := Bd.bytes
  have hlk := BodyLoose.notSynchronized Bd
  have hml : c.maxLocals = 17 := hml0
  have hown : s.vm.findClass "com/example/stakan/stakan/venue/PriceCorridorContainsPinLaw" = some m.cls := findClass_of_methodNamed Bd.named
  have hnm := (name_of_methodNamed Bd.named Bd.method).1
  have X0 : Stand p l e room_1 s m #[(.long i0), (.long i1), (.long i2), (.int i3)] below meth c s₁ [] 0 0 := Stand.of_body Bd
  have e0 : s₁.heap = h0 := by rw [← hh, Bd.state]; rfl
  have N0 := Fr.nil n0
  have K0 := Keep.refl h0 []
  show own_G p.tables e below (own_P s (Q0 n0) 16 128) (s₁.setTop (entryFrame m #[(.long i0), (.long i1), (.long i2), (.int i3)] maxLocals))
  refine own_st (fun t k => castTop (ef_0 m i0 i1 i2 i3) k) ?_
  show own_G p.tables e below _ (s₁.setTop (mkF m 0 #[.val (.long i0), .second, .val (.long i1), .second, .val (.long i2), .second, .val (.int i3), .unset, .unset, .unset, .unset, .unset, .unset, .unset, .unset, .unset, .unset] []))
  refine own_st (fun _ k => XS.lloadN X0.here hx rfl (hb hby at_0) rfl k) ?_
  show own_G p.tables e below _ (s₁.setTop (mkF m 1 #[.val (.long i0), .second, .val (.long i1), .second, .val (.long i2), .second, .val (.int i3), .unset, .unset, .unset, .unset, .unset, .unset, .unset, .unset, .unset, .unset] [(.long i0)]))
  refine own_st (fun _ k => XS.lloadN X0.here hx rfl (hb hby at_1) rfl k) ?_
  show own_G p.tables e below _ (s₁.setTop (mkF m 2 #[.val (.long i0), .second, .val (.long i1), .second, .val (.long i2), .second, .val (.int i3), .unset, .unset, .unset, .unset, .unset, .unset, .unset, .unset, .unset, .unset] [(.long i1), (.long i0)]))
  obtain ⟨_, _, ⟨T1, L1, k1, n1⟩, -, X1, ⟨Lc1, hQ1, l1, y1, z1⟩, st1⟩ := Jvm.LawKit.callS X0 hx (y := (⟨"java/lang/Math", "min", "(JJ)J"⟩ : MethodName)) hown (mvT hZ (hw _ (List.mem_of_getElem? (i := 0) rfl))) (mvT hZ (hw _ (List.mem_of_getElem? (i := 1) rfl))) (mvT hZ (hw _ (List.mem_of_getElem? (i := 2) rfl))) (mvT hZ (hw _ (List.mem_of_getElem? (i := 3) rfl))) (by decide) (backOf (W := 0) (rm1 l Z a0 hw [] i0 i1 h0 n0 Z0 ) hZ (hw _ (List.mem_of_getElem? (i := 3) rfl)) (hw _ (List.mem_of_getElem? (i := 2) rfl)) (by decide) (by decide)) (g := (mkF m 2 #[.val (.long i0), .second, .val (.long i1), .second, .val (.long i2), .second, .val (.int i3), .unset, .unset, .unset, .unset, .unset, .unset, .unset, .unset, .unset, .unset] [(.long i1), (.long i0)])) rfl (by rw [hml]; rfl) (argsL := [(.long i0), (.long i1)]) (rest := []) (lenOf pd_1 rfl) rfl (by show 2 * 0 + _ ≤ _; exact Nat.le_of_eq rfl) (hb hby at_2) (fun _ _ => ⟨rfl, e0, (by decide : 0 + 0 ≤ _), (by decide : 0 + 0 ≤ _)⟩)
  dsimp only [Pt.U, Pt.locs, Pt.cells, Pt.slots] at X1 l1 y1 z1 st1 hQ1
  subst l1 y1 z1
  obtain ⟨⟨r1, rfl, hr1⟩, N1q, e1⟩ := hQ1
  have N1 := Fr.app N0 N1q
  refine own_st st1 ?_
  show own_G p.tables e below _ (T1.setTop (mkF m 5 #[.val (.long i0), .second, .val (.long i1), .second, .val (.long i2), .second, .val (.int i3), .unset, .unset, .unset, .unset, .unset, .unset, .unset, .unset, .unset, .unset] [(.long r1)]))
  refine own_st (fun _ k => XS.lstore X1.here hx rfl (hb hby at_5) rfl (l' := #[.val (.long i0), .second, .val (.long i1), .second, .val (.long i2), .second, .val (.int i3), .val (.long r1), .second, .unset, .unset, .unset, .unset, .unset, .unset, .unset, .unset]) rfl k) ?_
  show own_G p.tables e below _ (T1.setTop (mkF m 7 #[.val (.long i0), .second, .val (.long i1), .second, .val (.long i2), .second, .val (.int i3), .val (.long r1), .second, .unset, .unset, .unset, .unset, .unset, .unset, .unset, .unset] []))
  refine own_st (fun _ k => XS.lloadN X1.here hx rfl (hb hby at_7) rfl k) ?_
  show own_G p.tables e below _ (T1.setTop (mkF m 8 #[.val (.long i0), .second, .val (.long i1), .second, .val (.long i2), .second, .val (.int i3), .val (.long r1), .second, .unset, .unset, .unset, .unset, .unset, .unset, .unset, .unset] [(.long i0)]))
  refine own_st (fun _ k => XS.lloadN X1.here hx rfl (hb hby at_8) rfl k) ?_
  show own_G p.tables e below _ (T1.setTop (mkF m 9 #[.val (.long i0), .second, .val (.long i1), .second, .val (.long i2), .second, .val (.int i3), .val (.long r1), .second, .unset, .unset, .unset, .unset, .unset, .unset, .unset, .unset] [(.long i1), (.long i0)]))
  obtain ⟨_, _, ⟨T2, L2, k2, n2⟩, -, X2, ⟨Lc2, hQ2, l2, y2, z2⟩, st2⟩ := Jvm.LawKit.callS X1 hx (y := (⟨"java/lang/Math", "max", "(JJ)J"⟩ : MethodName)) hown (mvT hZ (hw _ (List.mem_of_getElem? (i := 4) rfl))) (mvT hZ (hw _ (List.mem_of_getElem? (i := 5) rfl))) (mvT hZ (hw _ (List.mem_of_getElem? (i := 2) rfl))) (mvT hZ (hw _ (List.mem_of_getElem? (i := 6) rfl))) (by decide) (backOf (W := 0) (rm2 l Z a0 hw [] i0 i1 h0 n0 Z0 ) hZ (hw _ (List.mem_of_getElem? (i := 6) rfl)) (hw _ (List.mem_of_getElem? (i := 2) rfl)) (by decide) (by decide)) (g := (mkF m 9 #[.val (.long i0), .second, .val (.long i1), .second, .val (.long i2), .second, .val (.int i3), .val (.long r1), .second, .unset, .unset, .unset, .unset, .unset, .unset, .unset, .unset] [(.long i1), (.long i0)])) rfl (by rw [hml]; rfl) (argsL := [(.long i0), (.long i1)]) (rest := []) (lenOf pd_1 rfl) rfl (by show 2 * 0 + _ ≤ _; exact Nat.le_of_eq rfl) (hb hby at_9) (fun _ _ => ⟨rfl, e1, (by decide : 0 + 0 ≤ _), (by decide : 0 + 0 ≤ _)⟩)
  dsimp only [Pt.U, Pt.locs, Pt.cells, Pt.slots] at X2 l2 y2 z2 st2 hQ2
  subst l2 y2 z2
  obtain ⟨⟨r2, rfl, hr2⟩, N2q, e2⟩ := hQ2
  have N2 := Fr.app N1 N2q
  refine own_st st2 ?_
  show own_G p.tables e below _ (T2.setTop (mkF m 12 #[.val (.long i0), .second, .val (.long i1), .second, .val (.long i2), .second, .val (.int i3), .val (.long r1), .second, .unset, .unset, .unset, .unset, .unset, .unset, .unset, .unset] [(.long r2)]))
  refine own_st (fun _ k => XS.lstore X2.here hx rfl (hb hby at_12) rfl (l' := #[.val (.long i0), .second, .val (.long i1), .second, .val (.long i2), .second, .val (.int i3), .val (.long r1), .second, .val (.long r2), .second, .unset, .unset, .unset, .unset, .unset, .unset]) rfl k) ?_
  show own_G p.tables e below _ (T2.setTop (mkF m 14 #[.val (.long i0), .second, .val (.long i1), .second, .val (.long i2), .second, .val (.int i3), .val (.long r1), .second, .val (.long r2), .second, .unset, .unset, .unset, .unset, .unset, .unset] []))
  obtain ⟨T3, h3, X3, e3, E3, A3, D3, -, st3⟩ := newO X2 hx hZ hown (hw _ (List.mem_of_getElem? (i := 7) rfl)) (hw _ (List.mem_of_getElem? (i := 8) rfl)) (hw _ (List.mem_of_getElem? (i := 9) rfl)) e2 (g := (mkF m 14 #[.val (.long i0), .second, .val (.long i1), .second, .val (.long i2), .second, .val (.int i3), .val (.long r1), .second, .val (.long r2), .second, .unset, .unset, .unset, .unset, .unset, .unset] [])) rfl (hb hby at_14) (by decide) (by decide)
  obtain ⟨b3, g3⟩ : ∃ z, z = h0.size := ⟨_, rfl⟩
  rw [← g3] at A3 D3 st3
  have ge_b3 : n0 ≤ b3 := Nat.le_trans Z0 (Nat.le_of_eq g3.symm)
  have Z4 := Nat.le_trans Z0 E3.1
  have F5 : Fld Z h3 b3 "com/example/stakan/stakan/venue/PriceCorridor" "low" "J" (.long (0 : Int64)) := D3 (Or.inr (hw _ (List.mem_of_getElem? (i := 22) rfl))) (ty := .long) (by decide)
  have F6 : Fld Z h3 b3 "com/example/stakan/stakan/venue/PriceCorridor" "high" "J" (.long (0 : Int64)) := D3 (Or.inr (hw _ (List.mem_of_getElem? (i := 24) rfl))) (ty := .long) (by decide)
  refine own_st st3 ?_
  show own_G p.tables e below _ (T3.setTop (mkF m 17 #[.val (.long i0), .second, .val (.long i1), .second, .val (.long i2), .second, .val (.int i3), .val (.long r1), .second, .val (.long r2), .second, .unset, .unset, .unset, .unset, .unset, .unset] [(.ref b3)]))
  refine own_st (fun _ k => XS.dup X3.here hx rfl (hb hby at_17) rfl rfl k) ?_
  show own_G p.tables e below _ (T3.setTop (mkF m 18 #[.val (.long i0), .second, .val (.long i1), .second, .val (.long i2), .second, .val (.int i3), .val (.long r1), .second, .val (.long r2), .second, .unset, .unset, .unset, .unset, .unset, .unset] [(.ref b3), (.ref b3)]))
  refine own_st (fun _ k => XS.lload X3.here hx rfl (hb hby at_18) rfl k) ?_
  show own_G p.tables e below _ (T3.setTop (mkF m 20 #[.val (.long i0), .second, .val (.long i1), .second, .val (.long i2), .second, .val (.int i3), .val (.long r1), .second, .val (.long r2), .second, .unset, .unset, .unset, .unset, .unset, .unset] [(.long r1), (.ref b3), (.ref b3)]))
  refine own_st (fun _ k => XS.lload X3.here hx rfl (hb hby at_20) rfl k) ?_
  show own_G p.tables e below _ (T3.setTop (mkF m 22 #[.val (.long i0), .second, .val (.long i1), .second, .val (.long i2), .second, .val (.int i3), .val (.long r1), .second, .val (.long r2), .second, .unset, .unset, .unset, .unset, .unset, .unset] [(.long r2), (.long r1), (.ref b3), (.ref b3)]))
  obtain ⟨_, _, ⟨T7, L7, k7, n7⟩, -, X7, ⟨Lc7, hQ7, l7, y7, z7⟩, st7⟩ := X3.specialBack hx (y := (⟨"com/example/stakan/stakan/venue/PriceCorridor", "<init>", "(JJ)V"⟩ : MethodName)) rfl hown (mvT hZ (hw _ (List.mem_of_getElem? (i := 10) rfl))) (mvT hZ (hw _ (List.mem_of_getElem? (i := 11) rfl))) (mvT hZ (hw _ (List.mem_of_getElem? (i := 12) rfl))) (by decide) (backOf (W := 1) (rm3 l Z a0 hw [] b3 r1 r2 (0 : Int64) (0 : Int64) h3 n0 Z4 F5 F6 A3 (by subst_vars; exact own_lohi _ _) ge_b3) hZ (hw _ (List.mem_of_getElem? (i := 12) rfl)) (hw _ (List.mem_of_getElem? (i := 9) rfl)) (by decide) (by decide)) (g := (mkF m 22 #[.val (.long i0), .second, .val (.long i1), .second, .val (.long i2), .second, .val (.int i3), .val (.long r1), .second, .val (.long r2), .second, .unset, .unset, .unset, .unset, .unset, .unset] [(.long r2), (.long r1), (.ref b3), (.ref b3)])) rfl (by rw [hml]; rfl) (Steps.refl _) (a := b3) (argsL := [(.long r1), (.long r2)]) (rest := [(.ref b3)]) (lenOf pd_2 rfl) rfl (by show 2 * 0 + _ ≤ _; exact Nat.le_of_eq rfl) (hb hby at_22) (fun _ _ => ⟨rfl, e3, (by decide : 1 + 0 ≤ _), (by decide : 2 + 0 ≤ _)⟩)
  dsimp only [Pt.U, Pt.locs, Pt.cells, Pt.slots] at X7 l7 y7 z7 st7 hQ7
  subst l7 y7 z7
  obtain ⟨rfl, N7q, K7q, E8, F9, F10⟩ := hQ7
  have N7 := Fr.app N2 N7q
  have Z12 := Nat.le_trans Z4 K7q.1
  refine own_st (fun _ k => st7.trans k) ?_
  show own_G p.tables e below _ (T7.setTop (mkF m 25 #[.val (.long i0), .second, .val (.long i1), .second, .val (.long i2), .second, .val (.int i3), .val (.long r1), .second, .val (.long r2), .second, .unset, .unset, .unset, .unset, .unset, .unset] [(.ref b3)]))
  refine own_st (fun _ k => XS.astore X7.here hx rfl (hb hby at_25) rfl rfl (l' := #[.val (.long i0), .second, .val (.long i1), .second, .val (.long i2), .second, .val (.int i3), .val (.long r1), .second, .val (.long r2), .second, .val (.ref b3), .unset, .unset, .unset, .unset, .unset]) rfl k) ?_
  show own_G p.tables e below _ (T7.setTop (mkF m 27 #[.val (.long i0), .second, .val (.long i1), .second, .val (.long i2), .second, .val (.int i3), .val (.long r1), .second, .val (.long r2), .second, .val (.ref b3), .unset, .unset, .unset, .unset, .unset] []))
  refine own_st (fun _ k => XS.iload X7.here hx rfl (hb hby at_27) rfl k) ?_
  show own_G p.tables e below _ (T7.setTop (mkF m 29 #[.val (.long i0), .second, .val (.long i1), .second, .val (.long i2), .second, .val (.int i3), .val (.long r1), .second, .val (.long r2), .second, .val (.ref b3), .unset, .unset, .unset, .unset, .unset] [(.int i3)]))
  refine own_st (fun _ k => XS.lload X7.here hx rfl (hb hby at_29) rfl k) ?_
  show own_G p.tables e below _ (T7.setTop (mkF m 31 #[.val (.long i0), .second, .val (.long i1), .second, .val (.long i2), .second, .val (.int i3), .val (.long r1), .second, .val (.long r2), .second, .val (.ref b3), .unset, .unset, .unset, .unset, .unset] [(.long i2), (.int i3)]))
  refine own_st (fun _ k => XS.lload X7.here hx rfl (hb hby at_31) rfl k) ?_
  show own_G p.tables e below _ (T7.setTop (mkF m 33 #[.val (.long i0), .second, .val (.long i1), .second, .val (.long i2), .second, .val (.int i3), .val (.long r1), .second, .val (.long r2), .second, .val (.ref b3), .unset, .unset, .unset, .unset, .unset] [(.long r1), (.long i2), (.int i3)]))
  refine own_st (fun _ k => XS.lload X7.here hx rfl (hb hby at_33) rfl k) ?_
  show own_G p.tables e below _ (T7.setTop (mkF m 35 #[.val (.long i0), .second, .val (.long i1), .second, .val (.long i2), .second, .val (.int i3), .val (.long r1), .second, .val (.long r2), .second, .val (.ref b3), .unset, .unset, .unset, .unset, .unset] [(.long r2), (.long r1), (.long i2), (.int i3)]))
  obtain ⟨_, _, ⟨T15, L15, k15, n15⟩, -, X15, ⟨Lc15, hQ15, l15, y15, z15⟩, st15⟩ := Jvm.LawKit.callS X7 hx (y := (⟨"com/example/stakan/stakan/venue/PriceCorridorContainsPinLaw", "pick", "(IJJJ)J"⟩ : MethodName)) hown (mvT hZ (hw _ (List.mem_of_getElem? (i := 25) rfl))) (mvT hZ (hw _ (List.mem_of_getElem? (i := 26) rfl))) (mvT hZ (hw _ (List.mem_of_getElem? (i := 27) rfl))) (mvT hZ (hw _ (List.mem_of_getElem? (i := 28) rfl))) (by decide) (backOf (W := 0) (rm6 l Z a0 hw [] i3 i2 r1 r2 T7.heap n0 Z12 ) hZ (hw _ (List.mem_of_getElem? (i := 28) rfl)) (hw _ (List.mem_of_getElem? (i := 27) rfl)) (by decide) (by decide)) (g := (mkF m 35 #[.val (.long i0), .second, .val (.long i1), .second, .val (.long i2), .second, .val (.int i3), .val (.long r1), .second, .val (.long r2), .second, .val (.ref b3), .unset, .unset, .unset, .unset, .unset] [(.long r2), (.long r1), (.long i2), (.int i3)])) rfl (by rw [hml]; rfl) (argsL := [(.int i3), (.long i2), (.long r1), (.long r2)]) (rest := []) (lenOf pd_3 rfl) rfl (by show 2 * 0 + _ ≤ _; exact Nat.le_of_eq rfl) (hb hby at_35) (fun _ _ => ⟨rfl, rfl, (by decide : 1 + 0 ≤ _), (by decide : 2 + 0 ≤ _)⟩)
  dsimp only [Pt.U, Pt.locs, Pt.cells, Pt.slots] at X15 l15 y15 z15 st15 hQ15
  subst l15 y15 z15
  obtain ⟨⟨r15, rfl, hr15⟩, N15q, e15⟩ := hQ15
  have N15 := Fr.app N7 N15q
  refine own_st st15 ?_
  show own_G p.tables e below _ (T15.setTop (mkF m 38 #[.val (.long i0), .second, .val (.long i1), .second, .val (.long i2), .second, .val (.int i3), .val (.long r1), .second, .val (.long r2), .second, .val (.ref b3), .unset, .unset, .unset, .unset, .unset] [(.long r15)]))
  refine own_st (fun _ k => XS.lstore X15.here hx rfl (hb hby at_38) rfl (l' := #[.val (.long i0), .second, .val (.long i1), .second, .val (.long i2), .second, .val (.int i3), .val (.long r1), .second, .val (.long r2), .second, .val (.ref b3), .val (.long r15), .second, .unset, .unset, .unset]) rfl k) ?_
  show own_G p.tables e below _ (T15.setTop (mkF m 40 #[.val (.long i0), .second, .val (.long i1), .second, .val (.long i2), .second, .val (.int i3), .val (.long r1), .second, .val (.long r2), .second, .val (.ref b3), .val (.long r15), .second, .unset, .unset, .unset] []))
  refine own_st (fun _ k => XS.lload X15.here hx rfl (hb hby at_40) rfl k) ?_
  show own_G p.tables e below _ (T15.setTop (mkF m 42 #[.val (.long i0), .second, .val (.long i1), .second, .val (.long i2), .second, .val (.int i3), .val (.long r1), .second, .val (.long r2), .second, .val (.ref b3), .val (.long r15), .second, .unset, .unset, .unset] [(.long r1)]))
  refine own_st (fun _ k => XS.lload X15.here hx rfl (hb hby at_42) rfl k) ?_
  show own_G p.tables e below _ (T15.setTop (mkF m 44 #[.val (.long i0), .second, .val (.long i1), .second, .val (.long i2), .second, .val (.int i3), .val (.long r1), .second, .val (.long r2), .second, .val (.ref b3), .val (.long r15), .second, .unset, .unset, .unset] [(.long r15), (.long r1)]))
  refine own_st (fun _ k => XS.lload X15.here hx rfl (hb hby at_44) rfl k) ?_
  show own_G p.tables e below _ (T15.setTop (mkF m 46 #[.val (.long i0), .second, .val (.long i1), .second, .val (.long i2), .second, .val (.int i3), .val (.long r1), .second, .val (.long r2), .second, .val (.ref b3), .val (.long r15), .second, .unset, .unset, .unset] [(.long r2), (.long r15), (.long r1)]))
  obtain ⟨_, _, ⟨T16, L16, k16, n16⟩, -, X16, ⟨Lc16, hQ16, l16, y16, z16⟩, st16⟩ := Jvm.LawKit.callS X15 hx (y := (⟨"java/lang/Math", "min", "(JJ)J"⟩ : MethodName)) hown (mvT hZ (hw _ (List.mem_of_getElem? (i := 0) rfl))) (mvT hZ (hw _ (List.mem_of_getElem? (i := 1) rfl))) (mvT hZ (hw _ (List.mem_of_getElem? (i := 2) rfl))) (mvT hZ (hw _ (List.mem_of_getElem? (i := 3) rfl))) (by decide) (backOf (W := 2) (rm1 l Z a0 hw [] r15 r2 T7.heap n0 Z12 ) hZ (hw _ (List.mem_of_getElem? (i := 3) rfl)) (hw _ (List.mem_of_getElem? (i := 2) rfl)) (by decide) (by decide)) (g := (mkF m 46 #[.val (.long i0), .second, .val (.long i1), .second, .val (.long i2), .second, .val (.int i3), .val (.long r1), .second, .val (.long r2), .second, .val (.ref b3), .val (.long r15), .second, .unset, .unset, .unset] [(.long r2), (.long r15), (.long r1)])) rfl (by rw [hml]; rfl) (argsL := [(.long r15), (.long r2)]) (rest := [(.long r1)]) (lenOf pd_1 rfl) rfl (by show 2 * 0 + _ ≤ _; exact Nat.le_of_eq rfl) (hb hby at_46) (fun _ _ => ⟨rfl, e15, (by decide : 1 + 0 ≤ _), (by decide : 2 + 0 ≤ _)⟩)
  dsimp only [Pt.U, Pt.locs, Pt.cells, Pt.slots] at X16 l16 y16 z16 st16 hQ16
  subst l16 y16 z16
  obtain ⟨⟨r16, rfl, hr16⟩, N16q, e16⟩ := hQ16
  have N16 := Fr.app N15 N16q
  refine own_st st16 ?_
  show own_G p.tables e below _ (T16.setTop (mkF m 49 #[.val (.long i0), .second, .val (.long i1), .second, .val (.long i2), .second, .val (.int i3), .val (.long r1), .second, .val (.long r2), .second, .val (.ref b3), .val (.long r15), .second, .unset, .unset, .unset] [(.long r16), (.long r1)]))
  obtain ⟨_, _, ⟨T17, L17, k17, n17⟩, -, X17, ⟨Lc17, hQ17, l17, y17, z17⟩, st17⟩ := Jvm.LawKit.callS X16 hx (y := (⟨"java/lang/Math", "max", "(JJ)J"⟩ : MethodName)) hown (mvT hZ (hw _ (List.mem_of_getElem? (i := 4) rfl))) (mvT hZ (hw _ (List.mem_of_getElem? (i := 5) rfl))) (mvT hZ (hw _ (List.mem_of_getElem? (i := 2) rfl))) (mvT hZ (hw _ (List.mem_of_getElem? (i := 6) rfl))) (by decide) (backOf (W := 0) (rm2 l Z a0 hw [] r1 r16 T7.heap n0 Z12 ) hZ (hw _ (List.mem_of_getElem? (i := 6) rfl)) (hw _ (List.mem_of_getElem? (i := 2) rfl)) (by decide) (by decide)) (g := (mkF m 49 #[.val (.long i0), .second, .val (.long i1), .second, .val (.long i2), .second, .val (.int i3), .val (.long r1), .second, .val (.long r2), .second, .val (.ref b3), .val (.long r15), .second, .unset, .unset, .unset] [(.long r16), (.long r1)])) rfl (by rw [hml]; rfl) (argsL := [(.long r1), (.long r16)]) (rest := []) (lenOf pd_1 rfl) rfl (by show 2 * 0 + _ ≤ _; exact Nat.le_of_eq rfl) (hb hby at_49) (fun _ _ => ⟨rfl, e16, (by decide : 1 + 0 ≤ _), (by decide : 2 + 0 ≤ _)⟩)
  dsimp only [Pt.U, Pt.locs, Pt.cells, Pt.slots] at X17 l17 y17 z17 st17 hQ17
  subst l17 y17 z17
  obtain ⟨⟨r17, rfl, hr17⟩, N17q, e17⟩ := hQ17
  have N17 := Fr.app N16 N17q
  refine own_st st17 ?_
  show own_G p.tables e below _ (T17.setTop (mkF m 52 #[.val (.long i0), .second, .val (.long i1), .second, .val (.long i2), .second, .val (.int i3), .val (.long r1), .second, .val (.long r2), .second, .val (.ref b3), .val (.long r15), .second, .unset, .unset, .unset] [(.long r17)]))
  refine own_st (fun _ k => XS.lload X17.here hx rfl (hb hby at_52) rfl k) ?_
  show own_G p.tables e below _ (T17.setTop (mkF m 54 #[.val (.long i0), .second, .val (.long i1), .second, .val (.long i2), .second, .val (.int i3), .val (.long r1), .second, .val (.long r2), .second, .val (.ref b3), .val (.long r15), .second, .unset, .unset, .unset] [(.long r15), (.long r17)]))
  refine own_st (fun _ k => XS.lcmp X17.here hx rfl (hb hby at_54) rfl k) ?_
  show own_G p.tables e below _ (T17.setTop (mkF m 55 #[.val (.long i0), .second, .val (.long i1), .second, .val (.long i2), .second, .val (.int i3), .val (.long r1), .second, .val (.long r2), .second, .val (.ref b3), .val (.long r15), .second, .unset, .unset, .unset] [(.int (lcmpW r17 r15))]))
  have J63_19 : ∀ (z20 : Int32) (hz20 : z20 = (own_b (r17 = r15))), own_G p.tables e below (own_P s (Q0 n0) 16 128) (T17.setTop (mkF m 63 #[.val (.long i0), .second, .val (.long i1), .second, .val (.long i2), .second, .val (.int i3), .val (.long r1), .second, .val (.long r2), .second, .val (.ref b3), .val (.long r15), .second, .unset, .unset, .unset] [(.int z20)])) := by
    intro z20 hz20
    refine own_st (fun _ k => XS.istore X17.here hx rfl (hb hby at_63) rfl (l' := #[.val (.long i0), .second, .val (.long i1), .second, .val (.long i2), .second, .val (.int i3), .val (.long r1), .second, .val (.long r2), .second, .val (.ref b3), .val (.long r15), .second, .val (.int z20), .unset, .unset]) rfl k) ?_
    show own_G p.tables e below _ (T17.setTop (mkF m 65 #[.val (.long i0), .second, .val (.long i1), .second, .val (.long i2), .second, .val (.int i3), .val (.long r1), .second, .val (.long r2), .second, .val (.ref b3), .val (.long r15), .second, .val (.int z20), .unset, .unset] []))
    refine own_st (fun _ k => XS.aload X17.here hx rfl (hb hby at_65) rfl rfl k) ?_
    show own_G p.tables e below _ (T17.setTop (mkF m 67 #[.val (.long i0), .second, .val (.long i1), .second, .val (.long i2), .second, .val (.int i3), .val (.long r1), .second, .val (.long r2), .second, .val (.ref b3), .val (.long r15), .second, .val (.int z20), .unset, .unset] [(.ref b3)]))
    refine own_st (fun _ k => XS.lload X17.here hx rfl (hb hby at_67) rfl k) ?_
    show own_G p.tables e below _ (T17.setTop (mkF m 69 #[.val (.long i0), .second, .val (.long i1), .second, .val (.long i2), .second, .val (.int i3), .val (.long r1), .second, .val (.long r2), .second, .val (.ref b3), .val (.long r15), .second, .val (.int z20), .unset, .unset] [(.long r15), (.ref b3)]))
    obtain ⟨cq21, kq21, q21a, q21b, q21c⟩ := isOf hZ e17 E8
    obtain ⟨_, _, ⟨T21, L21, k21, n21⟩, -, X21, ⟨Lc21, hQ21, l21, y21, z21⟩, st21⟩ := X17.virtualBack hx (y := (⟨"com/example/stakan/stakan/venue/PriceCorridor", "contains", "(J)Z"⟩ : MethodName)) (z := (⟨"com/example/stakan/stakan/venue/PriceCorridor", "contains", "(J)Z"⟩ : MethodName)) hown (mvT hZ (hw _ (List.mem_of_getElem? (i := 29) rfl))) (mvT hZ (hw _ (List.mem_of_getElem? (i := 30) rfl))) (notFace_of_selects (args := #[]) (mvT hZ (hw _ (List.mem_of_getElem? (i := 32) rfl)))) (mvT hZ (hw _ (List.mem_of_getElem? (i := 32) rfl))) (mvT hZ (hw _ (List.mem_of_getElem? (i := 31) rfl))) (by decide) (backOf (W := 0) (rm7 l Z a0 hw [] b3 r15 r1 r2 T7.heap n0 Z12 F9 F10 E8) hZ (hw _ (List.mem_of_getElem? (i := 33) rfl)) (hw _ (List.mem_of_getElem? (i := 9) rfl)) (by decide) (by decide)) q21a q21c (g := (mkF m 69 #[.val (.long i0), .second, .val (.long i1), .second, .val (.long i2), .second, .val (.int i3), .val (.long r1), .second, .val (.long r2), .second, .val (.ref b3), .val (.long r15), .second, .val (.int z20), .unset, .unset] [(.long r15), (.ref b3)])) rfl (by rw [hml]; rfl) (Steps.refl _) (argsL := [(.long r15)]) (rest := []) (lenOf pd_4 rfl) rfl (by show 2 * 0 + _ ≤ _; exact Nat.le_of_eq rfl) (hb hby at_69) (fun _ _ => ⟨rfl, e17, (by decide : 1 + 0 ≤ _), (by decide : 2 + 0 ≤ _)⟩)
    dsimp only [Pt.U, Pt.locs, Pt.cells, Pt.slots] at X21 l21 y21 z21 st21 hQ21
    subst l21 y21 z21
    obtain ⟨⟨r21, rfl, hr21⟩, N21q, e21⟩ := hQ21
    have N21 := Fr.app N17 N21q
    refine own_st (fun _ k => st21.trans k) ?_
    show own_G p.tables e below _ (T21.setTop (mkF m 72 #[.val (.long i0), .second, .val (.long i1), .second, .val (.long i2), .second, .val (.int i3), .val (.long r1), .second, .val (.long r2), .second, .val (.ref b3), .val (.long r15), .second, .val (.int z20), .unset, .unset] [(.int r21)]))
    refine own_st (fun _ k => XS.istore X21.here hx rfl (hb hby at_72) rfl (l' := #[.val (.long i0), .second, .val (.long i1), .second, .val (.long i2), .second, .val (.int i3), .val (.long r1), .second, .val (.long r2), .second, .val (.ref b3), .val (.long r15), .second, .val (.int z20), .val (.int r21), .unset]) rfl k) ?_
    show own_G p.tables e below _ (T21.setTop (mkF m 74 #[.val (.long i0), .second, .val (.long i1), .second, .val (.long i2), .second, .val (.int i3), .val (.long r1), .second, .val (.long r2), .second, .val (.ref b3), .val (.long r15), .second, .val (.int z20), .val (.int r21), .unset] []))
    refine own_st (fun _ k => XS.aload X21.here hx rfl (hb hby at_74) rfl rfl k) ?_
    show own_G p.tables e below _ (T21.setTop (mkF m 76 #[.val (.long i0), .second, .val (.long i1), .second, .val (.long i2), .second, .val (.int i3), .val (.long r1), .second, .val (.long r2), .second, .val (.ref b3), .val (.long r15), .second, .val (.int z20), .val (.int r21), .unset] [(.ref b3)]))
    refine own_st (fun _ k => XS.lload X21.here hx rfl (hb hby at_76) rfl k) ?_
    show own_G p.tables e below _ (T21.setTop (mkF m 78 #[.val (.long i0), .second, .val (.long i1), .second, .val (.long i2), .second, .val (.int i3), .val (.long r1), .second, .val (.long r2), .second, .val (.ref b3), .val (.long r15), .second, .val (.int z20), .val (.int r21), .unset] [(.long r1), (.ref b3)]))
    obtain ⟨cq22, kq22, q22a, q22b, q22c⟩ := isOf hZ e21 E8
    obtain ⟨_, _, ⟨T22, L22, k22, n22⟩, -, X22, ⟨Lc22, hQ22, l22, y22, z22⟩, st22⟩ := X21.virtualBack hx (y := (⟨"com/example/stakan/stakan/venue/PriceCorridor", "contains", "(J)Z"⟩ : MethodName)) (z := (⟨"com/example/stakan/stakan/venue/PriceCorridor", "contains", "(J)Z"⟩ : MethodName)) hown (mvT hZ (hw _ (List.mem_of_getElem? (i := 29) rfl))) (mvT hZ (hw _ (List.mem_of_getElem? (i := 30) rfl))) (notFace_of_selects (args := #[]) (mvT hZ (hw _ (List.mem_of_getElem? (i := 32) rfl)))) (mvT hZ (hw _ (List.mem_of_getElem? (i := 32) rfl))) (mvT hZ (hw _ (List.mem_of_getElem? (i := 31) rfl))) (by decide) (backOf (W := 0) (rm7 l Z a0 hw [] b3 r1 r1 r2 T7.heap n0 Z12 F9 F10 E8) hZ (hw _ (List.mem_of_getElem? (i := 33) rfl)) (hw _ (List.mem_of_getElem? (i := 9) rfl)) (by decide) (by decide)) q22a q22c (g := (mkF m 78 #[.val (.long i0), .second, .val (.long i1), .second, .val (.long i2), .second, .val (.int i3), .val (.long r1), .second, .val (.long r2), .second, .val (.ref b3), .val (.long r15), .second, .val (.int z20), .val (.int r21), .unset] [(.long r1), (.ref b3)])) rfl (by rw [hml]; rfl) (Steps.refl _) (argsL := [(.long r1)]) (rest := []) (lenOf pd_4 rfl) rfl (by show 2 * 0 + _ ≤ _; exact Nat.le_of_eq rfl) (hb hby at_78) (fun _ _ => ⟨rfl, e21, (by decide : 1 + 0 ≤ _), (by decide : 2 + 0 ≤ _)⟩)
    dsimp only [Pt.U, Pt.locs, Pt.cells, Pt.slots] at X22 l22 y22 z22 st22 hQ22
    subst l22 y22 z22
    obtain ⟨⟨r22, rfl, hr22⟩, N22q, e22⟩ := hQ22
    have N22 := Fr.app N21 N22q
    refine own_st (fun _ k => st22.trans k) ?_
    show own_G p.tables e below _ (T22.setTop (mkF m 81 #[.val (.long i0), .second, .val (.long i1), .second, .val (.long i2), .second, .val (.int i3), .val (.long r1), .second, .val (.long r2), .second, .val (.ref b3), .val (.long r15), .second, .val (.int z20), .val (.int r21), .unset] [(.int r22)]))
    have hf23 : ¬ (r1 < r1) ∧ (¬ (r2 < r1)) := by subst_vars; exact own_elo _ _
    refine own_st (fun _ k => XS.ifNo X22.here hx rfl (hb hby at_81) rfl ((if0 _ _).trans (feq (own_b1 hr22 hf23)).1) k) ?_
    show own_G p.tables e below _ (T22.setTop (mkF m 84 #[.val (.long i0), .second, .val (.long i1), .second, .val (.long i2), .second, .val (.int i3), .val (.long r1), .second, .val (.long r2), .second, .val (.ref b3), .val (.long r15), .second, .val (.int z20), .val (.int r21), .unset] []))
    refine own_st (fun _ k => XS.aload X22.here hx rfl (hb hby at_84) rfl rfl k) ?_
    show own_G p.tables e below _ (T22.setTop (mkF m 86 #[.val (.long i0), .second, .val (.long i1), .second, .val (.long i2), .second, .val (.int i3), .val (.long r1), .second, .val (.long r2), .second, .val (.ref b3), .val (.long r15), .second, .val (.int z20), .val (.int r21), .unset] [(.ref b3)]))
    refine own_st (fun _ k => XS.lload X22.here hx rfl (hb hby at_86) rfl k) ?_
    show own_G p.tables e below _ (T22.setTop (mkF m 88 #[.val (.long i0), .second, .val (.long i1), .second, .val (.long i2), .second, .val (.int i3), .val (.long r1), .second, .val (.long r2), .second, .val (.ref b3), .val (.long r15), .second, .val (.int z20), .val (.int r21), .unset] [(.long r2), (.ref b3)]))
    obtain ⟨cq24, kq24, q24a, q24b, q24c⟩ := isOf hZ e22 E8
    obtain ⟨_, _, ⟨T24, L24, k24, n24⟩, -, X24, ⟨Lc24, hQ24, l24, y24, z24⟩, st24⟩ := X22.virtualBack hx (y := (⟨"com/example/stakan/stakan/venue/PriceCorridor", "contains", "(J)Z"⟩ : MethodName)) (z := (⟨"com/example/stakan/stakan/venue/PriceCorridor", "contains", "(J)Z"⟩ : MethodName)) hown (mvT hZ (hw _ (List.mem_of_getElem? (i := 29) rfl))) (mvT hZ (hw _ (List.mem_of_getElem? (i := 30) rfl))) (notFace_of_selects (args := #[]) (mvT hZ (hw _ (List.mem_of_getElem? (i := 32) rfl)))) (mvT hZ (hw _ (List.mem_of_getElem? (i := 32) rfl))) (mvT hZ (hw _ (List.mem_of_getElem? (i := 31) rfl))) (by decide) (backOf (W := 0) (rm7 l Z a0 hw [] b3 r2 r1 r2 T7.heap n0 Z12 F9 F10 E8) hZ (hw _ (List.mem_of_getElem? (i := 33) rfl)) (hw _ (List.mem_of_getElem? (i := 9) rfl)) (by decide) (by decide)) q24a q24c (g := (mkF m 88 #[.val (.long i0), .second, .val (.long i1), .second, .val (.long i2), .second, .val (.int i3), .val (.long r1), .second, .val (.long r2), .second, .val (.ref b3), .val (.long r15), .second, .val (.int z20), .val (.int r21), .unset] [(.long r2), (.ref b3)])) rfl (by rw [hml]; rfl) (Steps.refl _) (argsL := [(.long r2)]) (rest := []) (lenOf pd_4 rfl) rfl (by show 2 * 0 + _ ≤ _; exact Nat.le_of_eq rfl) (hb hby at_88) (fun _ _ => ⟨rfl, e22, (by decide : 1 + 0 ≤ _), (by decide : 2 + 0 ≤ _)⟩)
    dsimp only [Pt.U, Pt.locs, Pt.cells, Pt.slots] at X24 l24 y24 z24 st24 hQ24
    subst l24 y24 z24
    obtain ⟨⟨r24, rfl, hr24⟩, N24q, e24⟩ := hQ24
    have N24 := Fr.app N22 N24q
    refine own_st (fun _ k => st24.trans k) ?_
    show own_G p.tables e below _ (T24.setTop (mkF m 91 #[.val (.long i0), .second, .val (.long i1), .second, .val (.long i2), .second, .val (.int i3), .val (.long r1), .second, .val (.long r2), .second, .val (.ref b3), .val (.long r15), .second, .val (.int z20), .val (.int r21), .unset] [(.int r24)]))
    have hf25 : ¬ (r2 < r1) ∧ (¬ (r2 < r2)) := by subst_vars; exact own_ehi _ _
    refine own_st (fun _ k => XS.ifNo X24.here hx rfl (hb hby at_91) rfl ((if0 _ _).trans (feq (own_b1 hr24 hf25)).1) k) ?_
    show own_G p.tables e below _ (T24.setTop (mkF m 94 #[.val (.long i0), .second, .val (.long i1), .second, .val (.long i2), .second, .val (.int i3), .val (.long r1), .second, .val (.long r2), .second, .val (.ref b3), .val (.long r15), .second, .val (.int z20), .val (.int r21), .unset] []))
    refine own_st (fun _ k => XS.iconst X24.here hx rfl (hb hby at_94) k) ?_
    show own_G p.tables e below _ (T24.setTop (mkF m 95 #[.val (.long i0), .second, .val (.long i1), .second, .val (.long i2), .second, .val (.int i3), .val (.long r1), .second, .val (.long r2), .second, .val (.ref b3), .val (.long r15), .second, .val (.int z20), .val (.int r21), .unset] [(.int (1 : Int32))]))
    refine own_st (fun _ k => XS.goto X24.here hx rfl (pc0 := 95) (pc' := 99) rfl (hb hby at_95) (by decide) (by decide) k) ?_
    show own_G p.tables e below _ (T24.setTop (mkF m 99 #[.val (.long i0), .second, .val (.long i1), .second, .val (.long i2), .second, .val (.int i3), .val (.long r1), .second, .val (.long r2), .second, .val (.ref b3), .val (.long r15), .second, .val (.int z20), .val (.int r21), .unset] [(.int (1 : Int32))]))
    refine own_st (fun _ k => XS.istore X24.here hx rfl (hb hby at_99) rfl (l' := #[.val (.long i0), .second, .val (.long i1), .second, .val (.long i2), .second, .val (.int i3), .val (.long r1), .second, .val (.long r2), .second, .val (.ref b3), .val (.long r15), .second, .val (.int z20), .val (.int r21), .val (.int (1 : Int32))]) rfl k) ?_
    show own_G p.tables e below _ (T24.setTop (mkF m 101 #[.val (.long i0), .second, .val (.long i1), .second, .val (.long i2), .second, .val (.int i3), .val (.long r1), .second, .val (.long r2), .second, .val (.ref b3), .val (.long r15), .second, .val (.int z20), .val (.int r21), .val (.int (1 : Int32))] []))
    refine own_st (fun _ k => XS.iload X24.here hx rfl (hb hby at_101) rfl k) ?_
    show own_G p.tables e below _ (T24.setTop (mkF m 103 #[.val (.long i0), .second, .val (.long i1), .second, .val (.long i2), .second, .val (.int i3), .val (.long r1), .second, .val (.long r2), .second, .val (.ref b3), .val (.long r15), .second, .val (.int z20), .val (.int r21), .val (.int (1 : Int32))] [(.int r21)]))
    refine own_st (fun _ k => XS.iload X24.here hx rfl (hb hby at_103) rfl k) ?_
    show own_G p.tables e below _ (T24.setTop (mkF m 105 #[.val (.long i0), .second, .val (.long i1), .second, .val (.long i2), .second, .val (.int i3), .val (.long r1), .second, .val (.long r2), .second, .val (.ref b3), .val (.long r15), .second, .val (.int z20), .val (.int r21), .val (.int (1 : Int32))] [(.int z20), (.int r21)]))
    have hf26 : r21 = z20 := by rw [hr21, hz20]; subst_vars; exact own_bc (own_iff _ _ _)
    refine own_st (fun _ k => XS.icmpNo X24.here hx rfl (hb hby at_105) rfl (teq hf26).2 k) ?_
    show own_G p.tables e below _ (T24.setTop (mkF m 108 #[.val (.long i0), .second, .val (.long i1), .second, .val (.long i2), .second, .val (.int i3), .val (.long r1), .second, .val (.long r2), .second, .val (.ref b3), .val (.long r15), .second, .val (.int z20), .val (.int r21), .val (.int (1 : Int32))] []))
    refine own_st (fun _ k => XS.iload X24.here hx rfl (hb hby at_108) rfl k) ?_
    show own_G p.tables e below _ (T24.setTop (mkF m 110 #[.val (.long i0), .second, .val (.long i1), .second, .val (.long i2), .second, .val (.int i3), .val (.long r1), .second, .val (.long r2), .second, .val (.ref b3), .val (.long r15), .second, .val (.int z20), .val (.int r21), .val (.int (1 : Int32))] [(.int (1 : Int32))]))
    refine own_st (fun _ k => XS.ifNo X24.here hx rfl (hb hby at_110) rfl (by decide) k) ?_
    show own_G p.tables e below _ (T24.setTop (mkF m 113 #[.val (.long i0), .second, .val (.long i1), .second, .val (.long i2), .second, .val (.int i3), .val (.long r1), .second, .val (.long r2), .second, .val (.ref b3), .val (.long r15), .second, .val (.int z20), .val (.int r21), .val (.int (1 : Int32))] []))
    refine own_st (fun _ k => XS.iconst X24.here hx rfl (hb hby at_113) k) ?_
    show own_G p.tables e below _ (T24.setTop (mkF m 114 #[.val (.long i0), .second, .val (.long i1), .second, .val (.long i2), .second, .val (.int i3), .val (.long r1), .second, .val (.long r2), .second, .val (.ref b3), .val (.long r15), .second, .val (.int z20), .val (.int r21), .val (.int (1 : Int32))] [(.int (1 : Int32))]))
    refine own_st (fun _ k => XS.goto X24.here hx rfl (pc0 := 114) (pc' := 118) rfl (hb hby at_114) (by decide) (by decide) k) ?_
    show own_G p.tables e below _ (T24.setTop (mkF m 118 #[.val (.long i0), .second, .val (.long i1), .second, .val (.long i2), .second, .val (.int i3), .val (.long r1), .second, .val (.long r2), .second, .val (.ref b3), .val (.long r15), .second, .val (.int z20), .val (.int r21), .val (.int (1 : Int32))] [(.int (1 : Int32))]))
    exact own_retZ X24 hx hlk Bd.returns (hb hby at_118) (by decide) ⟨rfl, N24⟩ (by decide) (by decide)
  by_cases hc55_18 : r17 = r15
  · refine own_st (fun _ k => XS.ifNo X17.here hx rfl (hb hby at_55) rfl ((if0 _ _).trans (teq ((lw_eq r17 r15).mpr hc55_18)).2) k) ?_
    show own_G p.tables e below _ (T17.setTop (mkF m 58 #[.val (.long i0), .second, .val (.long i1), .second, .val (.long i2), .second, .val (.int i3), .val (.long r1), .second, .val (.long r2), .second, .val (.ref b3), .val (.long r15), .second, .unset, .unset, .unset] []))
    refine own_st (fun _ k => XS.iconst X17.here hx rfl (hb hby at_58) k) ?_
    show own_G p.tables e below _ (T17.setTop (mkF m 59 #[.val (.long i0), .second, .val (.long i1), .second, .val (.long i2), .second, .val (.int i3), .val (.long r1), .second, .val (.long r2), .second, .val (.ref b3), .val (.long r15), .second, .unset, .unset, .unset] [(.int (1 : Int32))]))
    refine own_st (fun _ k => XS.goto X17.here hx rfl (pc0 := 59) (pc' := 63) rfl (hb hby at_59) (by decide) (by decide) k) ?_
    show own_G p.tables e below _ (T17.setTop (mkF m 63 #[.val (.long i0), .second, .val (.long i1), .second, .val (.long i2), .second, .val (.int i3), .val (.long r1), .second, .val (.long r2), .second, .val (.ref b3), .val (.long r15), .second, .unset, .unset, .unset] [(.int (1 : Int32))]))
    exact J63_19 (1 : Int32) ((own_bt hc55_18).symm)
  · refine own_st (fun _ k => XS.ifYes X17.here hx rfl (pc0 := 55) (pc' := 62) rfl (hb hby at_55) rfl ((if0 _ _).trans (feq (fun q => hc55_18 ((lw_eq r17 r15).mp q))).2) (by decide) (by decide) k) ?_
    show own_G p.tables e below _ (T17.setTop (mkF m 62 #[.val (.long i0), .second, .val (.long i1), .second, .val (.long i2), .second, .val (.int i3), .val (.long r1), .second, .val (.long r2), .second, .val (.ref b3), .val (.long r15), .second, .unset, .unset, .unset] []))
    refine own_st (fun _ k => XS.iconst X17.here hx rfl (hb hby at_62) k) ?_
    show own_G p.tables e below _ (T17.setTop (mkF m 63 #[.val (.long i0), .second, .val (.long i1), .second, .val (.long i2), .second, .val (.int i3), .val (.long r1), .second, .val (.long r2), .second, .val (.ref b3), .val (.long r15), .second, .unset, .unset, .unset] [(.int (0 : Int32))]))
    exact J63_19 (0 : Int32) ((own_bf hc55_18).symm)
set_option maxRecDepth 65536 in
set_option maxHeartbeats 40000000 in
theorem comes_1 {Post : Tables → Env → Array Value → State → Outcome → State → Prop} (hpost : ∀ tb e args s v u, (limb_1_1.after args s (.returned v) u = true ∧ limb_1_2.after args s (.returned v) u = true ∧ True) → FrameEnd s (.returned v) u (Jvm.fieldLocs frame_1_writes args s ++ Jvm.arrayLocs frame_1_arrays args s ++ Jvm.staticLocs frame_1_statics s) 16 128 → Post tb e args s (.returned v) u) :
    ArmFor flags0 classFile x code maxLocals ret World_1 tables_1 room_1 Calls_1 rest_1 Pre_1 Post := by
  intro l hfl _ _ p e ha hc hk s m args below hf hA hF happ hP
  obtain ⟨hcalls, hrest, hpre⟩ := hP
  obtain ⟨-, -, -, hnamed, -, -, -, hat⟩ := (Spec.applies_iff hf).mp happ
  obtain ⟨hg, hn⟩ := and_e (Cond.before_iff.mp (show (Jvm.Cond.and given_1 narrow_1).before args s = true from hpre))
  obtain ⟨gc, g0⟩ := and_e hg
  obtain ⟨ga0, g1⟩ := and_e g0
  obtain ⟨ga1, g2⟩ := and_e g1
  obtain ⟨ga2, g3⟩ := and_e g2
  obtain ⟨w0, w1, w2, w3, rfl⟩ : ∃ w0 w1 w2 w3 : Value, args = #[w0, w1, w2, w3] := by
    have hs : args.size = 4 := by simpa [Cond.value, given_1] using gc
    obtain ⟨L⟩ := args
    match L, hs with
    | [w0, w1, w2, w3], _ => exact ⟨w0, w1, w2, w3, rfl⟩
  have hw := fun d (hd : d ∈ tables_1) => atoms_spec (ws := Jvm.Cond.code x code maxLocals ret :: tables_1) hat d (List.mem_cons_of_mem _ hd)
  have hfit : Fit s := fun {y c} hc i hi => by
    obtain ⟨ha, rfl⟩ := Array.getElem?_eq_some_iff.mp hc
    have q := List.all_eq_true.mp ((Array.all_eq_true_iff_forall_mem.mp hF) _ (Array.getElem_mem ha)) i (List.mem_range.mpr hi)
    simpa [Array.getElem?_eq_getElem hi] using q
  obtain ⟨i0, ei0⟩ := isL_v ga0
  obtain rfl : w0 = (.long i0) := Option.some.inj ei0
  obtain ⟨i1, ei1⟩ := isL_v ga1
  obtain rfl : w1 = (.long i1) := Option.some.inj ei1
  obtain ⟨i2, ei2⟩ := isL_v ga2
  obtain rfl : w2 = (.long i2) := Option.some.inj ei2
  obtain ⟨i3, ei3⟩ := is_v g3
  obtain rfl : w3 = (.int i3) := Option.some.inj ei3
  obtain ⟨n, o, h1, h2, h3, _, L, rfl, ⟨rfl, N⟩, hq⟩ := rm0 l s _ hw tables_1 i0 i1 i2 i3  s.heap s.heap.size (Nat.le_refl _)   p e ha hc hk s m _ below hf ((Spec.applies_iff_loose hf).mp happ).1 ⟨rfl, State.Warmed39.refl s, rfl⟩ trivial
  refine ⟨n, _, h1, h2, h3, hpost _ _ _ _ _ _ ⟨Cond.after_iff.mpr rfl, Cond.after_iff.mpr (eq_i res_at (Term.int_eval (1)) rfl), trivial⟩ ⟨hq.1, hq.2.1, (hq.2.2.sift fun y hy => Or.inr (N y hy)).mono (by decide) (by decide)⟩⟩
theorem main_1_1 : Claimed_1_1 := comes_1 fun _ _ _ _ _ _ h hF => ⟨h.1, hF⟩
theorem main_1_2 : Claimed_1_2 := comes_1 fun _ _ _ _ _ _ h hF => ⟨h.2.1, hF⟩
end Jvm.Pilot.@@N@@
namespace Jvm.Pilot.@@N@@
open Jvm Jvm.ClassFile Sem Op Lib Jvm.Free Jvm.Stand Jvm.Pilot.@@N@@.Jvm.D
/-! MADE BY PROGRAM (witnessworld.py) out of the Statement's table words and the real class files: 11 classes; the members and pool entries that the words name. The judged class is class 1, her method 2. -/
namespace start1
open Jvm.ClassFile
def u (s : String) : CpInfo := .utf8 (stringToUtf16 s)
/-- a pool by its gaps: so many unusable entries, then the entry; so many at the end -/
def gap : Nat → List CpInfo → List CpInfo
  | 0, r => r
  | n + 1, r => .unusable :: gap n r
def poolList (es : List (Nat × CpInfo)) (last : Nat) : List CpInfo := es.foldr (fun e r => gap e.1 (e.2 :: r)) (gap last [])
def pool (es : List (Nat × CpInfo)) (last : Nat) : Array CpInfo := ⟨poolList es last⟩
def fileOf (pool : Array CpInfo) (this : Nat) (attrs : Array Attribute := #[]) (ms : Array MethodInfo := #[]) (fl : Nat := 33) (sup : Nat := 0) (ifs : Array Nat := #[]) (fds : Array FieldInfo := #[]) : ClassFile where
  minorVersion := 0
  majorVersion := 65
  constantPool := pool
  accessFlags := fl
  thisClass := this
  superClass := sup
  interfaces := ifs
  fields := fds
  methods := ms
  attributes := attrs
def plain (name : String) (sup : Option ClassId) : Class where
  name := name
  kind := .ordinary
  loader := none
  accessFlags := 33
  super := sup
  interfaces := #[]
  cf := none
  fields := #[]
  methods := #[]
  instanceTypes := #[]
  staticTypes := #[]
  resolved := #[]
  callSites := []
  init := .initialized
  statics := none
  mirror := none

def pool0 : Array CpInfo := pool [(5, u "<init>"), (0, u "()V"), (1, .class_ 10), (1, u "java/lang/Object")] 113

def k0c0 : Code := { maxStack := 0, maxLocals := 1, code := object_method_1_code, exceptionTable := #[], attributes := #[] }
def k0m0 : Method := { name := "<init>", desc := "()V", sig := { parameters := [], returnType := none }, accessFlags := 1, code := some k0c0 }
/-- java/lang/Object -/
def k0 : Class := { plain "java/lang/Object" none with
  accessFlags := 33
  interfaces := #[]
  cf := some (fileOf pool0 8 #[] #[{ accessFlags := 1, nameIndex := 5, descriptorIndex := 6, attributes := #[] }] 33 0 #[] #[])
  fields := #[]
  methods := #[k0m0]
  instanceTypes := #[]
  staticTypes := #[]
  resolved := Array.replicate 124 none
  statics := none }

def pool1 : Array CpInfo := pool [(2, .class_ 4), (1, u "java/lang/Object"), (0, u "<init>"), (0, u "()V"), (0, .methodref 8 9), (0, .class_ 10), (0, .nameAndType 11 12), (0, u "java/lang/Math"), (0, u "min"), (0, u "(JJ)J"), (0, .methodref 8 14), (0, .nameAndType 15 12), (0, u "max"), (0, .class_ 17), (0, u "com/example/stakan/stakan/venue/PriceCorridor"), (0, .methodref 16 19), (0, .nameAndType 5 20), (0, u "(JJ)V"), (0, .methodref 22 23), (0, .class_ 24), (0, .nameAndType 25 26), (0, u "com/example/stakan/stakan/venue/PriceCorridorContainsPinLaw"), (0, u "pick"), (0, u "(IJJJ)J"), (0, .methodref 16 28), (0, .nameAndType 29 30), (0, u "contains"), (0, u "(J)Z"), (3, u "law"), (0, u "(JJJI)Z")] 2

def k1m0 : Method := { name := "<init>", desc := "()V", sig := { parameters := [], returnType := none }, accessFlags := 1, code := none }
def k1c1 : Code := { maxStack := 4, maxLocals := 8, code := method_2_code, exceptionTable := #[], attributes := #[] }
def k1m1 : Method := { name := "pick", desc := "(IJJJ)J", sig := { parameters := [.int, .long, .long, .long], returnType := some .long }, accessFlags := 10, code := some k1c1 }
def k1c2 : Code := { maxStack := 7, maxLocals := 17, code := code, exceptionTable := #[], attributes := #[] }
def k1m2 : Method := { name := "law", desc := "(JJJI)Z", sig := { parameters := [.long, .long, .long, .int], returnType := some .boolean }, accessFlags := 9, code := some k1c2 }
/-- com/example/stakan/stakan/venue/PriceCorridorContainsPinLaw -/
def k1 : Class := { plain "com/example/stakan/stakan/venue/PriceCorridorContainsPinLaw" (some 0) with
  accessFlags := 49
  interfaces := #[]
  cf := some (fileOf pool1 22 #[] #[{ accessFlags := 1, nameIndex := 5, descriptorIndex := 6, attributes := #[] }, { accessFlags := 10, nameIndex := 25, descriptorIndex := 26, attributes := #[] }, { accessFlags := 9, nameIndex := 34, descriptorIndex := 35, attributes := #[] }] 49 2 #[] #[])
  fields := #[]
  methods := #[k1m0, k1m1, k1m2]
  instanceTypes := #[]
  staticTypes := #[]
  resolved := Array.replicate 38 none
  statics := none }

def pool2 : Array CpInfo := pool [(1, .class_ 2), (0, u "java/lang/Math"), (1, .class_ 6), (1, u "java/lang/Object"), (0, u "<init>"), (0, u "()V"), (89, .class_ 100), (1, u "java/lang/Math$RandomNumberGeneratorHolder"), (20, u "(JJ)J"), (50, u "negativeZeroFloatBits"), (0, u "J"), (2, u "negativeZeroDoubleBits"), (21, u "max"), (2, u "min"), (43, u "$assertionsDisabled"), (0, u "Z"), (91, u "twoToTheDoubleScaleDown"), (0, u "D"), (4, u "twoToTheDoubleScaleUp"), (9, u "E"), (3, u "PI"), (2, u "TAU"), (2, u "DEGREES_TO_RADIANS"), (0, u "RADIANS_TO_DEGREES")] 94

def k2m0 : Method := { name := "<init>", desc := "()V", sig := { parameters := [], returnType := none }, accessFlags := 2, code := none }
def k2c1 : Code := { maxStack := 4, maxLocals := 4, code := jdk_29_method_66_code, exceptionTable := #[], attributes := #[] }
def k2m1 : Method := { name := "max", desc := "(JJ)J", sig := { parameters := [.long, .long], returnType := some .long }, accessFlags := 9, code := some k2c1 }
def k2c2 : Code := { maxStack := 4, maxLocals := 4, code := jdk_29_method_70_code, exceptionTable := #[], attributes := #[] }
def k2m2 : Method := { name := "min", desc := "(JJ)J", sig := { parameters := [.long, .long], returnType := some .long }, accessFlags := 9, code := some k2c2 }
/-- java/lang/Math -/
def k2 : Class := { plain "java/lang/Math" (some 0) with
  accessFlags := 49
  interfaces := #[]
  cf := some (fileOf pool2 1 #[.nestMembers #[98]] #[{ accessFlags := 2, nameIndex := 7, descriptorIndex := 8, attributes := #[] }, { accessFlags := 9, nameIndex := 198, descriptorIndex := 121, attributes := #[] }, { accessFlags := 9, nameIndex := 201, descriptorIndex := 121, attributes := #[] }] 49 4 #[] #[{ accessFlags := 25, nameIndex := 354, descriptorIndex := 339, attributes := #[] }, { accessFlags := 25, nameIndex := 358, descriptorIndex := 339, attributes := #[] }, { accessFlags := 25, nameIndex := 361, descriptorIndex := 339, attributes := #[] }, { accessFlags := 26, nameIndex := 364, descriptorIndex := 339, attributes := #[] }, { accessFlags := 26, nameIndex := 365, descriptorIndex := 339, attributes := #[] }, { accessFlags := 26, nameIndex := 172, descriptorIndex := 173, attributes := #[] }, { accessFlags := 26, nameIndex := 176, descriptorIndex := 173, attributes := #[] }, { accessFlags := 8, nameIndex := 344, descriptorIndex := 339, attributes := #[] }, { accessFlags := 8, nameIndex := 338, descriptorIndex := 339, attributes := #[] }, { accessFlags := 4120, nameIndex := 245, descriptorIndex := 246, attributes := #[] }])
  fields := #[{ name := "E", type := .double, accessFlags := 25, slot := 0, constantValue := 0 }, { name := "PI", type := .double, accessFlags := 25, slot := 1, constantValue := 0 }, { name := "TAU", type := .double, accessFlags := 25, slot := 2, constantValue := 0 }, { name := "DEGREES_TO_RADIANS", type := .double, accessFlags := 26, slot := 3, constantValue := 0 }, { name := "RADIANS_TO_DEGREES", type := .double, accessFlags := 26, slot := 4, constantValue := 0 }, { name := "negativeZeroFloatBits", type := .long, accessFlags := 26, slot := 5, constantValue := 0 }, { name := "negativeZeroDoubleBits", type := .long, accessFlags := 26, slot := 6, constantValue := 0 }, { name := "twoToTheDoubleScaleUp", type := .double, accessFlags := 8, slot := 7, constantValue := 0 }, { name := "twoToTheDoubleScaleDown", type := .double, accessFlags := 8, slot := 8, constantValue := 0 }, { name := "$assertionsDisabled", type := .boolean, accessFlags := 4120, slot := 9, constantValue := 0 }]
  methods := #[k2m0, k2m1, k2m2]
  instanceTypes := #[]
  staticTypes := #[.double, .double, .double, .double, .double, .long, .long, .double, .double, .boolean]
  resolved := Array.replicate 460 none
  statics := none }

def pool3 : Array CpInfo := pool [(1, .methodref 2 3), (0, .class_ 4), (0, .nameAndType 5 6), (0, u "java/lang/Object"), (0, u "<init>"), (0, u "()V"), (0, .class_ 8), (0, u "java/lang/Record")] 13

def k3c0 : Code := { maxStack := 1, maxLocals := 1, code := jdk_30_method_1_code, exceptionTable := #[], attributes := #[] }
def k3m0 : Method := { name := "<init>", desc := "()V", sig := { parameters := [], returnType := none }, accessFlags := 4, code := some k3c0 }
/-- java/lang/Record -/
def k3 : Class := { plain "java/lang/Record" (some 0) with
  accessFlags := 1057
  interfaces := #[]
  cf := some (fileOf pool3 7 #[] #[{ accessFlags := 4, nameIndex := 5, descriptorIndex := 6, attributes := #[] }] 1057 2 #[] #[])
  fields := #[]
  methods := #[k3m0]
  instanceTypes := #[]
  staticTypes := #[]
  resolved := Array.replicate 22 none
  statics := none }

def pool4 : Array CpInfo := pool [(1, .methodref 2 3), (0, .class_ 4), (0, .nameAndType 5 6), (0, u "java/lang/Record"), (0, u "<init>"), (0, u "()V"), (9, .fieldref 17 18), (0, .class_ 19), (0, .nameAndType 20 21), (0, u "com/example/stakan/stakan/venue/PriceCorridor"), (0, u "low"), (0, u "J"), (0, .fieldref 17 23), (0, .nameAndType 24 21), (0, u "high"), (26, u "(JJ)V"), (2, u "NONE"), (0, u "Lcom/example/stakan/stakan/venue/PriceCorridor;"), (4, u "contains"), (0, u "(J)Z")] 36

def k4c0 : Code := { maxStack := 6, maxLocals := 5, code := prog_47_method_1_code, exceptionTable := #[], attributes := #[] }
def k4m0 : Method := { name := "<init>", desc := "(JJ)V", sig := { parameters := [.long, .long], returnType := none }, accessFlags := 1, code := some k4c0 }
def k4c1 : Code := { maxStack := 4, maxLocals := 3, code := prog_47_method_2_code, exceptionTable := #[], attributes := #[] }
def k4m1 : Method := { name := "contains", desc := "(J)Z", sig := { parameters := [.long], returnType := some .boolean }, accessFlags := 1, code := some k4c1 }
/-- com/example/stakan/stakan/venue/PriceCorridor -/
def k4 : Class := { plain "com/example/stakan/stakan/venue/PriceCorridor" (some 3) with
  accessFlags := 49
  interfaces := #[]
  cf := some (fileOf pool4 17 #[] #[{ accessFlags := 1, nameIndex := 5, descriptorIndex := 51, attributes := #[] }, { accessFlags := 1, nameIndex := 60, descriptorIndex := 61, attributes := #[] }] 49 2 #[] #[{ accessFlags := 18, nameIndex := 20, descriptorIndex := 21, attributes := #[] }, { accessFlags := 18, nameIndex := 24, descriptorIndex := 21, attributes := #[] }, { accessFlags := 25, nameIndex := 54, descriptorIndex := 55, attributes := #[] }])
  fields := #[{ name := "low", type := .long, accessFlags := 18, slot := 0, constantValue := 0 }, { name := "high", type := .long, accessFlags := 18, slot := 1, constantValue := 0 }, { name := "NONE", type := (.object "com/example/stakan/stakan/venue/PriceCorridor"), accessFlags := 25, slot := 0, constantValue := 0 }]
  methods := #[k4m0, k4m1]
  instanceTypes := #[.long, .long]
  staticTypes := #[(.object "com/example/stakan/stakan/venue/PriceCorridor")]
  resolved := Array.replicate 98 none
  statics := none }

def pool5 : Array CpInfo := pool [(1, u "java/lang/Cloneable"), (0, .class_ 1), (0, u "java/lang/Object"), (0, .class_ 3)] 3

/-- java/lang/Cloneable -/
def k5 : Class := { plain "java/lang/Cloneable" (some 0) with
  accessFlags := 1537
  interfaces := #[]
  cf := some (fileOf pool5 2 #[] #[] 1537 4 #[] #[])
  fields := #[]
  methods := #[]
  instanceTypes := #[]
  staticTypes := #[]
  resolved := Array.replicate 8 none
  statics := none }

def pool6 : Array CpInfo := pool [(1, u "java/io/Serializable"), (0, .class_ 1), (0, u "java/lang/Object"), (0, .class_ 3)] 3

/-- java/io/Serializable -/
def k6 : Class := { plain "java/io/Serializable" (some 0) with
  accessFlags := 1537
  interfaces := #[]
  cf := some (fileOf pool6 2 #[] #[] 1537 4 #[] #[])
  fields := #[]
  methods := #[]
  instanceTypes := #[]
  staticTypes := #[]
  resolved := Array.replicate 8 none
  statics := none }

/-- the primitive byte -/
def k7 : Class := { plain "byte" none with kind := .primitive 'B', accessFlags := 0x411 }
/-- [B -/
def k8 : Class := { plain "[B" (some 0) with kind := .array 7 .byte, interfaces := #[5, 6], accessFlags := 1041 }

/-- the primitive int -/
def k9 : Class := { plain "int" none with kind := .primitive 'I', accessFlags := 0x411 }
/-- [I -/
def k10 : Class := { plain "[I" (some 0) with kind := .array 9 .int, interfaces := #[5, 6], accessFlags := 1041 }

def heap : Heap := #[]
def classes : Array Class := #[k0, k1, k2, k3, k4, k5, k6, k7, k8, k9, k10]
def interned : List (Array UInt16 × Addr) := []
def slotsUsed : Nat := 0
def theMethod : MethodId := ⟨1, 2⟩
def args0 : Array Value := #[.long 5, .long 5, .long 5, .int 5]
def aboutOver (below : List Frame) : State where
  vm := { classes := classes, interned := interned.toArray }
  heap := heap
  slotsUsed := slotsUsed
  threads := #[{ frames := .invoking theMethod args0 :: below }]
def below0 : List Frame := [.native { method := ⟨0, 0⟩, args := #[] }]
def about1 : State := aboutOver below0
def p0 : Program := .bare "" "" ""
def e0 : Env := launch0.env 0 0 0
theorem w_frames : about1.frames = Frame.invoking theMethod args0 :: below0 := rfl
set_option maxRecDepth 65536 in
theorem w_args : argsFit about1.vm theMethod args0 = true := by decide +kernel
set_option maxRecDepth 65536 in
theorem w_heap : heapFits about1 = true := by decide +kernel
set_option maxRecDepth 65536 in
theorem w_runnable : about1.curStatus? = some .runnable := by decide +kernel
set_option maxRecDepth 65536 in
theorem w_alone : about1.alone = true := by decide +kernel
set_option maxRecDepth 65536 in
theorem w_named : about1.methodNamed? x = some theMethod := by decide +kernel
set_option maxRecDepth 65536 in
theorem w_hears : about1.hears theMethod below0 = true := by decide +kernel
set_option maxRecDepth 65536 in
theorem w_ripe : about1.ripe theMethod args0 below0 = true := by decide +kernel
theorem w_running : about1.status = .running := rfl
set_option maxRecDepth 65536 in
theorem w_room : about1.hasRoom e0.platform room_1 = true :=
  launch0.hasRoom_least _ room_1 (by decide +kernel) (by decide +kernel) (by decide +kernel) (by decide +kernel) (by decide +kernel) (by decide +kernel)
theorem allAtoms_all (ts : List Jvm.Cond) (a : Array Jvm.Value) (st : Jvm.State) : (allAtoms ts).before a st = ts.all (fun c => c.before a st) := by
  induction ts with
  | nil => rfl
  | cons c t ih =>
    show (Jvm.Cond.and c (allAtoms t)).before a st = _
    rw [Jvm.Cond.before_and, ih, List.all_cons]
def words1 : List Jvm.Cond := Jvm.Cond.code x code maxLocals ret :: tables_1
/-- a 'code' word, met by the world's own term for the bytes: nothing is compared byte by byte -/
theorem code_word {y : MethodName} {bytes : ByteArray} {mx : Nat} {rt : Option FieldType} {a : Array Value} {s : State} {m : MethodId} {meth : Method} {c : Code} (h1 : s.methodNamed? y = some m) (h2 : s.vm.method? m = some meth) (h3 : meth.code = some c) (h4 : c.code = bytes)
    (h5 : (c.maxLocals == mx && c.exceptionTable.isEmpty && decide (c.maxStack ≤ mostOperands) && decide (meth.sig.returnType = rt) && !meth.locks && decide (parseMethodDescriptor y.desc = some meth.sig)) = true) : (Jvm.Cond.code y bytes mx rt).before a s = true := by
  simp only [Bool.and_eq_true, beq_iff_eq, Bool.not_eq_true', decide_eq_true_eq] at h5
  obtain ⟨⟨⟨⟨⟨g1, g2⟩, g3⟩, g4⟩, g5⟩, g6⟩ := h5
  simp [Cond.before, Cond.holds, Cond.value, h1, h2, h3, h4, g1, g2, g3, g4, g5, g6]
def isCode : Jvm.Cond → Bool
  | .code _ _ _ _ => true
  | _ => false
theorem all_split {L : List Jvm.Cond} {P : Jvm.Cond → Bool} (h1 : L.all (fun c => isCode c || P c) = true) (h2 : ∀ c ∈ L.filter isCode, P c = true) : L.all P = true := by
  refine List.all_eq_true.mpr fun c hc => ?_
  have h := List.all_eq_true.mp h1 c hc
  rcases Bool.eq_false_or_eq_true (isCode c) with hi | hi
  · exact h2 c (List.mem_filter.mpr ⟨hc, hi⟩)
  · simpa [hi] using h
set_option maxRecDepth 65536 in
theorem w_c0 : (Jvm.Cond.code x code maxLocals ret).before args0 about1 = true := code_word (m := ⟨1, 2⟩) (meth := k1m2) (c := k1c2) (by decide +kernel) rfl rfl rfl (by decide +kernel)
set_option maxRecDepth 65536 in
theorem w_c1 : (Jvm.Cond.code ({ cls := "java/lang/Math", name := "min", desc := "(JJ)J" } : Jvm.MethodName) jdk_29_method_70_code (4 : Nat) (Option.some Jvm.ClassFile.FieldType.long)).before args0 about1 = true := code_word (m := ⟨2, 2⟩) (meth := k2m2) (c := k2c2) (by decide +kernel) rfl rfl rfl (by decide +kernel)
set_option maxRecDepth 65536 in
theorem w_c2 : (Jvm.Cond.code ({ cls := "java/lang/Math", name := "max", desc := "(JJ)J" } : Jvm.MethodName) jdk_29_method_66_code (4 : Nat) (Option.some Jvm.ClassFile.FieldType.long)).before args0 about1 = true := code_word (m := ⟨2, 1⟩) (meth := k2m1) (c := k2c1) (by decide +kernel) rfl rfl rfl (by decide +kernel)
set_option maxRecDepth 65536 in
theorem w_c3 : (Jvm.Cond.code ({ cls := "com/example/stakan/stakan/venue/PriceCorridor", name := "<init>", desc := "(JJ)V" } : Jvm.MethodName) prog_47_method_1_code (5 : Nat) (Option.none : Option Jvm.ClassFile.FieldType)).before args0 about1 = true := code_word (m := ⟨4, 0⟩) (meth := k4m0) (c := k4c0) (by decide +kernel) rfl rfl rfl (by decide +kernel)
set_option maxRecDepth 65536 in
theorem w_c4 : (Jvm.Cond.code ({ cls := "java/lang/Record", name := "<init>", desc := "()V" } : Jvm.MethodName) jdk_30_method_1_code (1 : Nat) (Option.none : Option Jvm.ClassFile.FieldType)).before args0 about1 = true := code_word (m := ⟨3, 0⟩) (meth := k3m0) (c := k3c0) (by decide +kernel) rfl rfl rfl (by decide +kernel)
set_option maxRecDepth 65536 in
theorem w_c5 : (Jvm.Cond.code ({ cls := "java/lang/Object", name := "<init>", desc := "()V" } : Jvm.MethodName) object_method_1_code (1 : Nat) (Option.none : Option Jvm.ClassFile.FieldType)).before args0 about1 = true := code_word (m := ⟨0, 0⟩) (meth := k0m0) (c := k0c0) (by decide +kernel) rfl rfl rfl (by decide +kernel)
set_option maxRecDepth 65536 in
theorem w_c6 : (Jvm.Cond.code ({ cls := "com/example/stakan/stakan/venue/PriceCorridorContainsPinLaw", name := "pick", desc := "(IJJJ)J" } : Jvm.MethodName) method_2_code (8 : Nat) (Option.some Jvm.ClassFile.FieldType.long)).before args0 about1 = true := code_word (m := ⟨1, 1⟩) (meth := k1m1) (c := k1c1) (by decide +kernel) rfl rfl rfl (by decide +kernel)
set_option maxRecDepth 65536 in
theorem w_c7 : (Jvm.Cond.code ({ cls := "com/example/stakan/stakan/venue/PriceCorridor", name := "contains", desc := "(J)Z" } : Jvm.MethodName) prog_47_method_2_code (3 : Nat) (Option.some Jvm.ClassFile.FieldType.boolean)).before args0 about1 = true := code_word (m := ⟨4, 1⟩) (meth := k4m1) (c := k4c1) (by decide +kernel) rfl rfl rfl (by decide +kernel)
def codes1 : List Jvm.Cond := [Jvm.Cond.code x code maxLocals ret, Jvm.Cond.code ({ cls := "java/lang/Math", name := "min", desc := "(JJ)J" } : Jvm.MethodName) jdk_29_method_70_code (4 : Nat) (Option.some Jvm.ClassFile.FieldType.long), Jvm.Cond.code ({ cls := "java/lang/Math", name := "max", desc := "(JJ)J" } : Jvm.MethodName) jdk_29_method_66_code (4 : Nat) (Option.some Jvm.ClassFile.FieldType.long), Jvm.Cond.code ({ cls := "com/example/stakan/stakan/venue/PriceCorridor", name := "<init>", desc := "(JJ)V" } : Jvm.MethodName) prog_47_method_1_code (5 : Nat) (Option.none : Option Jvm.ClassFile.FieldType), Jvm.Cond.code ({ cls := "java/lang/Record", name := "<init>", desc := "()V" } : Jvm.MethodName) jdk_30_method_1_code (1 : Nat) (Option.none : Option Jvm.ClassFile.FieldType), Jvm.Cond.code ({ cls := "java/lang/Object", name := "<init>", desc := "()V" } : Jvm.MethodName) object_method_1_code (1 : Nat) (Option.none : Option Jvm.ClassFile.FieldType), Jvm.Cond.code ({ cls := "com/example/stakan/stakan/venue/PriceCorridorContainsPinLaw", name := "pick", desc := "(IJJJ)J" } : Jvm.MethodName) method_2_code (8 : Nat) (Option.some Jvm.ClassFile.FieldType.long), Jvm.Cond.code ({ cls := "com/example/stakan/stakan/venue/PriceCorridor", name := "contains", desc := "(J)Z" } : Jvm.MethodName) prog_47_method_2_code (3 : Nat) (Option.some Jvm.ClassFile.FieldType.boolean)]
set_option maxRecDepth 65536 in
theorem codes_eq : words1.filter isCode = codes1 := rfl
theorem w_codes : ∀ c ∈ words1.filter isCode, c.before args0 about1 = true := by
  rw [codes_eq]
  intro c hc
  simp only [codes1, List.mem_cons, List.not_mem_nil, or_false] at hc
  rcases hc with rfl | rfl | rfl | rfl | rfl | rfl | rfl | rfl
  · exact w_c0
  · exact w_c1
  · exact w_c2
  · exact w_c3
  · exact w_c4
  · exact w_c5
  · exact w_c6
  · exact w_c7
set_option maxRecDepth 65536 in
theorem w_t1 : (words1.take 24).all (fun c => isCode c || c.before args0 about1) = true := by decide +kernel
set_option maxRecDepth 65536 in
theorem w_t2 : (words1.drop 24).all (fun c => isCode c || c.before args0 about1) = true := by decide +kernel
theorem w_tables : (allAtoms (Jvm.Cond.code x code maxLocals ret :: tables_1)).before args0 about1 = true := by
  rw [allAtoms_all]
  show words1.all (fun c => c.before args0 about1) = true
  refine all_split ?_ w_codes
  rw [← List.take_append_drop 24 words1, List.all_append, w_t1, w_t2]
  rfl
set_option maxRecDepth 65536 in
theorem w_case : (Jvm.Cond.and given_1 narrow_1).before args0 about1 = true := by decide +kernel
theorem w_applies : (headSpec (Jvm.Cond.code x code maxLocals ret :: tables_1) room_1).applies x e0.platform about1 = true :=
  (Spec.applies_iff w_frames).mpr ⟨w_running, w_runnable, w_alone, w_named, w_hears, w_ripe, w_room, w_tables⟩
theorem atStart : AtStart classFile x code maxLocals ret World_1 tables_1 room_1 Calls_1 rest_1 Pre_1 launch0 p0 e0 about1 theMethod args0 below0 :=
  ⟨lists_1, trivial, launch0.admits_env _ _ _, launch0.least_env, fairChoices_fair.cas, fairChoices_fair.clock, w_frames, w_args, w_heap, w_applies, trivial, trivial, w_case⟩
end start1
theorem witness_1 : WitnessClaimed_1 := ⟨start1.p0, start1.e0, start1.about1, start1.theMethod, start1.args0, start1.below0, start1.atStart⟩
end Jvm.Pilot.@@N@@
