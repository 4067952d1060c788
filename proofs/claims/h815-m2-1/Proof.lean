import JvmDerived
import JvmDerived.Pilot.@@N@@Statement
import JvmDerived.Pilot.@@N@@Code
set_option linter.unusedVariables false
set_option linter.unusedSimpArgs false
namespace Jvm.RoadKit
open Sem ClassFile Op Lib Jvm.Stand Jvm.Free Jvm.LawKit
section Own
variable {p : Program} {l : Launch} {e : Env} {R : Room} {s : State} {m : MethodId} {args : Array Value} {below : List Frame} {meth : Method} {c : Code} {T : State} {locs : List Loc} {cells slots : Nat}
theorem retI (X : Stand p l e R s m args below meth c T locs cells slots) (hx : p.tables.exec = Jvm.exec) {pc : Nat} {Ls : Array Slot} {z : Int32} {rest : List Value} (hret : meth.sig.returnType = some .int) (hd : decode c.code pc = .ok (.ireturn, 1)) {fs : List Frame}
    (hl : ∀ (f : JFrame) (acts : List Action), f.method = m → f.locked = none → f.entered = [] → (doReturn e (T.setTop f) acts (some (.int z))).1 = T.setFrames fs) : Steps p.tables e below (T.setTop (mkF m pc Ls (.int z :: rest))) (T.setFrames fs) := by
  have hm' : T.vm.method? m = some meth := X.method'
  have hn : narrow .int (.int z) = .int z := rfl
  show Steps p.tables e below (T.setTop { method := m, pc := pc, locals := Ls, stack := _ :: rest, locked := none }) _
  jvm_step X.here [X.here.top, hx, hd, hm', hret, hn]
  first | (intro acts; rw [hl _ acts rfl rfl rfl]) | rw [hl _ _ rfl rfl rfl]
  exact Steps.refl _
/-- the run from st comes to an end of which P holds -/
def own_G (tb : Tables) (e : Env) (below : List Frame) (P : Outcome → State → Prop) (st : State) : Prop :=
  ∃ s₂ o, Steps tb e below st s₂ ∧ s₂.status = .running ∧ Ended s₂ below o ∧ P o s₂
theorem own_st {tb : Tables} {P : Outcome → State → Prop} {st st' : State} (h : ∀ t, Steps tb e below st' t → Steps tb e below st t) (k : own_G tb e below P st') : own_G tb e below P st := by
  obtain ⟨s2, o, h1, h2⟩ := k
  exact ⟨s2, o, h _ h1, h2⟩
def own_P (s : State) (Q : Option Value → Heap → List Loc → Prop) (k n : Nat) (o : Outcome) (U' : State) : Prop :=
  ∃ v L, o = .returned v ∧ Q v U'.heap L ∧ FrameEnd s o U' L k n
theorem own_end {Q : Option Value → Heap → List Loc → Prop} {k n : Nat} {st : State} {v : Option Value} (X : Stand p l e R s m args below meth c T locs cells slots) (hlk : meth.locks = false) (hv : meth.sig.returnType = none → v = none)
    (hst : ∀ fs, (∀ (f : JFrame) (acts : List Action), f.method = m → f.locked = none → f.entered = [] → (doReturn e (T.setTop f) acts v).1 = T.setFrames fs) → Steps p.tables e below st (T.setFrames fs))
    (hQ : Q v T.heap locs) (hk : cells ≤ k) (hn : slots ≤ n) : own_G p.tables e below (own_P s Q k n) st := by
  obtain ⟨fs, hr, hrun, hended, hW, hsame⟩ := X.leave hv hlk
  exact ⟨_, _, hst fs hr, hrun, hended, _, _, rfl, hQ, ⟨_, rfl⟩, hW, hsame.mono hk hn⟩
theorem own_retZ {Q : Option Value → Heap → List Loc → Prop} {k n : Nat} (X : Stand p l e R s m args below meth c T locs cells slots) (hx : p.tables.exec = Jvm.exec) (hlk : meth.locks = false) (hret : meth.sig.returnType = some .boolean) {pc : Nat} {Ls : Array Slot} {z : Int32} {rest : List Value}
    (hd : decode c.code pc = .ok (.ireturn, 1)) (hz : nar .boolean z = z) (hQ : Q (some (.int z)) T.heap locs) (hk : cells ≤ k) (hn : slots ≤ n) : own_G p.tables e below (own_P s Q k n) (T.setTop (mkF m pc Ls (.int z :: rest))) :=
  own_end X hlk (fun h => by rw [hret] at h; cases h) (fun fs hr => retN X hx (t := .boolean) hret (by simp) hd (by rw [hz]; exact hr)) hQ hk hn
theorem own_retI {Q : Option Value → Heap → List Loc → Prop} {k n : Nat} (X : Stand p l e R s m args below meth c T locs cells slots) (hx : p.tables.exec = Jvm.exec) (hlk : meth.locks = false) (hret : meth.sig.returnType = some .int) {pc : Nat} {Ls : Array Slot} {z : Int32} {rest : List Value}
    (hd : decode c.code pc = .ok (.ireturn, 1)) (hQ : Q (some (.int z)) T.heap locs) (hk : cells ≤ k) (hn : slots ≤ n) : own_G p.tables e below (own_P s Q k n) (T.setTop (mkF m pc Ls (.int z :: rest))) :=
  own_end X hlk (fun h => by rw [hret] at h; cases h) (fun fs hr => retI X hx hret hd hr) hQ hk hn
theorem own_retJ {Q : Option Value → Heap → List Loc → Prop} {k n : Nat} (X : Stand p l e R s m args below meth c T locs cells slots) (hx : p.tables.exec = Jvm.exec) (hlk : meth.locks = false) (hret : meth.sig.returnType = some .long) {pc : Nat} {Ls : Array Slot} {z : Int64} {rest : List Value}
    (hd : decode c.code pc = .ok (.lreturn, 1)) (hQ : Q (some (.long z)) T.heap locs) (hk : cells ≤ k) (hn : slots ≤ n) : own_G p.tables e below (own_P s Q k n) (T.setTop (mkF m pc Ls (.long z :: rest))) :=
  own_end X hlk (fun h => by rw [hret] at h; cases h) (fun fs hr => retOut X hx hret rfl (Or.inr (Or.inl ⟨rfl, rfl, _, rfl⟩)) hd hr) hQ hk hn
theorem own_retR {Q : Option Value → Heap → List Loc → Prop} {k n : Nat} {t : FieldType} (X : Stand p l e R s m args below meth c T locs cells slots) (hx : p.tables.exec = Jvm.exec) (hlk : meth.locks = false) (hret : meth.sig.returnType = some t) (ht : t.isReference = true) {pc : Nat} {Ls : Array Slot} {w : Value} {rest : List Value} (hw : w.isRef = true) (hnw : narrow t w = w)
    (hd : decode c.code pc = .ok (.areturn, 1)) (hQ : Q (some w) T.heap locs) (hk : cells ≤ k) (hn : slots ≤ n) : own_G p.tables e below (own_P s Q k n) (T.setTop (mkF m pc Ls (w :: rest))) :=
  own_end X hlk (fun h => by rw [hret] at h; cases h) (fun fs hr => retOut X hx hret hnw (Or.inr (Or.inr (Or.inr (Or.inr ⟨rfl, ht, hw⟩)))) hd hr) hQ hk hn
theorem own_retV {Q : Option Value → Heap → List Loc → Prop} {k n : Nat} (X : Stand p l e R s m args below meth c T locs cells slots) (hx : p.tables.exec = Jvm.exec) (hlk : meth.locks = false) (hret : meth.sig.returnType = none) {pc : Nat} {Ls : Array Slot}
    (hd : decode c.code pc = .ok (.return_, 1)) (hQ : Q none T.heap locs) (hk : cells ≤ k) (hn : slots ≤ n) : own_G p.tables e below (own_P s Q k n) (T.setTop (mkF m pc Ls [])) :=
  own_end X hlk (fun _ => rfl) (fun fs hr => X.returnOut hx hret hd hr) hQ hk hn
theorem own_mono {cells' slots' : Nat} (X : Stand p l e R s m args below meth c T locs cells slots) (h1 : cells ≤ cells') (h2 : slots ≤ slots') : Stand p l e R s m args below meth c T locs cells' slots' :=
  ⟨X.admits, X.cas, X.clock, X.frames, X.room, X.hears, X.method, X.code, X.here, X.tail, X.warmed, X.limits, X.bytes, X.same.mono h1 h2⟩
theorem own_fld {Z : State} {h : Heap} {a : Addr} {C n d : String} {v w : Value} (F : Fld Z h a C n d v) (q : v = w) : Fld Z h a C n d w := q ▸ F
end Own
/-- a boolean as the machine holds it -/
def own_b (P : Prop) [Decidable P] : Int32 := if P then 1 else 0
theorem own_bt {P : Prop} [Decidable P] (h : P) : own_b P = 1 := if_pos h
theorem own_bf {P : Prop} [Decidable P] (h : ¬ P) : own_b P = 0 := if_neg h
theorem own_b1 {P : Prop} [Decidable P] {z : Int32} (hz : z = own_b P) (h : P) : ¬ z = 0 := by rw [hz, own_bt h]; decide
theorem own_b0 {P : Prop} [Decidable P] {z : Int32} (hz : z = own_b P) (h : ¬ P) : z = 0 := by rw [hz, own_bf h]
theorem own_nar {P : Prop} [Decidable P] {z : Int32} (hz : z = own_b P) : nar .boolean z = z := by
  rw [hz]; by_cases h : P
  · rw [own_bt h]; decide
  · rw [own_bf h]; decide
theorem own_fitZ {P : Prop} [Decidable P] {z : Int32} (hz : z = own_b P) : fits .boolean (.int z) = true := by
  rw [hz]; by_cases h : P
  · rw [own_bt h]; decide
  · rw [own_bf h]; decide
theorem own_bc {P Q : Prop} [Decidable P] [Decidable Q] (h : P ↔ Q) : own_b P = own_b Q := by
  by_cases q : Q
  · rw [own_bt q, own_bt (h.mpr q)]
  · rw [own_bf q, own_bf (fun r => q (h.mp r))]
theorem own_bi {P Q : Prop} [Decidable P] [Decidable Q] (h : own_b P = own_b Q) : P ↔ Q := by
  by_cases p : P <;> by_cases q : Q <;> simp_all [own_b]
end Jvm.RoadKit
namespace Jvm.Pilot.@@N@@
open Jvm Jvm.ClassFile Sem Op Lib Jvm.Free Jvm.Stand Jvm.LawKit Jvm.RoadKit Bundle Jvm.Pilot.@@N@@.Jvm.D
theorem pn_0 : plainName "com/example/rendezvous/rendezvous/server/LogPositionAtLeastPinLaw" = true := by first | (simp [plainName, overriddenIn]; done) | decide +kernel
theorem d1_0 : decode prog_139_method_1_code 0 = .ok (.aload_n 0, 1) := by decide +kernel
theorem d1_1 : decode prog_139_method_1_code 1 = .ok (.invokespecial 1, 3) := by decide +kernel
theorem d1_4 : decode prog_139_method_1_code 4 = .ok (.aload_n 0, 1) := by decide +kernel
theorem d1_5 : decode prog_139_method_1_code 5 = .ok (.lload_n 1, 1) := by decide +kernel
theorem d1_6 : decode prog_139_method_1_code 6 = .ok (.putfield 7, 3) := by decide +kernel
theorem d1_9 : decode prog_139_method_1_code 9 = .ok (.aload_n 0, 1) := by decide +kernel
theorem d1_10 : decode prog_139_method_1_code 10 = .ok (.lload_n 3, 1) := by decide +kernel
theorem d1_11 : decode prog_139_method_1_code 11 = .ok (.putfield 13, 3) := by decide +kernel
theorem d1_14 : decode prog_139_method_1_code 14 = .ok (.return_, 1) := by decide +kernel
theorem pn_1 : plainName "com/example/rendezvous/rendezvous/server/LogPosition" = true := by first | (simp [plainName, overriddenIn]; done) | decide +kernel
theorem d2_0 : decode jdk_30_method_1_code 0 = .ok (.aload_n 0, 1) := by decide +kernel
theorem d2_1 : decode jdk_30_method_1_code 1 = .ok (.invokespecial 1, 3) := by decide +kernel
theorem d2_4 : decode jdk_30_method_1_code 4 = .ok (.return_, 1) := by decide +kernel
theorem pn_2 : plainName "java/lang/Record" = true := by first | (simp [plainName, overriddenIn]; done) | decide +kernel
theorem d4_0 : decode prog_139_method_2_code 0 = .ok (.aload_n 0, 1) := by decide +kernel
theorem d4_1 : decode prog_139_method_2_code 1 = .ok (.getfield 13, 3) := by decide +kernel
theorem d4_4 : decode prog_139_method_2_code 4 = .ok (.aload_n 1, 1) := by decide +kernel
theorem d4_5 : decode prog_139_method_2_code 5 = .ok (.getfield 13, 3) := by decide +kernel
theorem d4_8 : decode prog_139_method_2_code 8 = .ok (.lcmp, 1) := by decide +kernel
theorem d4_9 : decode prog_139_method_2_code 9 = .ok (.ifCond .gt 27, 3) := by decide +kernel
theorem d4_12 : decode prog_139_method_2_code 12 = .ok (.aload_n 0, 1) := by decide +kernel
theorem d4_13 : decode prog_139_method_2_code 13 = .ok (.getfield 13, 3) := by decide +kernel
theorem d4_16 : decode prog_139_method_2_code 16 = .ok (.aload_n 1, 1) := by decide +kernel
theorem d4_17 : decode prog_139_method_2_code 17 = .ok (.getfield 13, 3) := by decide +kernel
theorem d4_20 : decode prog_139_method_2_code 20 = .ok (.lcmp, 1) := by decide +kernel
theorem d4_21 : decode prog_139_method_2_code 21 = .ok (.ifCond .ne 19, 3) := by decide +kernel
theorem d4_24 : decode prog_139_method_2_code 24 = .ok (.aload_n 0, 1) := by decide +kernel
theorem d4_25 : decode prog_139_method_2_code 25 = .ok (.getfield 7, 3) := by decide +kernel
theorem d4_28 : decode prog_139_method_2_code 28 = .ok (.aload_n 1, 1) := by decide +kernel
theorem d4_29 : decode prog_139_method_2_code 29 = .ok (.getfield 7, 3) := by decide +kernel
theorem d4_32 : decode prog_139_method_2_code 32 = .ok (.lcmp, 1) := by decide +kernel
theorem d4_33 : decode prog_139_method_2_code 33 = .ok (.ifCond .lt 7, 3) := by decide +kernel
theorem d4_36 : decode prog_139_method_2_code 36 = .ok (.iconst 1, 1) := by decide +kernel
theorem d4_37 : decode prog_139_method_2_code 37 = .ok (.goto 4, 3) := by decide +kernel
theorem d4_40 : decode prog_139_method_2_code 40 = .ok (.iconst 0, 1) := by decide +kernel
theorem d4_41 : decode prog_139_method_2_code 41 = .ok (.ireturn, 1) := by decide +kernel
theorem pn_4 : plainName "com/example/rendezvous/rendezvous/server/LogPosition" = true := by first | (simp [plainName, overriddenIn]; done) | decide +kernel
theorem d5_0 : decode method_3_code 0 = .ok (.lload_n 2, 1) := by decide +kernel
theorem d5_1 : decode method_3_code 1 = .ok (.lload 6, 2) := by decide +kernel
theorem d5_3 : decode method_3_code 3 = .ok (.lcmp, 1) := by decide +kernel
theorem d5_4 : decode method_3_code 4 = .ok (.ifCond .ge 5, 3) := by decide +kernel
theorem d5_7 : decode method_3_code 7 = .ok (.iconst 0, 1) := by decide +kernel
theorem d5_8 : decode method_3_code 8 = .ok (.ireturn, 1) := by decide +kernel
theorem d5_9 : decode method_3_code 9 = .ok (.lload_n 2, 1) := by decide +kernel
theorem d5_10 : decode method_3_code 10 = .ok (.lload 6, 2) := by decide +kernel
theorem d5_12 : decode method_3_code 12 = .ok (.lcmp, 1) := by decide +kernel
theorem d5_13 : decode method_3_code 13 = .ok (.ifCond .le 5, 3) := by decide +kernel
theorem d5_16 : decode method_3_code 16 = .ok (.iconst 1, 1) := by decide +kernel
theorem d5_17 : decode method_3_code 17 = .ok (.ireturn, 1) := by decide +kernel
theorem d5_18 : decode method_3_code 18 = .ok (.lload_n 0, 1) := by decide +kernel
theorem d5_19 : decode method_3_code 19 = .ok (.lload 4, 2) := by decide +kernel
theorem d5_21 : decode method_3_code 21 = .ok (.lcmp, 1) := by decide +kernel
theorem d5_22 : decode method_3_code 22 = .ok (.ifCond .lt 7, 3) := by decide +kernel
theorem d5_25 : decode method_3_code 25 = .ok (.iconst 1, 1) := by decide +kernel
theorem d5_26 : decode method_3_code 26 = .ok (.goto 4, 3) := by decide +kernel
theorem d5_29 : decode method_3_code 29 = .ok (.iconst 0, 1) := by decide +kernel
theorem d5_30 : decode method_3_code 30 = .ok (.ireturn, 1) := by decide +kernel
theorem pn_5 : plainName "com/example/rendezvous/rendezvous/server/LogPositionAtLeastPinLaw" = true := by first | (simp [plainName, overriddenIn]; done) | decide +kernel
theorem pd_0 : parseMethodDescriptor "()V" = some ⟨[], none⟩ := by decide +kernel
theorem pd_1 : parseMethodDescriptor "(JJ)V" = some ⟨[.long, .long], none⟩ := by decide +kernel
theorem pd_2 : parseMethodDescriptor "(Lcom/example/rendezvous/rendezvous/server/LogPosition;)Z" = some ⟨[(.object "com/example/rendezvous/rendezvous/server/LogPosition")], some .boolean⟩ := by decide +kernel
theorem pd_3 : parseMethodDescriptor "(JJJJ)Z" = some ⟨[.long, .long, .long, .long], some .boolean⟩ := by decide +kernel
theorem ef_2 (m : MethodId) (x0 : Addr) : entryFrame m #[(.ref x0)] 1 = mkF m 0 #[.val (.ref x0)] [] := by first | (simp [entryFrame, mkF, argsToLocals, Value.category]; done) | rfl
theorem ef_1 (m : MethodId) (x0 : Addr) (x1 : Int64) (x2 : Int64) : entryFrame m #[(.ref x0), (.long x1), (.long x2)] 5 = mkF m 0 #[.val (.ref x0), .val (.long x1), .second, .val (.long x2), .second] [] := by first | (simp [entryFrame, mkF, argsToLocals, Value.category]; done) | rfl
theorem ef_4 (m : MethodId) (x0 : Addr) (x1 : Addr) : entryFrame m #[(.ref x0), (.ref x1)] 2 = mkF m 0 #[.val (.ref x0), .val (.ref x1)] [] := by first | (simp [entryFrame, mkF, argsToLocals, Value.category]; done) | rfl
theorem ef_5 (m : MethodId) (x0 : Int64) (x1 : Int64) (x2 : Int64) (x3 : Int64) : entryFrame m #[(.long x0), (.long x1), (.long x2), (.long x3)] 8 = mkF m 0 #[.val (.long x0), .second, .val (.long x1), .second, .val (.long x2), .second, .val (.long x3), .second] [] := by first | (simp [entryFrame, mkF, argsToLocals, Value.category]; done) | rfl
theorem ef_0 (m : MethodId) (x0 : Int64) (x1 : Int64) (x2 : Int64) (x3 : Int64) (x4 : Int32) : entryFrame m #[(.long x0), (.long x1), (.long x2), (.long x3), (.int x4)] maxLocals = mkF m 0 #[.val (.long x0), .second, .val (.long x1), .second, .val (.long x2), .second, .val (.long x3), .second, .val (.int x4), .unset, .unset, .unset, .unset, .unset, .unset, .unset, .unset] [] := by first | (simp [entryFrame, mkF, argsToLocals, Value.category, maxLocals]; done) | rfl
theorem own_iff (ia ta ib tb : Int64) : ((tb < ta) ∨ ((ta = tb) ∧ (¬ (ia < ib)))) ↔ (¬ (ta < tb) ∧ ((tb < ta) ∨ (¬ (ia < ib)))) := by
  simp only [Int64.lt_iff_toInt_lt, ← Int64.toInt_inj]; omega
def Q2 (Z : State) (a1 : Addr) (h0 : Heap) (n0 : Nat) (v : Option Value) (h : Heap) (L : List Loc) : Prop := v = none ∧ Fr n0 L ∧ h = h0
set_option maxRecDepth 65536 in
set_option maxHeartbeats 40000000 in
theorem rm2 (l : Launch) (Z : State) (a0 : Array Value) (hw : ∀ d ∈ tables_1, d.before a0 Z = true) (ws : List Jvm.Cond) (a1 : Addr) (h0 : Heap) (n0 : Nat) (Z0 : n0 ≤ h0.size) :
    MetFree l (⟨"java/lang/Record", "<init>", "()V"⟩ : MethodName) (head1 (Jvm.Cond.code (⟨"java/lang/Record", "<init>", "()V"⟩ : MethodName) jdk_30_method_1_code 1 none :: ws) ({ frames := 1, cells := 0, slots := 0, locals := 12 } : Room)) (fun a U => a = #[(.ref a1)] ∧ Z.Warmed39 U.vm ∧ U.heap = h0) (fun _ _ _ _ _ => True) (fun _ U o U' => ∃ v L, o = .returned v ∧ Q2 Z a1 h0 n0 v U'.heap L ∧ FrameEnd U o U' L ({ frames := 1, cells := 0, slots := 0, locals := 12 } : Room).cells ({ frames := 1, cells := 0, slots := 0, locals := 12 } : Room).slots) := by
  refine MetFree.of_bodySF (plainFor_of_name pn_2) hisR ?_
  intro p e s m args below meth c s₁ Bd hml0 hP hK
  obtain ⟨rfl, hZ, hh⟩ := hP
  have hx := Bd.exec
  have hby := Bd.bytes
  have hlk := BodyLoose.notSynchronized Bd
  have hml : c.maxLocals = 1 := hml0
  have hown : s.vm.findClass "java/lang/Record" = some m.cls := findClass_of_methodNamed Bd.named
  have hnm := (name_of_methodNamed Bd.named Bd.method).1
  have X0 : Stand p l e ({ frames := 1, cells := 0, slots := 0, locals := 12 } : Room) s m #[(.ref a1)] below meth c s₁ [] 0 0 := Stand.of_body Bd
  have e0 : s₁.heap = h0 := by rw [← hh, Bd.state]; rfl
  have N0 := Fr.nil n0
  have K0 := Keep.refl h0 []
  show own_G p.tables e below (own_P s (Q2 Z a1 h0 n0) 0 0) (s₁.setTop (entryFrame m #[(.ref a1)] 1))
  refine own_st (fun t k => castTop (ef_2 m a1) k) ?_
  show own_G p.tables e below _ (s₁.setTop (mkF m 0 #[.val (.ref a1)] []))
  refine own_st (fun _ k => XS.aloadN X0.here hx rfl (hb hby d2_0) rfl rfl k) ?_
  show own_G p.tables e below _ (s₁.setTop (mkF m 1 #[.val (.ref a1)] [(.ref a1)]))
  obtain ⟨T1, X1, e1, st1⟩ := initO X0 hx hZ hown (hw _ (List.mem_of_getElem? (i := 11) rfl)) (hw _ (List.mem_of_getElem? (i := 12) rfl)) (hw _ (List.mem_of_getElem? (i := 13) rfl)) e0 (g := (mkF m 1 #[.val (.ref a1)] [(.ref a1)])) rfl (by rw [hml]; rfl) rfl (hb hby d2_1) (by decide) (W := 0) (by show 2 * 0 + _ ≤ _; exact Nat.le_of_eq rfl) (by decide)
  refine own_st st1 ?_
  show own_G p.tables e below _ (T1.setTop (mkF m 4 #[.val (.ref a1)] []))
  exact own_retV X1 hx hlk Bd.returns (hb hby d2_4) (by rw [e1]; exact ⟨rfl, N0, rfl⟩) (by decide) (by decide)
def Q1 (Z : State) (a1 : Addr) (q1 : Int64) (q2 : Int64) (u_index_a1 : Int64) (u_term_a1 : Int64) (h0 : Heap) (n0 : Nat) (v : Option Value) (h : Heap) (L : List Loc) : Prop := v = none ∧ Fr n0 L ∧ Keep h0 h [a1] ∧ Exa Z h a1 "com/example/rendezvous/rendezvous/server/LogPosition" ∧ Fld Z h a1 "com/example/rendezvous/rendezvous/server/LogPosition" "index" "J" (.long q1) ∧ Fld Z h a1 "com/example/rendezvous/rendezvous/server/LogPosition" "term" "J" (.long q2)
set_option maxRecDepth 65536 in
set_option maxHeartbeats 40000000 in
theorem rm1 (l : Launch) (Z : State) (a0 : Array Value) (hw : ∀ d ∈ tables_1, d.before a0 Z = true) (ws : List Jvm.Cond) (a1 : Addr) (q1 : Int64) (q2 : Int64) (u_index_a1 : Int64) (u_term_a1 : Int64) (h0 : Heap) (n0 : Nat) (Z0 : n0 ≤ h0.size) (F_index_a1 : Fld Z h0 a1 "com/example/rendezvous/rendezvous/server/LogPosition" "index" "J" (.long u_index_a1)) (F_term_a1 : Fld Z h0 a1 "com/example/rendezvous/rendezvous/server/LogPosition" "term" "J" (.long u_term_a1)) (E_a1 : Exa Z h0 a1 "com/example/rendezvous/rendezvous/server/LogPosition") (ge_a1 : n0 ≤ a1) :
    MetFree l (⟨"com/example/rendezvous/rendezvous/server/LogPosition", "<init>", "(JJ)V"⟩ : MethodName) (head1 (Jvm.Cond.code (⟨"com/example/rendezvous/rendezvous/server/LogPosition", "<init>", "(JJ)V"⟩ : MethodName) prog_139_method_1_code 5 none :: ws) ({ frames := 2, cells := 0, slots := 0, locals := 24 } : Room)) (fun a U => a = #[(.ref a1), (.long q1), (.long q2)] ∧ Z.Warmed39 U.vm ∧ U.heap = h0) (fun _ _ _ _ _ => True) (fun _ U o U' => ∃ v L, o = .returned v ∧ Q1 Z a1 q1 q2 u_index_a1 u_term_a1 h0 n0 v U'.heap L ∧ FrameEnd U o U' L ({ frames := 2, cells := 0, slots := 0, locals := 24 } : Room).cells ({ frames := 2, cells := 0, slots := 0, locals := 24 } : Room).slots) := by
  refine MetFree.of_bodySF (plainFor_of_name pn_1) hisR ?_
  intro p e s m args below meth c s₁ Bd hml0 hP hK
  obtain ⟨rfl, hZ, hh⟩ := hP
  have hx := Bd.exec
  have hby := Bd.bytes
  have hlk := BodyLoose.notSynchronized Bd
  have hml : c.maxLocals = 5 := hml0
  have hown : s.vm.findClass "com/example/rendezvous/rendezvous/server/LogPosition" = some m.cls := findClass_of_methodNamed Bd.named
  have hnm := (name_of_methodNamed Bd.named Bd.method).1
  have X0 : Stand p l e ({ frames := 2, cells := 0, slots := 0, locals := 24 } : Room) s m #[(.ref a1), (.long q1), (.long q2)] below meth c s₁ [] 0 0 := Stand.of_body Bd
  have e0 : s₁.heap = h0 := by rw [← hh, Bd.state]; rfl
  have N0 := Fr.nil n0
  have K0 := Keep.refl h0 [a1]
  show own_G p.tables e below (own_P s (Q1 Z a1 q1 q2 u_index_a1 u_term_a1 h0 n0) 0 0) (s₁.setTop (entryFrame m #[(.ref a1), (.long q1), (.long q2)] 5))
  refine own_st (fun t k => castTop (ef_1 m a1 q1 q2) k) ?_
  show own_G p.tables e below _ (s₁.setTop (mkF m 0 #[.val (.ref a1), .val (.long q1), .second, .val (.long q2), .second] []))
  refine own_st (fun _ k => XS.aloadN X0.here hx rfl (hb hby d1_0) rfl rfl k) ?_
  show own_G p.tables e below _ (s₁.setTop (mkF m 1 #[.val (.ref a1), .val (.long q1), .second, .val (.long q2), .second] [(.ref a1)]))
  obtain ⟨_, _, ⟨T1, L1, k1, n1⟩, -, X1, ⟨Lc1, hQ1, l1, y1, z1⟩, st1⟩ := X0.specialBack hx (y := (⟨"java/lang/Record", "<init>", "()V"⟩ : MethodName)) rfl hown (mvT hZ (hw _ (List.mem_of_getElem? (i := 6) rfl))) (mvT hZ (hw _ (List.mem_of_getElem? (i := 7) rfl))) (mvT hZ (hw _ (List.mem_of_getElem? (i := 10) rfl))) (by decide) (backOf (W := 0) (rm2 l Z a0 hw [] a1 h0 n0 Z0 ) hZ (hw _ (List.mem_of_getElem? (i := 10) rfl)) (hw _ (List.mem_of_getElem? (i := 9) rfl)) (by decide) (by decide)) (g := (mkF m 1 #[.val (.ref a1), .val (.long q1), .second, .val (.long q2), .second] [(.ref a1)])) rfl (by rw [hml]; rfl) (Steps.refl _) (a := a1) (argsL := []) (rest := []) (lenOf pd_0 rfl) rfl (by show 2 * 0 + _ ≤ _; exact Nat.le_of_eq rfl) (hb hby d1_1) (fun _ _ => ⟨rfl, e0, (by decide : 0 + 0 ≤ _), (by decide : 0 + 0 ≤ _)⟩)
  dsimp only [Pt.U, Pt.locs, Pt.cells, Pt.slots] at X1 l1 y1 z1 st1 hQ1
  subst l1 y1 z1
  obtain ⟨rfl, N1q, e1⟩ := hQ1
  have N1 := Fr.app N0 N1q
  refine own_st (fun _ k => st1.trans k) ?_
  show own_G p.tables e below _ (T1.setTop (mkF m 4 #[.val (.ref a1), .val (.long q1), .second, .val (.long q2), .second] []))
  refine own_st (fun _ k => XS.aloadN X1.here hx rfl (hb hby d1_4) rfl rfl k) ?_
  show own_G p.tables e below _ (T1.setTop (mkF m 5 #[.val (.ref a1), .val (.long q1), .second, .val (.long q2), .second] [(.ref a1)]))
  refine own_st (fun _ k => XS.lloadN X1.here hx rfl (hb hby d1_5) rfl k) ?_
  show own_G p.tables e below _ (T1.setTop (mkF m 6 #[.val (.ref a1), .val (.long q1), .second, .val (.long q2), .second] [(.long q1), (.ref a1)]))
  obtain ⟨T2, h2, X2, e2, W2, st2⟩ := putF X1 hx hZ hown (host := "") (Or.inl (hw _ (List.mem_of_getElem? (i := 14) rfl))) Via.refl e1 F_index_a1 E_a1 (Or.inr ⟨(hw _ (List.mem_of_getElem? (i := 15) rfl)), rfl, hnm⟩) (hw _ (List.mem_of_getElem? (i := 1) rfl)) (ty := .long) (by decide) rfl rfl (g := (mkF m 6 #[.val (.ref a1), .val (.long q1), .second, .val (.long q2), .second] [(.long q1), (.ref a1)])) rfl rfl (hb hby d1_6)
  have N2 := Fr.snoc X2 N1 ge_a1
  have E3 := E_a1.wr W2
  have F4 := F_index_a1.same W2
  have F5 := F_term_a1.other W2 (Or.inr (slot_ne (Or.inr (hw _ (List.mem_of_getElem? (i := 17) rfl))) (Or.inr (hw _ (List.mem_of_getElem? (i := 15) rfl))) (by decide) (t := .long) (t' := .long) (by decide) (by decide)))
  have Z6 := Nat.le_trans Z0 (Keep.of_wr W2).1
  have K7 := K0.wr W2 (Or.inl (List.mem_of_getElem? (i := 0) rfl))
  refine own_st st2 ?_
  show own_G p.tables e below _ (T2.setTop (mkF m 9 #[.val (.ref a1), .val (.long q1), .second, .val (.long q2), .second] []))
  refine own_st (fun _ k => XS.aloadN X2.here hx rfl (hb hby d1_9) rfl rfl k) ?_
  show own_G p.tables e below _ (T2.setTop (mkF m 10 #[.val (.ref a1), .val (.long q1), .second, .val (.long q2), .second] [(.ref a1)]))
  refine own_st (fun _ k => XS.lloadN X2.here hx rfl (hb hby d1_10) rfl k) ?_
  show own_G p.tables e below _ (T2.setTop (mkF m 11 #[.val (.ref a1), .val (.long q1), .second, .val (.long q2), .second] [(.long q2), (.ref a1)]))
  obtain ⟨T8, h8, X8, e8, W8, st8⟩ := putF X2 hx hZ hown (host := "") (Or.inl (hw _ (List.mem_of_getElem? (i := 16) rfl))) Via.refl e2 F5 E3 (Or.inr ⟨(hw _ (List.mem_of_getElem? (i := 17) rfl)), rfl, hnm⟩) (hw _ (List.mem_of_getElem? (i := 1) rfl)) (ty := .long) (by decide) rfl rfl (g := (mkF m 11 #[.val (.ref a1), .val (.long q1), .second, .val (.long q2), .second] [(.long q2), (.ref a1)])) rfl rfl (hb hby d1_11)
  have N8 := Fr.snoc X8 N2 ge_a1
  have E9 := E3.wr W8
  have F10 := F4.other W8 (Or.inr (slot_ne (Or.inr (hw _ (List.mem_of_getElem? (i := 15) rfl))) (Or.inr (hw _ (List.mem_of_getElem? (i := 17) rfl))) (by decide) (t := .long) (t' := .long) (by decide) (by decide)))
  have F11 := F5.same W8
  have Z12 := Nat.le_trans Z6 (Keep.of_wr W8).1
  have K13 := K7.wr W8 (Or.inl (List.mem_of_getElem? (i := 0) rfl))
  refine own_st st8 ?_
  show own_G p.tables e below _ (T8.setTop (mkF m 14 #[.val (.ref a1), .val (.long q1), .second, .val (.long q2), .second] []))
  exact own_retV X8 hx hlk Bd.returns (hb hby d1_14) (by rw [e8]; exact ⟨rfl, N8, K13, E9, F10, F11⟩) (by decide) (by decide)
def Q4 (Z : State) (a1 : Addr) (a2 : Addr) (u_index_a1 : Int64) (u_term_a1 : Int64) (u_index_a2 : Int64) (u_term_a2 : Int64) (h0 : Heap) (n0 : Nat) (v : Option Value) (h : Heap) (L : List Loc) : Prop := (∃ z : Int32, v = some (.int z) ∧ z = (own_b ((u_term_a2 < u_term_a1) ∨ ((u_term_a1 = u_term_a2) ∧ (¬ (u_index_a1 < u_index_a2)))))) ∧ Fr n0 L ∧ h = h0
set_option maxRecDepth 65536 in
set_option maxHeartbeats 40000000 in
theorem rm4 (l : Launch) (Z : State) (a0 : Array Value) (hw : ∀ d ∈ tables_1, d.before a0 Z = true) (ws : List Jvm.Cond) (a1 : Addr) (a2 : Addr) (u_index_a1 : Int64) (u_term_a1 : Int64) (u_index_a2 : Int64) (u_term_a2 : Int64) (h0 : Heap) (n0 : Nat) (Z0 : n0 ≤ h0.size) (F_index_a1 : Fld Z h0 a1 "com/example/rendezvous/rendezvous/server/LogPosition" "index" "J" (.long u_index_a1)) (F_term_a1 : Fld Z h0 a1 "com/example/rendezvous/rendezvous/server/LogPosition" "term" "J" (.long u_term_a1)) (E_a1 : Exa Z h0 a1 "com/example/rendezvous/rendezvous/server/LogPosition") (F_index_a2 : Fld Z h0 a2 "com/example/rendezvous/rendezvous/server/LogPosition" "index" "J" (.long u_index_a2)) (F_term_a2 : Fld Z h0 a2 "com/example/rendezvous/rendezvous/server/LogPosition" "term" "J" (.long u_term_a2)) (E_a2 : Exa Z h0 a2 "com/example/rendezvous/rendezvous/server/LogPosition") :
    MetFree l (⟨"com/example/rendezvous/rendezvous/server/LogPosition", "atLeast", "(Lcom/example/rendezvous/rendezvous/server/LogPosition;)Z"⟩ : MethodName) (head1 (Jvm.Cond.code (⟨"com/example/rendezvous/rendezvous/server/LogPosition", "atLeast", "(Lcom/example/rendezvous/rendezvous/server/LogPosition;)Z"⟩ : MethodName) prog_139_method_2_code 2 (some .boolean) :: ws) ({ frames := 0, cells := 0, slots := 0, locals := 0 } : Room)) (fun a U => a = #[(.ref a1), (.ref a2)] ∧ Z.Warmed39 U.vm ∧ U.heap = h0) (fun _ _ _ _ _ => True) (fun _ U o U' => ∃ v L, o = .returned v ∧ Q4 Z a1 a2 u_index_a1 u_term_a1 u_index_a2 u_term_a2 h0 n0 v U'.heap L ∧ FrameEnd U o U' L ({ frames := 0, cells := 0, slots := 0, locals := 0 } : Room).cells ({ frames := 0, cells := 0, slots := 0, locals := 0 } : Room).slots) := by
  refine MetFree.of_bodySF (plainFor_of_name pn_4) hisR ?_
  intro p e s m args below meth c s₁ Bd hml0 hP hK
  obtain ⟨rfl, hZ, hh⟩ := hP
  have hx := Bd.exec
  have hby := Bd.bytes
  have hlk := BodyLoose.notSynchronized Bd
  have hml : c.maxLocals = 2 := hml0
  have hown : s.vm.findClass "com/example/rendezvous/rendezvous/server/LogPosition" = some m.cls := findClass_of_methodNamed Bd.named
  have hnm := (name_of_methodNamed Bd.named Bd.method).1
  have X0 : Stand p l e ({ frames := 0, cells := 0, slots := 0, locals := 0 } : Room) s m #[(.ref a1), (.ref a2)] below meth c s₁ [] 0 0 := Stand.of_body Bd
  have e0 : s₁.heap = h0 := by rw [← hh, Bd.state]; rfl
  have N0 := Fr.nil n0
  have K0 := Keep.refl h0 []
  show own_G p.tables e below (own_P s (Q4 Z a1 a2 u_index_a1 u_term_a1 u_index_a2 u_term_a2 h0 n0) 0 0) (s₁.setTop (entryFrame m #[(.ref a1), (.ref a2)] 2))
  refine own_st (fun t k => castTop (ef_4 m a1 a2) k) ?_
  show own_G p.tables e below _ (s₁.setTop (mkF m 0 #[.val (.ref a1), .val (.ref a2)] []))
  refine own_st (fun _ k => XS.aloadN X0.here hx rfl (hb hby d4_0) rfl rfl k) ?_
  show own_G p.tables e below _ (s₁.setTop (mkF m 1 #[.val (.ref a1), .val (.ref a2)] [(.ref a1)]))
  obtain ⟨T1, X1, e1, st1⟩ := getF X0 hx hZ hown (host := "") (Or.inl (hw _ (List.mem_of_getElem? (i := 16) rfl))) Via.refl e0 F_term_a1 (g := (mkF m 1 #[.val (.ref a1), .val (.ref a2)] [(.ref a1)])) rfl rfl (hb hby d4_1)
  refine own_st st1 ?_
  show own_G p.tables e below _ (T1.setTop (mkF m 4 #[.val (.ref a1), .val (.ref a2)] [(.long u_term_a1)]))
  refine own_st (fun _ k => XS.aloadN X1.here hx rfl (hb hby d4_4) rfl rfl k) ?_
  show own_G p.tables e below _ (T1.setTop (mkF m 5 #[.val (.ref a1), .val (.ref a2)] [(.ref a2), (.long u_term_a1)]))
  obtain ⟨T2, X2, e2, st2⟩ := getF X1 hx hZ hown (host := "") (Or.inl (hw _ (List.mem_of_getElem? (i := 16) rfl))) Via.refl e1 F_term_a2 (g := (mkF m 5 #[.val (.ref a1), .val (.ref a2)] [(.ref a2), (.long u_term_a1)])) rfl rfl (hb hby d4_5)
  refine own_st st2 ?_
  show own_G p.tables e below _ (T2.setTop (mkF m 8 #[.val (.ref a1), .val (.ref a2)] [(.long u_term_a2), (.long u_term_a1)]))
  refine own_st (fun _ k => XS.lcmp X2.here hx rfl (hb hby d4_8) rfl k) ?_
  show own_G p.tables e below _ (T2.setTop (mkF m 9 #[.val (.ref a1), .val (.ref a2)] [(.int (lcmpW u_term_a1 u_term_a2))]))
  have J41_4 : ∀ (z5 : Int32) (hz5 : z5 = (own_b ((u_term_a2 < u_term_a1) ∨ ((u_term_a1 = u_term_a2) ∧ (¬ (u_index_a1 < u_index_a2)))))) (T6 : State) (L6 : List Loc) (X6 : Stand p l e ({ frames := 0, cells := 0, slots := 0, locals := 0 } : Room) s m #[(.ref a1), (.ref a2)] below meth c T6 L6 0 0) (N6 : Fr n0 L6) (e6 : T6.heap = h0), own_G p.tables e below (own_P s (Q4 Z a1 a2 u_index_a1 u_term_a1 u_index_a2 u_term_a2 h0 n0) 0 0) (T6.setTop (mkF m 41 #[.val (.ref a1), .val (.ref a2)] [(.int z5)])) := by
    intro z5 hz5 T6 L6 X6 N6 e6
    exact own_retZ X6 hx hlk Bd.returns (hb hby d4_41) (own_nar hz5) (by rw [e6]; exact ⟨⟨_, rfl, (by subst hz5; exact rfl)⟩, N6, rfl⟩) (by decide) (by decide)
  by_cases hc9_3 : u_term_a2 < u_term_a1
  · refine own_st (fun _ k => XS.ifYes X2.here hx rfl (pc0 := 9) (pc' := 36) rfl (hb hby d4_9) rfl ((if0 _ _).trans (tlt ((lw_gt u_term_a1 u_term_a2).mpr hc9_3)).2.2.1) (by decide) (by decide) k) ?_
    show own_G p.tables e below _ (T2.setTop (mkF m 36 #[.val (.ref a1), .val (.ref a2)] []))
    refine own_st (fun _ k => XS.iconst X2.here hx rfl (hb hby d4_36) k) ?_
    show own_G p.tables e below _ (T2.setTop (mkF m 37 #[.val (.ref a1), .val (.ref a2)] [(.int (1 : Int32))]))
    refine own_st (fun _ k => XS.goto X2.here hx rfl (pc0 := 37) (pc' := 41) rfl (hb hby d4_37) (by decide) (by decide) k) ?_
    show own_G p.tables e below _ (T2.setTop (mkF m 41 #[.val (.ref a1), .val (.ref a2)] [(.int (1 : Int32))]))
    exact J41_4 (1 : Int32) ((own_bt (Or.inl hc9_3)).symm) _ _ X2 N0 e2
  · refine own_st (fun _ k => XS.ifNo X2.here hx rfl (hb hby d4_9) rfl ((if0 _ _).trans (flt (fun q => hc9_3 ((lw_gt u_term_a1 u_term_a2).mp q))).2.2.1) k) ?_
    show own_G p.tables e below _ (T2.setTop (mkF m 12 #[.val (.ref a1), .val (.ref a2)] []))
    refine own_st (fun _ k => XS.aloadN X2.here hx rfl (hb hby d4_12) rfl rfl k) ?_
    show own_G p.tables e below _ (T2.setTop (mkF m 13 #[.val (.ref a1), .val (.ref a2)] [(.ref a1)]))
    obtain ⟨T7, X7, e7, st7⟩ := getF X2 hx hZ hown (host := "") (Or.inl (hw _ (List.mem_of_getElem? (i := 16) rfl))) Via.refl e2 F_term_a1 (g := (mkF m 13 #[.val (.ref a1), .val (.ref a2)] [(.ref a1)])) rfl rfl (hb hby d4_13)
    refine own_st st7 ?_
    show own_G p.tables e below _ (T7.setTop (mkF m 16 #[.val (.ref a1), .val (.ref a2)] [(.long u_term_a1)]))
    refine own_st (fun _ k => XS.aloadN X7.here hx rfl (hb hby d4_16) rfl rfl k) ?_
    show own_G p.tables e below _ (T7.setTop (mkF m 17 #[.val (.ref a1), .val (.ref a2)] [(.ref a2), (.long u_term_a1)]))
    obtain ⟨T8, X8, e8, st8⟩ := getF X7 hx hZ hown (host := "") (Or.inl (hw _ (List.mem_of_getElem? (i := 16) rfl))) Via.refl e7 F_term_a2 (g := (mkF m 17 #[.val (.ref a1), .val (.ref a2)] [(.ref a2), (.long u_term_a1)])) rfl rfl (hb hby d4_17)
    refine own_st st8 ?_
    show own_G p.tables e below _ (T8.setTop (mkF m 20 #[.val (.ref a1), .val (.ref a2)] [(.long u_term_a2), (.long u_term_a1)]))
    refine own_st (fun _ k => XS.lcmp X8.here hx rfl (hb hby d4_20) rfl k) ?_
    show own_G p.tables e below _ (T8.setTop (mkF m 21 #[.val (.ref a1), .val (.ref a2)] [(.int (lcmpW u_term_a1 u_term_a2))]))
    by_cases hc21_9 : u_term_a1 = u_term_a2
    · refine own_st (fun _ k => XS.ifNo X8.here hx rfl (hb hby d4_21) rfl ((if0 _ _).trans (teq ((lw_eq u_term_a1 u_term_a2).mpr hc21_9)).2) k) ?_
      show own_G p.tables e below _ (T8.setTop (mkF m 24 #[.val (.ref a1), .val (.ref a2)] []))
      refine own_st (fun _ k => XS.aloadN X8.here hx rfl (hb hby d4_24) rfl rfl k) ?_
      show own_G p.tables e below _ (T8.setTop (mkF m 25 #[.val (.ref a1), .val (.ref a2)] [(.ref a1)]))
      obtain ⟨T10, X10, e10, st10⟩ := getF X8 hx hZ hown (host := "") (Or.inl (hw _ (List.mem_of_getElem? (i := 14) rfl))) Via.refl e8 F_index_a1 (g := (mkF m 25 #[.val (.ref a1), .val (.ref a2)] [(.ref a1)])) rfl rfl (hb hby d4_25)
      refine own_st st10 ?_
      show own_G p.tables e below _ (T10.setTop (mkF m 28 #[.val (.ref a1), .val (.ref a2)] [(.long u_index_a1)]))
      refine own_st (fun _ k => XS.aloadN X10.here hx rfl (hb hby d4_28) rfl rfl k) ?_
      show own_G p.tables e below _ (T10.setTop (mkF m 29 #[.val (.ref a1), .val (.ref a2)] [(.ref a2), (.long u_index_a1)]))
      obtain ⟨T11, X11, e11, st11⟩ := getF X10 hx hZ hown (host := "") (Or.inl (hw _ (List.mem_of_getElem? (i := 14) rfl))) Via.refl e10 F_index_a2 (g := (mkF m 29 #[.val (.ref a1), .val (.ref a2)] [(.ref a2), (.long u_index_a1)])) rfl rfl (hb hby d4_29)
      refine own_st st11 ?_
      show own_G p.tables e below _ (T11.setTop (mkF m 32 #[.val (.ref a1), .val (.ref a2)] [(.long u_index_a2), (.long u_index_a1)]))
      refine own_st (fun _ k => XS.lcmp X11.here hx rfl (hb hby d4_32) rfl k) ?_
      show own_G p.tables e below _ (T11.setTop (mkF m 33 #[.val (.ref a1), .val (.ref a2)] [(.int (lcmpW u_index_a1 u_index_a2))]))
      by_cases hc33_12 : u_index_a1 < u_index_a2
      · refine own_st (fun _ k => XS.ifYes X11.here hx rfl (pc0 := 33) (pc' := 40) rfl (hb hby d4_33) rfl ((if0 _ _).trans (tlt ((lw_lt u_index_a1 u_index_a2).mpr hc33_12)).1) (by decide) (by decide) k) ?_
        show own_G p.tables e below _ (T11.setTop (mkF m 40 #[.val (.ref a1), .val (.ref a2)] []))
        refine own_st (fun _ k => XS.iconst X11.here hx rfl (hb hby d4_40) k) ?_
        show own_G p.tables e below _ (T11.setTop (mkF m 41 #[.val (.ref a1), .val (.ref a2)] [(.int (0 : Int32))]))
        exact J41_4 (0 : Int32) ((own_bf (fun q => q.elim hc9_3 (fun q => (fun q => q hc33_12) q.2))).symm) _ _ X11 N0 e11
      · refine own_st (fun _ k => XS.ifNo X11.here hx rfl (hb hby d4_33) rfl ((if0 _ _).trans (flt (fun q => hc33_12 ((lw_lt u_index_a1 u_index_a2).mp q))).1) k) ?_
        show own_G p.tables e below _ (T11.setTop (mkF m 36 #[.val (.ref a1), .val (.ref a2)] []))
        refine own_st (fun _ k => XS.iconst X11.here hx rfl (hb hby d4_36) k) ?_
        show own_G p.tables e below _ (T11.setTop (mkF m 37 #[.val (.ref a1), .val (.ref a2)] [(.int (1 : Int32))]))
        refine own_st (fun _ k => XS.goto X11.here hx rfl (pc0 := 37) (pc' := 41) rfl (hb hby d4_37) (by decide) (by decide) k) ?_
        show own_G p.tables e below _ (T11.setTop (mkF m 41 #[.val (.ref a1), .val (.ref a2)] [(.int (1 : Int32))]))
        exact J41_4 (1 : Int32) ((own_bt (Or.inr ⟨hc21_9, hc33_12⟩)).symm) _ _ X11 N0 e11
    · refine own_st (fun _ k => XS.ifYes X8.here hx rfl (pc0 := 21) (pc' := 40) rfl (hb hby d4_21) rfl ((if0 _ _).trans (feq (fun q => hc21_9 ((lw_eq u_term_a1 u_term_a2).mp q))).2) (by decide) (by decide) k) ?_
      show own_G p.tables e below _ (T8.setTop (mkF m 40 #[.val (.ref a1), .val (.ref a2)] []))
      refine own_st (fun _ k => XS.iconst X8.here hx rfl (hb hby d4_40) k) ?_
      show own_G p.tables e below _ (T8.setTop (mkF m 41 #[.val (.ref a1), .val (.ref a2)] [(.int (0 : Int32))]))
      exact J41_4 (0 : Int32) ((own_bf (fun q => q.elim hc9_3 (fun q => hc21_9 q.1))).symm) _ _ X8 N0 e8
def Q5 (Z : State) (q1 : Int64) (q2 : Int64) (q3 : Int64) (q4 : Int64) (h0 : Heap) (n0 : Nat) (v : Option Value) (h : Heap) (L : List Loc) : Prop := (∃ z : Int32, v = some (.int z) ∧ z = (own_b (¬ (q2 < q4) ∧ ((q4 < q2) ∨ (¬ (q1 < q3)))))) ∧ Fr n0 L ∧ h = h0
set_option maxRecDepth 65536 in
set_option maxHeartbeats 40000000 in
theorem rm5 (l : Launch) (Z : State) (a0 : Array Value) (hw : ∀ d ∈ tables_1, d.before a0 Z = true) (ws : List Jvm.Cond) (q1 : Int64) (q2 : Int64) (q3 : Int64) (q4 : Int64) (h0 : Heap) (n0 : Nat) (Z0 : n0 ≤ h0.size) :
    MetFree l (⟨"com/example/rendezvous/rendezvous/server/LogPositionAtLeastPinLaw", "expected", "(JJJJ)Z"⟩ : MethodName) (head1 (Jvm.Cond.code (⟨"com/example/rendezvous/rendezvous/server/LogPositionAtLeastPinLaw", "expected", "(JJJJ)Z"⟩ : MethodName) method_3_code 8 (some .boolean) :: ws) ({ frames := 0, cells := 0, slots := 0, locals := 0 } : Room)) (fun a U => a = #[(.long q1), (.long q2), (.long q3), (.long q4)] ∧ Z.Warmed39 U.vm ∧ U.heap = h0) (fun _ _ _ _ _ => True) (fun _ U o U' => ∃ v L, o = .returned v ∧ Q5 Z q1 q2 q3 q4 h0 n0 v U'.heap L ∧ FrameEnd U o U' L ({ frames := 0, cells := 0, slots := 0, locals := 0 } : Room).cells ({ frames := 0, cells := 0, slots := 0, locals := 0 } : Room).slots) := by
  refine MetFree.of_bodySF (plainFor_of_name pn_5) hisR ?_
  intro p e s m args below meth c s₁ Bd hml0 hP hK
  obtain ⟨rfl, hZ, hh⟩ := hP
  have hx := Bd.exec
  have hby := Bd.bytes
  have hlk := BodyLoose.notSynchronized Bd
  have hml : c.maxLocals = 8 := hml0
  have hown : s.vm.findClass "com/example/rendezvous/rendezvous/server/LogPositionAtLeastPinLaw" = some m.cls := findClass_of_methodNamed Bd.named
  have hnm := (name_of_methodNamed Bd.named Bd.method).1
  have X0 : Stand p l e ({ frames := 0, cells := 0, slots := 0, locals := 0 } : Room) s m #[(.long q1), (.long q2), (.long q3), (.long q4)] below meth c s₁ [] 0 0 := Stand.of_body Bd
  have e0 : s₁.heap = h0 := by rw [← hh, Bd.state]; rfl
  have N0 := Fr.nil n0
  have K0 := Keep.refl h0 []
  show own_G p.tables e below (own_P s (Q5 Z q1 q2 q3 q4 h0 n0) 0 0) (s₁.setTop (entryFrame m #[(.long q1), (.long q2), (.long q3), (.long q4)] 8))
  refine own_st (fun t k => castTop (ef_5 m q1 q2 q3 q4) k) ?_
  show own_G p.tables e below _ (s₁.setTop (mkF m 0 #[.val (.long q1), .second, .val (.long q2), .second, .val (.long q3), .second, .val (.long q4), .second] []))
  refine own_st (fun _ k => XS.lloadN X0.here hx rfl (hb hby d5_0) rfl k) ?_
  show own_G p.tables e below _ (s₁.setTop (mkF m 1 #[.val (.long q1), .second, .val (.long q2), .second, .val (.long q3), .second, .val (.long q4), .second] [(.long q2)]))
  refine own_st (fun _ k => XS.lload X0.here hx rfl (hb hby d5_1) rfl k) ?_
  show own_G p.tables e below _ (s₁.setTop (mkF m 3 #[.val (.long q1), .second, .val (.long q2), .second, .val (.long q3), .second, .val (.long q4), .second] [(.long q4), (.long q2)]))
  refine own_st (fun _ k => XS.lcmp X0.here hx rfl (hb hby d5_3) rfl k) ?_
  show own_G p.tables e below _ (s₁.setTop (mkF m 4 #[.val (.long q1), .second, .val (.long q2), .second, .val (.long q3), .second, .val (.long q4), .second] [(.int (lcmpW q2 q4))]))
  by_cases hc4_1 : q2 < q4
  · refine own_st (fun _ k => XS.ifNo X0.here hx rfl (hb hby d5_4) rfl ((if0 _ _).trans (tlt ((lw_lt q2 q4).mpr hc4_1)).2.1) k) ?_
    show own_G p.tables e below _ (s₁.setTop (mkF m 7 #[.val (.long q1), .second, .val (.long q2), .second, .val (.long q3), .second, .val (.long q4), .second] []))
    refine own_st (fun _ k => XS.iconst X0.here hx rfl (hb hby d5_7) k) ?_
    show own_G p.tables e below _ (s₁.setTop (mkF m 8 #[.val (.long q1), .second, .val (.long q2), .second, .val (.long q3), .second, .val (.long q4), .second] [(.int (0 : Int32))]))
    exact own_retZ X0 hx hlk Bd.returns (hb hby d5_8) (by decide) (by rw [e0]; exact ⟨⟨_, rfl, (own_bf (fun q => q.1 hc4_1)).symm⟩, N0, rfl⟩) (by decide) (by decide)
  · refine own_st (fun _ k => XS.ifYes X0.here hx rfl (pc0 := 4) (pc' := 9) rfl (hb hby d5_4) rfl ((if0 _ _).trans (flt (fun q => hc4_1 ((lw_lt q2 q4).mp q))).2.1) (by decide) (by decide) k) ?_
    show own_G p.tables e below _ (s₁.setTop (mkF m 9 #[.val (.long q1), .second, .val (.long q2), .second, .val (.long q3), .second, .val (.long q4), .second] []))
    refine own_st (fun _ k => XS.lloadN X0.here hx rfl (hb hby d5_9) rfl k) ?_
    show own_G p.tables e below _ (s₁.setTop (mkF m 10 #[.val (.long q1), .second, .val (.long q2), .second, .val (.long q3), .second, .val (.long q4), .second] [(.long q2)]))
    refine own_st (fun _ k => XS.lload X0.here hx rfl (hb hby d5_10) rfl k) ?_
    show own_G p.tables e below _ (s₁.setTop (mkF m 12 #[.val (.long q1), .second, .val (.long q2), .second, .val (.long q3), .second, .val (.long q4), .second] [(.long q4), (.long q2)]))
    refine own_st (fun _ k => XS.lcmp X0.here hx rfl (hb hby d5_12) rfl k) ?_
    show own_G p.tables e below _ (s₁.setTop (mkF m 13 #[.val (.long q1), .second, .val (.long q2), .second, .val (.long q3), .second, .val (.long q4), .second] [(.int (lcmpW q2 q4))]))
    by_cases hc13_2 : q4 < q2
    · refine own_st (fun _ k => XS.ifNo X0.here hx rfl (hb hby d5_13) rfl ((if0 _ _).trans (tlt ((lw_gt q2 q4).mpr hc13_2)).2.2.2) k) ?_
      show own_G p.tables e below _ (s₁.setTop (mkF m 16 #[.val (.long q1), .second, .val (.long q2), .second, .val (.long q3), .second, .val (.long q4), .second] []))
      refine own_st (fun _ k => XS.iconst X0.here hx rfl (hb hby d5_16) k) ?_
      show own_G p.tables e below _ (s₁.setTop (mkF m 17 #[.val (.long q1), .second, .val (.long q2), .second, .val (.long q3), .second, .val (.long q4), .second] [(.int (1 : Int32))]))
      exact own_retZ X0 hx hlk Bd.returns (hb hby d5_17) (by decide) (by rw [e0]; exact ⟨⟨_, rfl, (own_bt ⟨hc4_1, (Or.inl hc13_2)⟩).symm⟩, N0, rfl⟩) (by decide) (by decide)
    · refine own_st (fun _ k => XS.ifYes X0.here hx rfl (pc0 := 13) (pc' := 18) rfl (hb hby d5_13) rfl ((if0 _ _).trans (flt (fun q => hc13_2 ((lw_gt q2 q4).mp q))).2.2.2) (by decide) (by decide) k) ?_
      show own_G p.tables e below _ (s₁.setTop (mkF m 18 #[.val (.long q1), .second, .val (.long q2), .second, .val (.long q3), .second, .val (.long q4), .second] []))
      refine own_st (fun _ k => XS.lloadN X0.here hx rfl (hb hby d5_18) rfl k) ?_
      show own_G p.tables e below _ (s₁.setTop (mkF m 19 #[.val (.long q1), .second, .val (.long q2), .second, .val (.long q3), .second, .val (.long q4), .second] [(.long q1)]))
      refine own_st (fun _ k => XS.lload X0.here hx rfl (hb hby d5_19) rfl k) ?_
      show own_G p.tables e below _ (s₁.setTop (mkF m 21 #[.val (.long q1), .second, .val (.long q2), .second, .val (.long q3), .second, .val (.long q4), .second] [(.long q3), (.long q1)]))
      refine own_st (fun _ k => XS.lcmp X0.here hx rfl (hb hby d5_21) rfl k) ?_
      show own_G p.tables e below _ (s₁.setTop (mkF m 22 #[.val (.long q1), .second, .val (.long q2), .second, .val (.long q3), .second, .val (.long q4), .second] [(.int (lcmpW q1 q3))]))
      have J30_4 : ∀ (z5 : Int32) (hz5 : z5 = (own_b (¬ (q1 < q3)))), own_G p.tables e below (own_P s (Q5 Z q1 q2 q3 q4 h0 n0) 0 0) (s₁.setTop (mkF m 30 #[.val (.long q1), .second, .val (.long q2), .second, .val (.long q3), .second, .val (.long q4), .second] [(.int z5)])) := by
        intro z5 hz5
        exact own_retZ X0 hx hlk Bd.returns (hb hby d5_30) (own_nar hz5) (by rw [e0]; exact ⟨⟨_, rfl, (by subst hz5; exact (own_bc ⟨fun q => ⟨hc4_1, (Or.inr q)⟩, fun q => (((q).2).elim (fun r => absurd r hc13_2) (fun r => r))⟩))⟩, N0, rfl⟩) (by decide) (by decide)
      by_cases hc22_3 : q1 < q3
      · refine own_st (fun _ k => XS.ifYes X0.here hx rfl (pc0 := 22) (pc' := 29) rfl (hb hby d5_22) rfl ((if0 _ _).trans (tlt ((lw_lt q1 q3).mpr hc22_3)).1) (by decide) (by decide) k) ?_
        show own_G p.tables e below _ (s₁.setTop (mkF m 29 #[.val (.long q1), .second, .val (.long q2), .second, .val (.long q3), .second, .val (.long q4), .second] []))
        refine own_st (fun _ k => XS.iconst X0.here hx rfl (hb hby d5_29) k) ?_
        show own_G p.tables e below _ (s₁.setTop (mkF m 30 #[.val (.long q1), .second, .val (.long q2), .second, .val (.long q3), .second, .val (.long q4), .second] [(.int (0 : Int32))]))
        exact J30_4 (0 : Int32) ((own_bf (fun q => q hc22_3)).symm)
      · refine own_st (fun _ k => XS.ifNo X0.here hx rfl (hb hby d5_22) rfl ((if0 _ _).trans (flt (fun q => hc22_3 ((lw_lt q1 q3).mp q))).1) k) ?_
        show own_G p.tables e below _ (s₁.setTop (mkF m 25 #[.val (.long q1), .second, .val (.long q2), .second, .val (.long q3), .second, .val (.long q4), .second] []))
        refine own_st (fun _ k => XS.iconst X0.here hx rfl (hb hby d5_25) k) ?_
        show own_G p.tables e below _ (s₁.setTop (mkF m 26 #[.val (.long q1), .second, .val (.long q2), .second, .val (.long q3), .second, .val (.long q4), .second] [(.int (1 : Int32))]))
        refine own_st (fun _ k => XS.goto X0.here hx rfl (pc0 := 26) (pc' := 30) rfl (hb hby d5_26) (by decide) (by decide) k) ?_
        show own_G p.tables e below _ (s₁.setTop (mkF m 30 #[.val (.long q1), .second, .val (.long q2), .second, .val (.long q3), .second, .val (.long q4), .second] [(.int (1 : Int32))]))
        exact J30_4 (1 : Int32) ((own_bt hc22_3).symm)
def Q0 (n0 : Nat) (v : Option Value) (h : Heap) (L : List Loc) : Prop := v = some (.int 1) ∧ Fr n0 L
set_option maxRecDepth 65536 in
set_option maxHeartbeats 40000000 in
theorem rm0 (l : Launch) (Z : State) (a0 : Array Value) (hw : ∀ d ∈ tables_1, d.before a0 Z = true) (ws : List Jvm.Cond) (i0 : Int64) (i1 : Int64) (i2 : Int64) (i3 : Int64) (i4 : Int32) (h0 : Heap) (n0 : Nat) (Z0 : n0 ≤ h0.size) :
    MetFree l x (head1 (Jvm.Cond.code x code maxLocals ret :: ws) room_1) (fun a U => a = #[(.long i0), (.long i1), (.long i2), (.long i3), (.int i4)] ∧ Z.Warmed39 U.vm ∧ U.heap = h0) (fun _ _ _ _ _ => True) (fun _ U o U' => ∃ v L, o = .returned v ∧ Q0 n0 v U'.heap L ∧ FrameEnd U o U' L 16 128) := by
  refine MetFree.of_bodySF (plainFor_of_name pn_0) hisR ?_
  intro p e s m args below meth c s₁ Bd hml0 hP hK
  obtain ⟨rfl, hZ, hh⟩ := hP
  have hx := Bd.exec
  have hby := Bd.bytes
  have hlk := BodyLoose.notSynchronized Bd
  have hml : c.maxLocals = 17 := hml0
  have hown : s.vm.findClass "com/example/rendezvous/rendezvous/server/LogPositionAtLeastPinLaw" = some m.cls := findClass_of_methodNamed Bd.named
  have hnm := (name_of_methodNamed Bd.named Bd.method).1
  have X0 : Stand p l e room_1 s m #[(.long i0), (.long i1), (.long i2), (.long i3), (.int i4)] below meth c s₁ [] 0 0 := Stand.of_body Bd
  have e0 : s₁.heap = h0 := by rw [← hh, Bd.state]; rfl
  have N0 := Fr.nil n0
  have K0 := Keep.refl h0 []
  show own_G p.tables e below (own_P s (Q0 n0) 16 128) (s₁.setTop (entryFrame m #[(.long i0), (.long i1), (.long i2), (.long i3), (.int i4)] maxLocals))
  refine own_st (fun t k => castTop (ef_0 m i0 i1 i2 i3 i4) k) ?_
  show own_G p.tables e below _ (s₁.setTop (mkF m 0 #[.val (.long i0), .second, .val (.long i1), .second, .val (.long i2), .second, .val (.long i3), .second, .val (.int i4), .unset, .unset, .unset, .unset, .unset, .unset, .unset, .unset] []))
  refine own_st (fun _ k => XS.lload X0.here hx rfl (hb hby at_0) rfl k) ?_
  show own_G p.tables e below _ (s₁.setTop (mkF m 2 #[.val (.long i0), .second, .val (.long i1), .second, .val (.long i2), .second, .val (.long i3), .second, .val (.int i4), .unset, .unset, .unset, .unset, .unset, .unset, .unset, .unset] [(.long i2)]))
  refine own_st (fun _ k => XS.lstore X0.here hx rfl (hb hby at_2) rfl (l' := #[.val (.long i0), .second, .val (.long i1), .second, .val (.long i2), .second, .val (.long i3), .second, .val (.int i4), .val (.long i2), .second, .unset, .unset, .unset, .unset, .unset, .unset]) rfl k) ?_
  show own_G p.tables e below _ (s₁.setTop (mkF m 4 #[.val (.long i0), .second, .val (.long i1), .second, .val (.long i2), .second, .val (.long i3), .second, .val (.int i4), .val (.long i2), .second, .unset, .unset, .unset, .unset, .unset, .unset] []))
  refine own_st (fun _ k => XS.lload X0.here hx rfl (hb hby at_4) rfl k) ?_
  show own_G p.tables e below _ (s₁.setTop (mkF m 6 #[.val (.long i0), .second, .val (.long i1), .second, .val (.long i2), .second, .val (.long i3), .second, .val (.int i4), .val (.long i2), .second, .unset, .unset, .unset, .unset, .unset, .unset] [(.long i3)]))
  refine own_st (fun _ k => XS.lstore X0.here hx rfl (hb hby at_6) rfl (l' := #[.val (.long i0), .second, .val (.long i1), .second, .val (.long i2), .second, .val (.long i3), .second, .val (.int i4), .val (.long i2), .second, .val (.long i3), .second, .unset, .unset, .unset, .unset]) rfl k) ?_
  show own_G p.tables e below _ (s₁.setTop (mkF m 8 #[.val (.long i0), .second, .val (.long i1), .second, .val (.long i2), .second, .val (.long i3), .second, .val (.int i4), .val (.long i2), .second, .val (.long i3), .second, .unset, .unset, .unset, .unset] []))
  refine own_st (fun _ k => XS.iload X0.here hx rfl (hb hby at_8) rfl k) ?_
  show own_G p.tables e below _ (s₁.setTop (mkF m 10 #[.val (.long i0), .second, .val (.long i1), .second, .val (.long i2), .second, .val (.long i3), .second, .val (.int i4), .val (.long i2), .second, .val (.long i3), .second, .unset, .unset, .unset, .unset] [(.int i4)]))
  refine own_st (fun _ k => XS.iconst X0.here hx rfl (hb hby at_10) k) ?_
  show own_G p.tables e below _ (s₁.setTop (mkF m 11 #[.val (.long i0), .second, .val (.long i1), .second, .val (.long i2), .second, .val (.long i3), .second, .val (.int i4), .val (.long i2), .second, .val (.long i3), .second, .unset, .unset, .unset, .unset] [(.int (1 : Int32)), (.int i4)]))
  refine own_st (fun _ k => XS.iand X0.here hx rfl (hb hby at_11) rfl k) ?_
  show own_G p.tables e below _ (s₁.setTop (mkF m 12 #[.val (.long i0), .second, .val (.long i1), .second, .val (.long i2), .second, .val (.long i3), .second, .val (.int i4), .val (.long i2), .second, .val (.long i3), .second, .unset, .unset, .unset, .unset] [(.int (i4 &&& (1 : Int32)))]))
  have J18_2 : ∀ (z3 : Int64) (hz3 : z3 = (if (i4 &&& (1 : Int32)) = (0 : Int32) then i3 else i1)), own_G p.tables e below (own_P s (Q0 n0) 16 128) (s₁.setTop (mkF m 18 #[.val (.long i0), .second, .val (.long i1), .second, .val (.long i2), .second, .val (.long i3), .second, .val (.int i4), .val (.long i2), .second, .val (.long z3), .second, .unset, .unset, .unset, .unset] [])) := by
    intro z3 hz3
    refine own_st (fun _ k => XS.iload X0.here hx rfl (hb hby at_18) rfl k) ?_
    show own_G p.tables e below _ (s₁.setTop (mkF m 20 #[.val (.long i0), .second, .val (.long i1), .second, .val (.long i2), .second, .val (.long i3), .second, .val (.int i4), .val (.long i2), .second, .val (.long z3), .second, .unset, .unset, .unset, .unset] [(.int i4)]))
    refine own_st (fun _ k => XS.iconst X0.here hx rfl (hb hby at_20) k) ?_
    show own_G p.tables e below _ (s₁.setTop (mkF m 21 #[.val (.long i0), .second, .val (.long i1), .second, .val (.long i2), .second, .val (.long i3), .second, .val (.int i4), .val (.long i2), .second, .val (.long z3), .second, .unset, .unset, .unset, .unset] [(.int (2 : Int32)), (.int i4)]))
    refine own_st (fun _ k => XS.iand X0.here hx rfl (hb hby at_21) rfl k) ?_
    show own_G p.tables e below _ (s₁.setTop (mkF m 22 #[.val (.long i0), .second, .val (.long i1), .second, .val (.long i2), .second, .val (.long i3), .second, .val (.int i4), .val (.long i2), .second, .val (.long z3), .second, .unset, .unset, .unset, .unset] [(.int (i4 &&& (2 : Int32)))]))
    have J28_5 : ∀ (z6 : Int64) (hz6 : z6 = (if (i4 &&& (2 : Int32)) = (0 : Int32) then i2 else i0)), own_G p.tables e below (own_P s (Q0 n0) 16 128) (s₁.setTop (mkF m 28 #[.val (.long i0), .second, .val (.long i1), .second, .val (.long i2), .second, .val (.long i3), .second, .val (.int i4), .val (.long z6), .second, .val (.long z3), .second, .unset, .unset, .unset, .unset] [])) := by
      intro z6 hz6
      obtain ⟨T7, h7, X7, e7, E7, A7, D7, -, st7⟩ := newO X0 hx hZ hown (hw _ (List.mem_of_getElem? (i := 0) rfl)) (hw _ (List.mem_of_getElem? (i := 1) rfl)) (hw _ (List.mem_of_getElem? (i := 2) rfl)) e0 (g := (mkF m 28 #[.val (.long i0), .second, .val (.long i1), .second, .val (.long i2), .second, .val (.long i3), .second, .val (.int i4), .val (.long z6), .second, .val (.long z3), .second, .unset, .unset, .unset, .unset] [])) rfl (hb hby at_28) (by decide) (by decide)
      obtain ⟨b7, g7⟩ : ∃ z, z = h0.size := ⟨_, rfl⟩
      rw [← g7] at A7 D7 st7
      have ge_b7 : n0 ≤ b7 := Nat.le_trans Z0 (Nat.le_of_eq g7.symm)
      have Z8 := Nat.le_trans Z0 E7.1
      have F9 : Fld Z h7 b7 "com/example/rendezvous/rendezvous/server/LogPosition" "index" "J" (.long (0 : Int64)) := D7 (Or.inr (hw _ (List.mem_of_getElem? (i := 15) rfl))) (ty := .long) (by decide)
      have F10 : Fld Z h7 b7 "com/example/rendezvous/rendezvous/server/LogPosition" "term" "J" (.long (0 : Int64)) := D7 (Or.inr (hw _ (List.mem_of_getElem? (i := 17) rfl))) (ty := .long) (by decide)
      refine own_st st7 ?_
      show own_G p.tables e below _ (T7.setTop (mkF m 31 #[.val (.long i0), .second, .val (.long i1), .second, .val (.long i2), .second, .val (.long i3), .second, .val (.int i4), .val (.long z6), .second, .val (.long z3), .second, .unset, .unset, .unset, .unset] [(.ref b7)]))
      refine own_st (fun _ k => XS.dup X7.here hx rfl (hb hby at_31) rfl rfl k) ?_
      show own_G p.tables e below _ (T7.setTop (mkF m 32 #[.val (.long i0), .second, .val (.long i1), .second, .val (.long i2), .second, .val (.long i3), .second, .val (.int i4), .val (.long z6), .second, .val (.long z3), .second, .unset, .unset, .unset, .unset] [(.ref b7), (.ref b7)]))
      refine own_st (fun _ k => XS.lloadN X7.here hx rfl (hb hby at_32) rfl k) ?_
      show own_G p.tables e below _ (T7.setTop (mkF m 33 #[.val (.long i0), .second, .val (.long i1), .second, .val (.long i2), .second, .val (.long i3), .second, .val (.int i4), .val (.long z6), .second, .val (.long z3), .second, .unset, .unset, .unset, .unset] [(.long i0), (.ref b7), (.ref b7)]))
      refine own_st (fun _ k => XS.lloadN X7.here hx rfl (hb hby at_33) rfl k) ?_
      show own_G p.tables e below _ (T7.setTop (mkF m 34 #[.val (.long i0), .second, .val (.long i1), .second, .val (.long i2), .second, .val (.long i3), .second, .val (.int i4), .val (.long z6), .second, .val (.long z3), .second, .unset, .unset, .unset, .unset] [(.long i1), (.long i0), (.ref b7), (.ref b7)]))
      obtain ⟨_, _, ⟨T11, L11, k11, n11⟩, -, X11, ⟨Lc11, hQ11, l11, y11, z11⟩, st11⟩ := X7.specialBack hx (y := (⟨"com/example/rendezvous/rendezvous/server/LogPosition", "<init>", "(JJ)V"⟩ : MethodName)) rfl hown (mvT hZ (hw _ (List.mem_of_getElem? (i := 3) rfl))) (mvT hZ (hw _ (List.mem_of_getElem? (i := 4) rfl))) (mvT hZ (hw _ (List.mem_of_getElem? (i := 5) rfl))) (by decide) (backOf (W := 1) (rm1 l Z a0 hw [] b7 i0 i1 (0 : Int64) (0 : Int64) h7 n0 Z8 F9 F10 A7 ge_b7) hZ (hw _ (List.mem_of_getElem? (i := 5) rfl)) (hw _ (List.mem_of_getElem? (i := 2) rfl)) (by decide) (by decide)) (g := (mkF m 34 #[.val (.long i0), .second, .val (.long i1), .second, .val (.long i2), .second, .val (.long i3), .second, .val (.int i4), .val (.long z6), .second, .val (.long z3), .second, .unset, .unset, .unset, .unset] [(.long i1), (.long i0), (.ref b7), (.ref b7)])) rfl (by rw [hml]; rfl) (Steps.refl _) (a := b7) (argsL := [(.long i0), (.long i1)]) (rest := [(.ref b7)]) (lenOf pd_1 rfl) rfl (by show 2 * 0 + _ ≤ _; exact Nat.le_of_eq rfl) (hb hby at_34) (fun _ _ => ⟨rfl, e7, (by decide : 1 + 0 ≤ _), (by decide : 2 + 0 ≤ _)⟩)
      dsimp only [Pt.U, Pt.locs, Pt.cells, Pt.slots] at X11 l11 y11 z11 st11 hQ11
      subst l11 y11 z11
      obtain ⟨rfl, N11q, K11q, E12, F13, F14⟩ := hQ11
      have N11 := Fr.app N0 N11q
      have Z16 := Nat.le_trans Z8 K11q.1
      refine own_st (fun _ k => st11.trans k) ?_
      show own_G p.tables e below _ (T11.setTop (mkF m 37 #[.val (.long i0), .second, .val (.long i1), .second, .val (.long i2), .second, .val (.long i3), .second, .val (.int i4), .val (.long z6), .second, .val (.long z3), .second, .unset, .unset, .unset, .unset] [(.ref b7)]))
      refine own_st (fun _ k => XS.astore X11.here hx rfl (hb hby at_37) rfl rfl (l' := #[.val (.long i0), .second, .val (.long i1), .second, .val (.long i2), .second, .val (.long i3), .second, .val (.int i4), .val (.long z6), .second, .val (.long z3), .second, .val (.ref b7), .unset, .unset, .unset]) rfl k) ?_
      show own_G p.tables e below _ (T11.setTop (mkF m 39 #[.val (.long i0), .second, .val (.long i1), .second, .val (.long i2), .second, .val (.long i3), .second, .val (.int i4), .val (.long z6), .second, .val (.long z3), .second, .val (.ref b7), .unset, .unset, .unset] []))
      obtain ⟨T19, h19, X19, e19, E19, A19, D19, -, st19⟩ := newO X11 hx hZ hown (hw _ (List.mem_of_getElem? (i := 0) rfl)) (hw _ (List.mem_of_getElem? (i := 1) rfl)) (hw _ (List.mem_of_getElem? (i := 2) rfl)) rfl (g := (mkF m 39 #[.val (.long i0), .second, .val (.long i1), .second, .val (.long i2), .second, .val (.long i3), .second, .val (.int i4), .val (.long z6), .second, .val (.long z3), .second, .val (.ref b7), .unset, .unset, .unset] [])) rfl (hb hby at_39) (by decide) (by decide)
      obtain ⟨b19, g19⟩ : ∃ z, z = T11.heap.size := ⟨_, rfl⟩
      rw [← g19] at A19 D19 st19
      have ge_b19 : n0 ≤ b19 := Nat.le_trans Z16 (Nat.le_of_eq g19.symm)
      have ne_b7_b19 : b7 ≠ b19 := fun q => Nat.lt_irrefl _ (Nat.lt_of_lt_of_eq E12.lt (g19.symm.trans q.symm))
      have E20 := E12.ext E19
      have F21 := F13.ext E19
      have F22 := F14.ext E19
      have Z23 := Nat.le_trans Z16 E19.1
      have F24 : Fld Z h19 b19 "com/example/rendezvous/rendezvous/server/LogPosition" "index" "J" (.long (0 : Int64)) := D19 (Or.inr (hw _ (List.mem_of_getElem? (i := 15) rfl))) (ty := .long) (by decide)
      have F25 : Fld Z h19 b19 "com/example/rendezvous/rendezvous/server/LogPosition" "term" "J" (.long (0 : Int64)) := D19 (Or.inr (hw _ (List.mem_of_getElem? (i := 17) rfl))) (ty := .long) (by decide)
      refine own_st st19 ?_
      show own_G p.tables e below _ (T19.setTop (mkF m 42 #[.val (.long i0), .second, .val (.long i1), .second, .val (.long i2), .second, .val (.long i3), .second, .val (.int i4), .val (.long z6), .second, .val (.long z3), .second, .val (.ref b7), .unset, .unset, .unset] [(.ref b19)]))
      refine own_st (fun _ k => XS.dup X19.here hx rfl (hb hby at_42) rfl rfl k) ?_
      show own_G p.tables e below _ (T19.setTop (mkF m 43 #[.val (.long i0), .second, .val (.long i1), .second, .val (.long i2), .second, .val (.long i3), .second, .val (.int i4), .val (.long z6), .second, .val (.long z3), .second, .val (.ref b7), .unset, .unset, .unset] [(.ref b19), (.ref b19)]))
      refine own_st (fun _ k => XS.lload X19.here hx rfl (hb hby at_43) rfl k) ?_
      show own_G p.tables e below _ (T19.setTop (mkF m 45 #[.val (.long i0), .second, .val (.long i1), .second, .val (.long i2), .second, .val (.long i3), .second, .val (.int i4), .val (.long z6), .second, .val (.long z3), .second, .val (.ref b7), .unset, .unset, .unset] [(.long z6), (.ref b19), (.ref b19)]))
      refine own_st (fun _ k => XS.lload X19.here hx rfl (hb hby at_45) rfl k) ?_
      show own_G p.tables e below _ (T19.setTop (mkF m 47 #[.val (.long i0), .second, .val (.long i1), .second, .val (.long i2), .second, .val (.long i3), .second, .val (.int i4), .val (.long z6), .second, .val (.long z3), .second, .val (.ref b7), .unset, .unset, .unset] [(.long z3), (.long z6), (.ref b19), (.ref b19)]))
      obtain ⟨_, _, ⟨T26, L26, k26, n26⟩, -, X26, ⟨Lc26, hQ26, l26, y26, z26⟩, st26⟩ := X19.specialBack hx (y := (⟨"com/example/rendezvous/rendezvous/server/LogPosition", "<init>", "(JJ)V"⟩ : MethodName)) rfl hown (mvT hZ (hw _ (List.mem_of_getElem? (i := 3) rfl))) (mvT hZ (hw _ (List.mem_of_getElem? (i := 4) rfl))) (mvT hZ (hw _ (List.mem_of_getElem? (i := 5) rfl))) (by decide) (backOf (W := 1) (rm1 l Z a0 hw [] b19 z6 z3 (0 : Int64) (0 : Int64) h19 n0 Z23 F24 F25 A19 ge_b19) hZ (hw _ (List.mem_of_getElem? (i := 5) rfl)) (hw _ (List.mem_of_getElem? (i := 2) rfl)) (by decide) (by decide)) (g := (mkF m 47 #[.val (.long i0), .second, .val (.long i1), .second, .val (.long i2), .second, .val (.long i3), .second, .val (.int i4), .val (.long z6), .second, .val (.long z3), .second, .val (.ref b7), .unset, .unset, .unset] [(.long z3), (.long z6), (.ref b19), (.ref b19)])) rfl (by rw [hml]; rfl) (Steps.refl _) (a := b19) (argsL := [(.long z6), (.long z3)]) (rest := [(.ref b19)]) (lenOf pd_1 rfl) rfl (by show 2 * 0 + _ ≤ _; exact Nat.le_of_eq rfl) (hb hby at_47) (fun _ _ => ⟨rfl, e19, (by decide : 2 + 0 ≤ _), (by decide : 4 + 0 ≤ _)⟩)
      dsimp only [Pt.U, Pt.locs, Pt.cells, Pt.slots] at X26 l26 y26 z26 st26 hQ26
      subst l26 y26 z26
      obtain ⟨rfl, N26q, K26q, E27, F28, F29⟩ := hQ26
      have N26 := Fr.app N11 N26q
      have E30 := E20.keep K26q
      have F31 := F21.keep K26q (ninS ne_b7_b19 nin0)
      have F32 := F22.keep K26q (ninS ne_b7_b19 nin0)
      have Z34 := Nat.le_trans Z23 K26q.1
      refine own_st (fun _ k => st26.trans k) ?_
      show own_G p.tables e below _ (T26.setTop (mkF m 50 #[.val (.long i0), .second, .val (.long i1), .second, .val (.long i2), .second, .val (.long i3), .second, .val (.int i4), .val (.long z6), .second, .val (.long z3), .second, .val (.ref b7), .unset, .unset, .unset] [(.ref b19)]))
      refine own_st (fun _ k => XS.astore X26.here hx rfl (hb hby at_50) rfl rfl (l' := #[.val (.long i0), .second, .val (.long i1), .second, .val (.long i2), .second, .val (.long i3), .second, .val (.int i4), .val (.long z6), .second, .val (.long z3), .second, .val (.ref b7), .val (.ref b19), .unset, .unset]) rfl k) ?_
      show own_G p.tables e below _ (T26.setTop (mkF m 52 #[.val (.long i0), .second, .val (.long i1), .second, .val (.long i2), .second, .val (.long i3), .second, .val (.int i4), .val (.long z6), .second, .val (.long z3), .second, .val (.ref b7), .val (.ref b19), .unset, .unset] []))
      refine own_st (fun _ k => XS.aload X26.here hx rfl (hb hby at_52) rfl rfl k) ?_
      show own_G p.tables e below _ (T26.setTop (mkF m 54 #[.val (.long i0), .second, .val (.long i1), .second, .val (.long i2), .second, .val (.long i3), .second, .val (.int i4), .val (.long z6), .second, .val (.long z3), .second, .val (.ref b7), .val (.ref b19), .unset, .unset] [(.ref b7)]))
      refine own_st (fun _ k => XS.aload X26.here hx rfl (hb hby at_54) rfl rfl k) ?_
      show own_G p.tables e below _ (T26.setTop (mkF m 56 #[.val (.long i0), .second, .val (.long i1), .second, .val (.long i2), .second, .val (.long i3), .second, .val (.int i4), .val (.long z6), .second, .val (.long z3), .second, .val (.ref b7), .val (.ref b19), .unset, .unset] [(.ref b19), (.ref b7)]))
      obtain ⟨cq37, kq37, q37a, q37b, q37c⟩ := isOf hZ rfl E30
      obtain ⟨_, _, ⟨T37, L37, k37, n37⟩, -, X37, ⟨Lc37, hQ37, l37, y37, z37⟩, st37⟩ := X26.virtualBack hx (y := (⟨"com/example/rendezvous/rendezvous/server/LogPosition", "atLeast", "(Lcom/example/rendezvous/rendezvous/server/LogPosition;)Z"⟩ : MethodName)) (z := (⟨"com/example/rendezvous/rendezvous/server/LogPosition", "atLeast", "(Lcom/example/rendezvous/rendezvous/server/LogPosition;)Z"⟩ : MethodName)) hown (mvT hZ (hw _ (List.mem_of_getElem? (i := 18) rfl))) (mvT hZ (hw _ (List.mem_of_getElem? (i := 19) rfl))) (notFace_of_selects (args := #[]) (mvT hZ (hw _ (List.mem_of_getElem? (i := 21) rfl)))) (mvT hZ (hw _ (List.mem_of_getElem? (i := 21) rfl))) (mvT hZ (hw _ (List.mem_of_getElem? (i := 20) rfl))) (by decide) (backOf (W := 0) (rm4 l Z a0 hw [] b7 b19 i0 i1 z6 z3 T26.heap n0 Z34 F31 F32 E30 F28 F29 E27) hZ (hw _ (List.mem_of_getElem? (i := 22) rfl)) (hw _ (List.mem_of_getElem? (i := 2) rfl)) (by decide) (by decide)) q37a q37c (g := (mkF m 56 #[.val (.long i0), .second, .val (.long i1), .second, .val (.long i2), .second, .val (.long i3), .second, .val (.int i4), .val (.long z6), .second, .val (.long z3), .second, .val (.ref b7), .val (.ref b19), .unset, .unset] [(.ref b19), (.ref b7)])) rfl (by rw [hml]; rfl) (Steps.refl _) (argsL := [(.ref b19)]) (rest := []) (lenOf pd_2 rfl) rfl (by show 2 * 0 + _ ≤ _; exact Nat.le_of_eq rfl) (hb hby at_56) (fun _ _ => ⟨rfl, rfl, (by decide : 2 + 0 ≤ _), (by decide : 4 + 0 ≤ _)⟩)
      dsimp only [Pt.U, Pt.locs, Pt.cells, Pt.slots] at X37 l37 y37 z37 st37 hQ37
      subst l37 y37 z37
      obtain ⟨⟨r37, rfl, hr37⟩, N37q, e37⟩ := hQ37
      have N37 := Fr.app N26 N37q
      refine own_st (fun _ k => st37.trans k) ?_
      show own_G p.tables e below _ (T37.setTop (mkF m 59 #[.val (.long i0), .second, .val (.long i1), .second, .val (.long i2), .second, .val (.long i3), .second, .val (.int i4), .val (.long z6), .second, .val (.long z3), .second, .val (.ref b7), .val (.ref b19), .unset, .unset] [(.int r37)]))
      refine own_st (fun _ k => XS.istore X37.here hx rfl (hb hby at_59) rfl (l' := #[.val (.long i0), .second, .val (.long i1), .second, .val (.long i2), .second, .val (.long i3), .second, .val (.int i4), .val (.long z6), .second, .val (.long z3), .second, .val (.ref b7), .val (.ref b19), .val (.int r37), .unset]) rfl k) ?_
      show own_G p.tables e below _ (T37.setTop (mkF m 61 #[.val (.long i0), .second, .val (.long i1), .second, .val (.long i2), .second, .val (.long i3), .second, .val (.int i4), .val (.long z6), .second, .val (.long z3), .second, .val (.ref b7), .val (.ref b19), .val (.int r37), .unset] []))
      refine own_st (fun _ k => XS.aload X37.here hx rfl (hb hby at_61) rfl rfl k) ?_
      show own_G p.tables e below _ (T37.setTop (mkF m 63 #[.val (.long i0), .second, .val (.long i1), .second, .val (.long i2), .second, .val (.long i3), .second, .val (.int i4), .val (.long z6), .second, .val (.long z3), .second, .val (.ref b7), .val (.ref b19), .val (.int r37), .unset] [(.ref b19)]))
      refine own_st (fun _ k => XS.aload X37.here hx rfl (hb hby at_63) rfl rfl k) ?_
      show own_G p.tables e below _ (T37.setTop (mkF m 65 #[.val (.long i0), .second, .val (.long i1), .second, .val (.long i2), .second, .val (.long i3), .second, .val (.int i4), .val (.long z6), .second, .val (.long z3), .second, .val (.ref b7), .val (.ref b19), .val (.int r37), .unset] [(.ref b7), (.ref b19)]))
      obtain ⟨cq38, kq38, q38a, q38b, q38c⟩ := isOf hZ e37 E27
      obtain ⟨_, _, ⟨T38, L38, k38, n38⟩, -, X38, ⟨Lc38, hQ38, l38, y38, z38⟩, st38⟩ := X37.virtualBack hx (y := (⟨"com/example/rendezvous/rendezvous/server/LogPosition", "atLeast", "(Lcom/example/rendezvous/rendezvous/server/LogPosition;)Z"⟩ : MethodName)) (z := (⟨"com/example/rendezvous/rendezvous/server/LogPosition", "atLeast", "(Lcom/example/rendezvous/rendezvous/server/LogPosition;)Z"⟩ : MethodName)) hown (mvT hZ (hw _ (List.mem_of_getElem? (i := 18) rfl))) (mvT hZ (hw _ (List.mem_of_getElem? (i := 19) rfl))) (notFace_of_selects (args := #[]) (mvT hZ (hw _ (List.mem_of_getElem? (i := 21) rfl)))) (mvT hZ (hw _ (List.mem_of_getElem? (i := 21) rfl))) (mvT hZ (hw _ (List.mem_of_getElem? (i := 20) rfl))) (by decide) (backOf (W := 0) (rm4 l Z a0 hw [] b19 b7 z6 z3 i0 i1 T26.heap n0 Z34 F28 F29 E27 F31 F32 E30) hZ (hw _ (List.mem_of_getElem? (i := 22) rfl)) (hw _ (List.mem_of_getElem? (i := 2) rfl)) (by decide) (by decide)) q38a q38c (g := (mkF m 65 #[.val (.long i0), .second, .val (.long i1), .second, .val (.long i2), .second, .val (.long i3), .second, .val (.int i4), .val (.long z6), .second, .val (.long z3), .second, .val (.ref b7), .val (.ref b19), .val (.int r37), .unset] [(.ref b7), (.ref b19)])) rfl (by rw [hml]; rfl) (Steps.refl _) (argsL := [(.ref b7)]) (rest := []) (lenOf pd_2 rfl) rfl (by show 2 * 0 + _ ≤ _; exact Nat.le_of_eq rfl) (hb hby at_65) (fun _ _ => ⟨rfl, e37, (by decide : 2 + 0 ≤ _), (by decide : 4 + 0 ≤ _)⟩)
      dsimp only [Pt.U, Pt.locs, Pt.cells, Pt.slots] at X38 l38 y38 z38 st38 hQ38
      subst l38 y38 z38
      obtain ⟨⟨r38, rfl, hr38⟩, N38q, e38⟩ := hQ38
      have N38 := Fr.app N37 N38q
      refine own_st (fun _ k => st38.trans k) ?_
      show own_G p.tables e below _ (T38.setTop (mkF m 68 #[.val (.long i0), .second, .val (.long i1), .second, .val (.long i2), .second, .val (.long i3), .second, .val (.int i4), .val (.long z6), .second, .val (.long z3), .second, .val (.ref b7), .val (.ref b19), .val (.int r37), .unset] [(.int r38)]))
      refine own_st (fun _ k => XS.istore X38.here hx rfl (hb hby at_68) rfl (l' := #[.val (.long i0), .second, .val (.long i1), .second, .val (.long i2), .second, .val (.long i3), .second, .val (.int i4), .val (.long z6), .second, .val (.long z3), .second, .val (.ref b7), .val (.ref b19), .val (.int r37), .val (.int r38)]) rfl k) ?_
      show own_G p.tables e below _ (T38.setTop (mkF m 70 #[.val (.long i0), .second, .val (.long i1), .second, .val (.long i2), .second, .val (.long i3), .second, .val (.int i4), .val (.long z6), .second, .val (.long z3), .second, .val (.ref b7), .val (.ref b19), .val (.int r37), .val (.int r38)] []))
      refine own_st (fun _ k => XS.iload X38.here hx rfl (hb hby at_70) rfl k) ?_
      show own_G p.tables e below _ (T38.setTop (mkF m 72 #[.val (.long i0), .second, .val (.long i1), .second, .val (.long i2), .second, .val (.long i3), .second, .val (.int i4), .val (.long z6), .second, .val (.long z3), .second, .val (.ref b7), .val (.ref b19), .val (.int r37), .val (.int r38)] [(.int r37)]))
      refine own_st (fun _ k => XS.lloadN X38.here hx rfl (hb hby at_72) rfl k) ?_
      show own_G p.tables e below _ (T38.setTop (mkF m 73 #[.val (.long i0), .second, .val (.long i1), .second, .val (.long i2), .second, .val (.long i3), .second, .val (.int i4), .val (.long z6), .second, .val (.long z3), .second, .val (.ref b7), .val (.ref b19), .val (.int r37), .val (.int r38)] [(.long i0), (.int r37)]))
      refine own_st (fun _ k => XS.lloadN X38.here hx rfl (hb hby at_73) rfl k) ?_
      show own_G p.tables e below _ (T38.setTop (mkF m 74 #[.val (.long i0), .second, .val (.long i1), .second, .val (.long i2), .second, .val (.long i3), .second, .val (.int i4), .val (.long z6), .second, .val (.long z3), .second, .val (.ref b7), .val (.ref b19), .val (.int r37), .val (.int r38)] [(.long i1), (.long i0), (.int r37)]))
      refine own_st (fun _ k => XS.lload X38.here hx rfl (hb hby at_74) rfl k) ?_
      show own_G p.tables e below _ (T38.setTop (mkF m 76 #[.val (.long i0), .second, .val (.long i1), .second, .val (.long i2), .second, .val (.long i3), .second, .val (.int i4), .val (.long z6), .second, .val (.long z3), .second, .val (.ref b7), .val (.ref b19), .val (.int r37), .val (.int r38)] [(.long z6), (.long i1), (.long i0), (.int r37)]))
      refine own_st (fun _ k => XS.lload X38.here hx rfl (hb hby at_76) rfl k) ?_
      show own_G p.tables e below _ (T38.setTop (mkF m 78 #[.val (.long i0), .second, .val (.long i1), .second, .val (.long i2), .second, .val (.long i3), .second, .val (.int i4), .val (.long z6), .second, .val (.long z3), .second, .val (.ref b7), .val (.ref b19), .val (.int r37), .val (.int r38)] [(.long z3), (.long z6), (.long i1), (.long i0), (.int r37)]))
      obtain ⟨_, _, ⟨T39, L39, k39, n39⟩, -, X39, ⟨Lc39, hQ39, l39, y39, z39⟩, st39⟩ := Jvm.LawKit.callS X38 hx (y := (⟨"com/example/rendezvous/rendezvous/server/LogPositionAtLeastPinLaw", "expected", "(JJJJ)Z"⟩ : MethodName)) hown (mvT hZ (hw _ (List.mem_of_getElem? (i := 23) rfl))) (mvT hZ (hw _ (List.mem_of_getElem? (i := 24) rfl))) (mvT hZ (hw _ (List.mem_of_getElem? (i := 25) rfl))) (mvT hZ (hw _ (List.mem_of_getElem? (i := 26) rfl))) (by decide) (backOf (W := 1) (rm5 l Z a0 hw [] i0 i1 z6 z3 T26.heap n0 Z34 ) hZ (hw _ (List.mem_of_getElem? (i := 26) rfl)) (hw _ (List.mem_of_getElem? (i := 25) rfl)) (by decide) (by decide)) (g := (mkF m 78 #[.val (.long i0), .second, .val (.long i1), .second, .val (.long i2), .second, .val (.long i3), .second, .val (.int i4), .val (.long z6), .second, .val (.long z3), .second, .val (.ref b7), .val (.ref b19), .val (.int r37), .val (.int r38)] [(.long z3), (.long z6), (.long i1), (.long i0), (.int r37)])) rfl (by rw [hml]; rfl) (argsL := [(.long i0), (.long i1), (.long z6), (.long z3)]) (rest := [(.int r37)]) (lenOf pd_3 rfl) rfl (by show 2 * 0 + _ ≤ _; exact Nat.le_of_eq rfl) (hb hby at_78) (fun _ _ => ⟨rfl, e38, (by decide : 2 + 0 ≤ _), (by decide : 4 + 0 ≤ _)⟩)
      dsimp only [Pt.U, Pt.locs, Pt.cells, Pt.slots] at X39 l39 y39 z39 st39 hQ39
      subst l39 y39 z39
      obtain ⟨⟨r39, rfl, hr39⟩, N39q, e39⟩ := hQ39
      have N39 := Fr.app N38 N39q
      refine own_st st39 ?_
      show own_G p.tables e below _ (T39.setTop (mkF m 81 #[.val (.long i0), .second, .val (.long i1), .second, .val (.long i2), .second, .val (.long i3), .second, .val (.int i4), .val (.long z6), .second, .val (.long z3), .second, .val (.ref b7), .val (.ref b19), .val (.int r37), .val (.int r38)] [(.int r39), (.int r37)]))
      have hf40 : r37 = r39 := (hr37.trans ((own_bc (own_iff _ _ _ _)).trans hr39.symm))
      refine own_st (fun _ k => XS.icmpNo X39.here hx rfl (hb hby at_81) rfl (teq hf40).2 k) ?_
      show own_G p.tables e below _ (T39.setTop (mkF m 84 #[.val (.long i0), .second, .val (.long i1), .second, .val (.long i2), .second, .val (.long i3), .second, .val (.int i4), .val (.long z6), .second, .val (.long z3), .second, .val (.ref b7), .val (.ref b19), .val (.int r37), .val (.int r38)] []))
      refine own_st (fun _ k => XS.iload X39.here hx rfl (hb hby at_84) rfl k) ?_
      show own_G p.tables e below _ (T39.setTop (mkF m 86 #[.val (.long i0), .second, .val (.long i1), .second, .val (.long i2), .second, .val (.long i3), .second, .val (.int i4), .val (.long z6), .second, .val (.long z3), .second, .val (.ref b7), .val (.ref b19), .val (.int r37), .val (.int r38)] [(.int r38)]))
      refine own_st (fun _ k => XS.lload X39.here hx rfl (hb hby at_86) rfl k) ?_
      show own_G p.tables e below _ (T39.setTop (mkF m 88 #[.val (.long i0), .second, .val (.long i1), .second, .val (.long i2), .second, .val (.long i3), .second, .val (.int i4), .val (.long z6), .second, .val (.long z3), .second, .val (.ref b7), .val (.ref b19), .val (.int r37), .val (.int r38)] [(.long z6), (.int r38)]))
      refine own_st (fun _ k => XS.lload X39.here hx rfl (hb hby at_88) rfl k) ?_
      show own_G p.tables e below _ (T39.setTop (mkF m 90 #[.val (.long i0), .second, .val (.long i1), .second, .val (.long i2), .second, .val (.long i3), .second, .val (.int i4), .val (.long z6), .second, .val (.long z3), .second, .val (.ref b7), .val (.ref b19), .val (.int r37), .val (.int r38)] [(.long z3), (.long z6), (.int r38)]))
      refine own_st (fun _ k => XS.lloadN X39.here hx rfl (hb hby at_90) rfl k) ?_
      show own_G p.tables e below _ (T39.setTop (mkF m 91 #[.val (.long i0), .second, .val (.long i1), .second, .val (.long i2), .second, .val (.long i3), .second, .val (.int i4), .val (.long z6), .second, .val (.long z3), .second, .val (.ref b7), .val (.ref b19), .val (.int r37), .val (.int r38)] [(.long i0), (.long z3), (.long z6), (.int r38)]))
      refine own_st (fun _ k => XS.lloadN X39.here hx rfl (hb hby at_91) rfl k) ?_
      show own_G p.tables e below _ (T39.setTop (mkF m 92 #[.val (.long i0), .second, .val (.long i1), .second, .val (.long i2), .second, .val (.long i3), .second, .val (.int i4), .val (.long z6), .second, .val (.long z3), .second, .val (.ref b7), .val (.ref b19), .val (.int r37), .val (.int r38)] [(.long i1), (.long i0), (.long z3), (.long z6), (.int r38)]))
      obtain ⟨_, _, ⟨T41, L41, k41, n41⟩, -, X41, ⟨Lc41, hQ41, l41, y41, z41⟩, st41⟩ := Jvm.LawKit.callS X39 hx (y := (⟨"com/example/rendezvous/rendezvous/server/LogPositionAtLeastPinLaw", "expected", "(JJJJ)Z"⟩ : MethodName)) hown (mvT hZ (hw _ (List.mem_of_getElem? (i := 23) rfl))) (mvT hZ (hw _ (List.mem_of_getElem? (i := 24) rfl))) (mvT hZ (hw _ (List.mem_of_getElem? (i := 25) rfl))) (mvT hZ (hw _ (List.mem_of_getElem? (i := 26) rfl))) (by decide) (backOf (W := 1) (rm5 l Z a0 hw [] z6 z3 i0 i1 T26.heap n0 Z34 ) hZ (hw _ (List.mem_of_getElem? (i := 26) rfl)) (hw _ (List.mem_of_getElem? (i := 25) rfl)) (by decide) (by decide)) (g := (mkF m 92 #[.val (.long i0), .second, .val (.long i1), .second, .val (.long i2), .second, .val (.long i3), .second, .val (.int i4), .val (.long z6), .second, .val (.long z3), .second, .val (.ref b7), .val (.ref b19), .val (.int r37), .val (.int r38)] [(.long i1), (.long i0), (.long z3), (.long z6), (.int r38)])) rfl (by rw [hml]; rfl) (argsL := [(.long z6), (.long z3), (.long i0), (.long i1)]) (rest := [(.int r38)]) (lenOf pd_3 rfl) rfl (by show 2 * 0 + _ ≤ _; exact Nat.le_of_eq rfl) (hb hby at_92) (fun _ _ => ⟨rfl, e39, (by decide : 2 + 0 ≤ _), (by decide : 4 + 0 ≤ _)⟩)
      dsimp only [Pt.U, Pt.locs, Pt.cells, Pt.slots] at X41 l41 y41 z41 st41 hQ41
      subst l41 y41 z41
      obtain ⟨⟨r41, rfl, hr41⟩, N41q, e41⟩ := hQ41
      have N41 := Fr.app N39 N41q
      refine own_st st41 ?_
      show own_G p.tables e below _ (T41.setTop (mkF m 95 #[.val (.long i0), .second, .val (.long i1), .second, .val (.long i2), .second, .val (.long i3), .second, .val (.int i4), .val (.long z6), .second, .val (.long z3), .second, .val (.ref b7), .val (.ref b19), .val (.int r37), .val (.int r38)] [(.int r41), (.int r38)]))
      have hf42 : r38 = r41 := (hr38.trans ((own_bc (own_iff _ _ _ _)).trans hr41.symm))
      refine own_st (fun _ k => XS.icmpNo X41.here hx rfl (hb hby at_95) rfl (teq hf42).2 k) ?_
      show own_G p.tables e below _ (T41.setTop (mkF m 98 #[.val (.long i0), .second, .val (.long i1), .second, .val (.long i2), .second, .val (.long i3), .second, .val (.int i4), .val (.long z6), .second, .val (.long z3), .second, .val (.ref b7), .val (.ref b19), .val (.int r37), .val (.int r38)] []))
      refine own_st (fun _ k => XS.iconst X41.here hx rfl (hb hby at_98) k) ?_
      show own_G p.tables e below _ (T41.setTop (mkF m 99 #[.val (.long i0), .second, .val (.long i1), .second, .val (.long i2), .second, .val (.long i3), .second, .val (.int i4), .val (.long z6), .second, .val (.long z3), .second, .val (.ref b7), .val (.ref b19), .val (.int r37), .val (.int r38)] [(.int (1 : Int32))]))
      refine own_st (fun _ k => XS.goto X41.here hx rfl (pc0 := 99) (pc' := 103) rfl (hb hby at_99) (by decide) (by decide) k) ?_
      show own_G p.tables e below _ (T41.setTop (mkF m 103 #[.val (.long i0), .second, .val (.long i1), .second, .val (.long i2), .second, .val (.long i3), .second, .val (.int i4), .val (.long z6), .second, .val (.long z3), .second, .val (.ref b7), .val (.ref b19), .val (.int r37), .val (.int r38)] [(.int (1 : Int32))]))
      exact own_retZ X41 hx hlk Bd.returns (hb hby at_103) (by decide) ⟨rfl, N41⟩ (by decide) (by decide)
    by_cases hc22_4 : (i4 &&& (2 : Int32)) = (0 : Int32)
    · refine own_st (fun _ k => XS.ifYes X0.here hx rfl (pc0 := 22) (pc' := 28) rfl (hb hby at_22) rfl ((if0 _ _).trans (teq hc22_4).1) (by decide) (by decide) k) ?_
      show own_G p.tables e below _ (s₁.setTop (mkF m 28 #[.val (.long i0), .second, .val (.long i1), .second, .val (.long i2), .second, .val (.long i3), .second, .val (.int i4), .val (.long i2), .second, .val (.long z3), .second, .unset, .unset, .unset, .unset] []))
      exact J28_5 i2 ((if_pos hc22_4).symm)
    · refine own_st (fun _ k => XS.ifNo X0.here hx rfl (hb hby at_22) rfl ((if0 _ _).trans (feq hc22_4).1) k) ?_
      show own_G p.tables e below _ (s₁.setTop (mkF m 25 #[.val (.long i0), .second, .val (.long i1), .second, .val (.long i2), .second, .val (.long i3), .second, .val (.int i4), .val (.long i2), .second, .val (.long z3), .second, .unset, .unset, .unset, .unset] []))
      refine own_st (fun _ k => XS.lloadN X0.here hx rfl (hb hby at_25) rfl k) ?_
      show own_G p.tables e below _ (s₁.setTop (mkF m 26 #[.val (.long i0), .second, .val (.long i1), .second, .val (.long i2), .second, .val (.long i3), .second, .val (.int i4), .val (.long i2), .second, .val (.long z3), .second, .unset, .unset, .unset, .unset] [(.long i0)]))
      refine own_st (fun _ k => XS.lstore X0.here hx rfl (hb hby at_26) rfl (l' := #[.val (.long i0), .second, .val (.long i1), .second, .val (.long i2), .second, .val (.long i3), .second, .val (.int i4), .val (.long i0), .second, .val (.long z3), .second, .unset, .unset, .unset, .unset]) rfl k) ?_
      show own_G p.tables e below _ (s₁.setTop (mkF m 28 #[.val (.long i0), .second, .val (.long i1), .second, .val (.long i2), .second, .val (.long i3), .second, .val (.int i4), .val (.long i0), .second, .val (.long z3), .second, .unset, .unset, .unset, .unset] []))
      exact J28_5 i0 ((if_neg hc22_4).symm)
  by_cases hc12_1 : (i4 &&& (1 : Int32)) = (0 : Int32)
  · refine own_st (fun _ k => XS.ifYes X0.here hx rfl (pc0 := 12) (pc' := 18) rfl (hb hby at_12) rfl ((if0 _ _).trans (teq hc12_1).1) (by decide) (by decide) k) ?_
    show own_G p.tables e below _ (s₁.setTop (mkF m 18 #[.val (.long i0), .second, .val (.long i1), .second, .val (.long i2), .second, .val (.long i3), .second, .val (.int i4), .val (.long i2), .second, .val (.long i3), .second, .unset, .unset, .unset, .unset] []))
    exact J18_2 i3 ((if_pos hc12_1).symm)
  · refine own_st (fun _ k => XS.ifNo X0.here hx rfl (hb hby at_12) rfl ((if0 _ _).trans (feq hc12_1).1) k) ?_
    show own_G p.tables e below _ (s₁.setTop (mkF m 15 #[.val (.long i0), .second, .val (.long i1), .second, .val (.long i2), .second, .val (.long i3), .second, .val (.int i4), .val (.long i2), .second, .val (.long i3), .second, .unset, .unset, .unset, .unset] []))
    refine own_st (fun _ k => XS.lloadN X0.here hx rfl (hb hby at_15) rfl k) ?_
    show own_G p.tables e below _ (s₁.setTop (mkF m 16 #[.val (.long i0), .second, .val (.long i1), .second, .val (.long i2), .second, .val (.long i3), .second, .val (.int i4), .val (.long i2), .second, .val (.long i3), .second, .unset, .unset, .unset, .unset] [(.long i1)]))
    refine own_st (fun _ k => XS.lstore X0.here hx rfl (hb hby at_16) rfl (l' := #[.val (.long i0), .second, .val (.long i1), .second, .val (.long i2), .second, .val (.long i3), .second, .val (.int i4), .val (.long i2), .second, .val (.long i1), .second, .unset, .unset, .unset, .unset]) rfl k) ?_
    show own_G p.tables e below _ (s₁.setTop (mkF m 18 #[.val (.long i0), .second, .val (.long i1), .second, .val (.long i2), .second, .val (.long i3), .second, .val (.int i4), .val (.long i2), .second, .val (.long i1), .second, .unset, .unset, .unset, .unset] []))
    exact J18_2 i1 ((if_neg hc12_1).symm)
set_option maxRecDepth 65536 in
set_option maxHeartbeats 40000000 in
theorem comes_1 {Post : Tables → Env → Array Value → State → Outcome → State → Prop} (hpost : ∀ tb e args s v u, (limb_1_1.after args s (.returned v) u = true ∧ limb_1_2.after args s (.returned v) u = true ∧ True) → FrameEnd s (.returned v) u (Jvm.fieldLocs frame_1_writes args s ++ Jvm.arrayLocs frame_1_arrays args s ++ Jvm.staticLocs frame_1_statics s) 16 128 → Post tb e args s (.returned v) u) :
    ArmFor flags0 classFile x code maxLocals ret World_1 tables_1 room_1 Calls_1 rest_1 Pre_1 Post := by
  intro l hfl _ _ p e ha hc hk s m args below hf hA hF happ hP
  obtain ⟨hcalls, hrest, hpre⟩ := hP
  obtain ⟨-, -, -, hnamed, -, -, -, hat⟩ := (Spec.applies_iff hf).mp happ
  obtain ⟨hg, hn⟩ := and_e (Cond.before_iff.mp (show (Jvm.Cond.and given_1 narrow_1).before args s = true from hpre))
  obtain ⟨gc, g0⟩ := and_e hg
  obtain ⟨ga0, g1⟩ := and_e g0
  obtain ⟨ga1, g2⟩ := and_e g1
  obtain ⟨ga2, g3⟩ := and_e g2
  obtain ⟨ga3, g4⟩ := and_e g3
  obtain ⟨w0, w1, w2, w3, w4, rfl⟩ : ∃ w0 w1 w2 w3 w4 : Value, args = #[w0, w1, w2, w3, w4] := by
    have hs : args.size = 5 := by simpa [Cond.value, given_1] using gc
    obtain ⟨L⟩ := args
    match L, hs with
    | [w0, w1, w2, w3, w4], _ => exact ⟨w0, w1, w2, w3, w4, rfl⟩
  have hw := fun d (hd : d ∈ tables_1) => atoms_spec (ws := Jvm.Cond.code x code maxLocals ret :: tables_1) hat d (List.mem_cons_of_mem _ hd)
  have hfit : Fit s := fun {y c} hc i hi => by
    obtain ⟨ha, rfl⟩ := Array.getElem?_eq_some_iff.mp hc
    have q := List.all_eq_true.mp ((Array.all_eq_true_iff_forall_mem.mp hF) _ (Array.getElem_mem ha)) i (List.mem_range.mpr hi)
    simpa [Array.getElem?_eq_getElem hi] using q
  obtain ⟨i0, ei0⟩ := isL_v ga0
  obtain rfl : w0 = (.long i0) := Option.some.inj ei0
  obtain ⟨i1, ei1⟩ := isL_v ga1
  obtain rfl : w1 = (.long i1) := Option.some.inj ei1
  obtain ⟨i2, ei2⟩ := isL_v ga2
  obtain rfl : w2 = (.long i2) := Option.some.inj ei2
  obtain ⟨i3, ei3⟩ := isL_v ga3
  obtain rfl : w3 = (.long i3) := Option.some.inj ei3
  obtain ⟨i4, ei4⟩ := is_v g4
  obtain rfl : w4 = (.int i4) := Option.some.inj ei4
  obtain ⟨n, o, h1, h2, h3, _, L, rfl, ⟨rfl, N⟩, hq⟩ := rm0 l s _ hw tables_1 i0 i1 i2 i3 i4  s.heap s.heap.size (Nat.le_refl _)   p e ha hc hk s m _ below hf ((Spec.applies_iff_loose hf).mp happ).1 ⟨rfl, State.Warmed39.refl s, rfl⟩ trivial
  refine ⟨n, _, h1, h2, h3, hpost _ _ _ _ _ _ ⟨Cond.after_iff.mpr rfl, Cond.after_iff.mpr (eq_i res_at (Term.int_eval (1)) rfl), trivial⟩ ⟨hq.1, hq.2.1, (hq.2.2.sift fun y hy => Or.inr (N y hy)).mono (by decide) (by decide)⟩⟩
theorem main_1_1 : Claimed_1_1 := comes_1 fun _ _ _ _ _ _ h hF => ⟨h.1, hF⟩
theorem main_1_2 : Claimed_1_2 := comes_1 fun _ _ _ _ _ _ h hF => ⟨h.2.1, hF⟩
end Jvm.Pilot.@@N@@
namespace Jvm.Pilot.@@N@@
open Jvm Jvm.ClassFile Sem Op Lib Jvm.Free Jvm.Stand Jvm.Pilot.@@N@@.Jvm.D
/-! MADE BY PROGRAM (witnessworld.py) out of the Statement's table words and the real class files: 10 classes; the members and pool entries that the words name. The judged class is class 1, her method 1. -/
namespace start1
open Jvm.ClassFile
def u (s : String) : CpInfo := .utf8 (stringToUtf16 s)
/-- a pool by its gaps: so many unusable entries, then the entry; so many at the end -/
def gap : Nat → List CpInfo → List CpInfo
  | 0, r => r
  | n + 1, r => .unusable :: gap n r
def poolList (es : List (Nat × CpInfo)) (last : Nat) : List CpInfo := es.foldr (fun e r => gap e.1 (e.2 :: r)) (gap last [])
def pool (es : List (Nat × CpInfo)) (last : Nat) : Array CpInfo := ⟨poolList es last⟩
def fileOf (pool : Array CpInfo) (this : Nat) (attrs : Array Attribute := #[]) (ms : Array MethodInfo := #[]) (fl : Nat := 33) (sup : Nat := 0) (ifs : Array Nat := #[]) (fds : Array FieldInfo := #[]) : ClassFile where
  minorVersion := 0
  majorVersion := 65
  constantPool := pool
  accessFlags := fl
  thisClass := this
  superClass := sup
  interfaces := ifs
  fields := fds
  methods := ms
  attributes := attrs
def plain (name : String) (sup : Option ClassId) : Class where
  name := name
  kind := .ordinary
  loader := none
  accessFlags := 33
  super := sup
  interfaces := #[]
  cf := none
  fields := #[]
  methods := #[]
  instanceTypes := #[]
  staticTypes := #[]
  resolved := #[]
  callSites := []
  init := .initialized
  statics := none
  mirror := none

def pool0 : Array CpInfo := pool [(5, u "<init>"), (0, u "()V"), (1, .class_ 10), (1, u "java/lang/Object")] 113

def k0c0 : Code := { maxStack := 0, maxLocals := 1, code := object_method_1_code, exceptionTable := #[], attributes := #[] }
def k0m0 : Method := { name := "<init>", desc := "()V", sig := { parameters := [], returnType := none }, accessFlags := 1, code := some k0c0 }
/-- java/lang/Object -/
def k0 : Class := { plain "java/lang/Object" none with
  accessFlags := 33
  interfaces := #[]
  cf := some (fileOf pool0 8 #[] #[{ accessFlags := 1, nameIndex := 5, descriptorIndex := 6, attributes := #[] }] 33 0 #[] #[])
  fields := #[]
  methods := #[k0m0]
  instanceTypes := #[]
  staticTypes := #[]
  resolved := Array.replicate 124 none
  statics := none }

def pool1 : Array CpInfo := pool [(2, .class_ 4), (1, u "java/lang/Object"), (0, u "<init>"), (0, u "()V"), (0, .class_ 8), (0, u "com/example/rendezvous/rendezvous/server/LogPosition"), (0, .methodref 7 10), (0, .nameAndType 5 11), (0, u "(JJ)V"), (0, .methodref 7 13), (0, .nameAndType 14 15), (0, u "atLeast"), (0, u "(Lcom/example/rendezvous/rendezvous/server/LogPosition;)Z"), (0, .methodref 17 18), (0, .class_ 19), (0, .nameAndType 20 21), (0, u "com/example/rendezvous/rendezvous/server/LogPositionAtLeastPinLaw"), (0, u "expected"), (0, u "(JJJJ)Z"), (2, u "law"), (0, u "(JJJJI)Z")] 3

def k1m0 : Method := { name := "<init>", desc := "()V", sig := { parameters := [], returnType := none }, accessFlags := 1, code := none }
def k1c1 : Code := { maxStack := 9, maxLocals := 17, code := code, exceptionTable := #[], attributes := #[] }
def k1m1 : Method := { name := "law", desc := "(JJJJI)Z", sig := { parameters := [.long, .long, .long, .long, .int], returnType := some .boolean }, accessFlags := 9, code := some k1c1 }
def k1c2 : Code := { maxStack := 4, maxLocals := 8, code := method_3_code, exceptionTable := #[], attributes := #[] }
def k1m2 : Method := { name := "expected", desc := "(JJJJ)Z", sig := { parameters := [.long, .long, .long, .long], returnType := some .boolean }, accessFlags := 10, code := some k1c2 }
/-- com/example/rendezvous/rendezvous/server/LogPositionAtLeastPinLaw -/
def k1 : Class := { plain "com/example/rendezvous/rendezvous/server/LogPositionAtLeastPinLaw" (some 0) with
  accessFlags := 49
  interfaces := #[]
  cf := some (fileOf pool1 17 #[] #[{ accessFlags := 1, nameIndex := 5, descriptorIndex := 6, attributes := #[] }, { accessFlags := 9, nameIndex := 24, descriptorIndex := 25, attributes := #[] }, { accessFlags := 10, nameIndex := 20, descriptorIndex := 21, attributes := #[] }] 49 2 #[] #[])
  fields := #[]
  methods := #[k1m0, k1m1, k1m2]
  instanceTypes := #[]
  staticTypes := #[]
  resolved := Array.replicate 29 none
  statics := none }

def pool2 : Array CpInfo := pool [(1, .methodref 2 3), (0, .class_ 4), (0, .nameAndType 5 6), (0, u "java/lang/Object"), (0, u "<init>"), (0, u "()V"), (0, .class_ 8), (0, u "java/lang/Record")] 13

def k2c0 : Code := { maxStack := 1, maxLocals := 1, code := jdk_30_method_1_code, exceptionTable := #[], attributes := #[] }
def k2m0 : Method := { name := "<init>", desc := "()V", sig := { parameters := [], returnType := none }, accessFlags := 4, code := some k2c0 }
/-- java/lang/Record -/
def k2 : Class := { plain "java/lang/Record" (some 0) with
  accessFlags := 1057
  interfaces := #[]
  cf := some (fileOf pool2 7 #[] #[{ accessFlags := 4, nameIndex := 5, descriptorIndex := 6, attributes := #[] }] 1057 2 #[] #[])
  fields := #[]
  methods := #[k2m0]
  instanceTypes := #[]
  staticTypes := #[]
  resolved := Array.replicate 22 none
  statics := none }

def pool3 : Array CpInfo := pool [(1, .methodref 2 3), (0, .class_ 4), (0, .nameAndType 5 6), (0, u "java/lang/Record"), (0, u "<init>"), (0, u "()V"), (0, .fieldref 8 9), (0, .class_ 10), (0, .nameAndType 11 12), (0, u "com/example/rendezvous/rendezvous/server/LogPosition"), (0, u "index"), (0, u "J"), (0, .fieldref 8 14), (0, .nameAndType 15 12), (0, u "term"), (18, u "(JJ)V"), (2, u "UNREACHABLE"), (0, u "Lcom/example/rendezvous/rendezvous/server/LogPosition;"), (2, u "FIRST_ENTRY"), (3, u "atLeast"), (0, u "(Lcom/example/rendezvous/rendezvous/server/LogPosition;)Z")] 27

def k3c0 : Code := { maxStack := 3, maxLocals := 5, code := prog_139_method_1_code, exceptionTable := #[], attributes := #[] }
def k3m0 : Method := { name := "<init>", desc := "(JJ)V", sig := { parameters := [.long, .long], returnType := none }, accessFlags := 0, code := some k3c0 }
def k3c1 : Code := { maxStack := 4, maxLocals := 2, code := prog_139_method_2_code, exceptionTable := #[], attributes := #[] }
def k3m1 : Method := { name := "atLeast", desc := "(Lcom/example/rendezvous/rendezvous/server/LogPosition;)Z", sig := { parameters := [(.object "com/example/rendezvous/rendezvous/server/LogPosition")], returnType := some .boolean }, accessFlags := 0, code := some k3c1 }
/-- com/example/rendezvous/rendezvous/server/LogPosition -/
def k3 : Class := { plain "com/example/rendezvous/rendezvous/server/LogPosition" (some 2) with
  accessFlags := 48
  interfaces := #[]
  cf := some (fileOf pool3 8 #[] #[{ accessFlags := 0, nameIndex := 5, descriptorIndex := 34, attributes := #[] }, { accessFlags := 0, nameIndex := 45, descriptorIndex := 46, attributes := #[] }] 48 2 #[] #[{ accessFlags := 18, nameIndex := 11, descriptorIndex := 12, attributes := #[] }, { accessFlags := 18, nameIndex := 15, descriptorIndex := 12, attributes := #[] }, { accessFlags := 24, nameIndex := 37, descriptorIndex := 38, attributes := #[] }, { accessFlags := 24, nameIndex := 41, descriptorIndex := 38, attributes := #[] }])
  fields := #[{ name := "index", type := .long, accessFlags := 18, slot := 0, constantValue := 0 }, { name := "term", type := .long, accessFlags := 18, slot := 1, constantValue := 0 }, { name := "UNREACHABLE", type := (.object "com/example/rendezvous/rendezvous/server/LogPosition"), accessFlags := 24, slot := 0, constantValue := 0 }, { name := "FIRST_ENTRY", type := (.object "com/example/rendezvous/rendezvous/server/LogPosition"), accessFlags := 24, slot := 1, constantValue := 0 }]
  methods := #[k3m0, k3m1]
  instanceTypes := #[.long, .long]
  staticTypes := #[(.object "com/example/rendezvous/rendezvous/server/LogPosition"), (.object "com/example/rendezvous/rendezvous/server/LogPosition")]
  resolved := Array.replicate 74 none
  statics := none }

def pool4 : Array CpInfo := pool [(1, u "java/lang/Cloneable"), (0, .class_ 1), (0, u "java/lang/Object"), (0, .class_ 3)] 3

/-- java/lang/Cloneable -/
def k4 : Class := { plain "java/lang/Cloneable" (some 0) with
  accessFlags := 1537
  interfaces := #[]
  cf := some (fileOf pool4 2 #[] #[] 1537 4 #[] #[])
  fields := #[]
  methods := #[]
  instanceTypes := #[]
  staticTypes := #[]
  resolved := Array.replicate 8 none
  statics := none }

def pool5 : Array CpInfo := pool [(1, u "java/io/Serializable"), (0, .class_ 1), (0, u "java/lang/Object"), (0, .class_ 3)] 3

/-- java/io/Serializable -/
def k5 : Class := { plain "java/io/Serializable" (some 0) with
  accessFlags := 1537
  interfaces := #[]
  cf := some (fileOf pool5 2 #[] #[] 1537 4 #[] #[])
  fields := #[]
  methods := #[]
  instanceTypes := #[]
  staticTypes := #[]
  resolved := Array.replicate 8 none
  statics := none }

/-- the primitive byte -/
def k6 : Class := { plain "byte" none with kind := .primitive 'B', accessFlags := 0x411 }
/-- [B -/
def k7 : Class := { plain "[B" (some 0) with kind := .array 6 .byte, interfaces := #[4, 5], accessFlags := 1041 }

/-- the primitive int -/
def k8 : Class := { plain "int" none with kind := .primitive 'I', accessFlags := 0x411 }
/-- [I -/
def k9 : Class := { plain "[I" (some 0) with kind := .array 8 .int, interfaces := #[4, 5], accessFlags := 1041 }

def heap : Heap := #[]
def classes : Array Class := #[k0, k1, k2, k3, k4, k5, k6, k7, k8, k9]
def interned : List (Array UInt16 × Addr) := []
def slotsUsed : Nat := 0
def theMethod : MethodId := ⟨1, 1⟩
def args0 : Array Value := #[.long 5, .long 5, .long 5, .long 5, .int 5]
def aboutOver (below : List Frame) : State where
  vm := { classes := classes, interned := interned.toArray }
  heap := heap
  slotsUsed := slotsUsed
  threads := #[{ frames := .invoking theMethod args0 :: below }]
def below0 : List Frame := [.native { method := ⟨0, 0⟩, args := #[] }]
def about1 : State := aboutOver below0
def p0 : Program := .bare "" "" ""
def e0 : Env := launch0.env 0 0 0
theorem w_frames : about1.frames = Frame.invoking theMethod args0 :: below0 := rfl
set_option maxRecDepth 65536 in
theorem w_args : argsFit about1.vm theMethod args0 = true := by decide +kernel
set_option maxRecDepth 65536 in
theorem w_heap : heapFits about1 = true := by decide +kernel
set_option maxRecDepth 65536 in
theorem w_runnable : about1.curStatus? = some .runnable := by decide +kernel
set_option maxRecDepth 65536 in
theorem w_alone : about1.alone = true := by decide +kernel
set_option maxRecDepth 65536 in
theorem w_named : about1.methodNamed? x = some theMethod := by decide +kernel
set_option maxRecDepth 65536 in
theorem w_hears : about1.hears theMethod below0 = true := by decide +kernel
set_option maxRecDepth 65536 in
theorem w_ripe : about1.ripe theMethod args0 below0 = true := by decide +kernel
theorem w_running : about1.status = .running := rfl
set_option maxRecDepth 65536 in
theorem w_room : about1.hasRoom e0.platform room_1 = true :=
  launch0.hasRoom_least _ room_1 (by decide +kernel) (by decide +kernel) (by decide +kernel) (by decide +kernel) (by decide +kernel) (by decide +kernel)
theorem allAtoms_all (ts : List Jvm.Cond) (a : Array Jvm.Value) (st : Jvm.State) : (allAtoms ts).before a st = ts.all (fun c => c.before a st) := by
  induction ts with
  | nil => rfl
  | cons c t ih =>
    show (Jvm.Cond.and c (allAtoms t)).before a st = _
    rw [Jvm.Cond.before_and, ih, List.all_cons]
def words1 : List Jvm.Cond := Jvm.Cond.code x code maxLocals ret :: tables_1
/-- a 'code' word, met by the world's own term for the bytes: nothing is compared byte by byte -/
theorem code_word {y : MethodName} {bytes : ByteArray} {mx : Nat} {rt : Option FieldType} {a : Array Value} {s : State} {m : MethodId} {meth : Method} {c : Code} (h1 : s.methodNamed? y = some m) (h2 : s.vm.method? m = some meth) (h3 : meth.code = some c) (h4 : c.code = bytes)
    (h5 : (c.maxLocals == mx && c.exceptionTable.isEmpty && decide (c.maxStack ≤ mostOperands) && decide (meth.sig.returnType = rt) && !meth.locks && decide (parseMethodDescriptor y.desc = some meth.sig)) = true) : (Jvm.Cond.code y bytes mx rt).before a s = true := by
  simp only [Bool.and_eq_true, beq_iff_eq, Bool.not_eq_true', decide_eq_true_eq] at h5
  obtain ⟨⟨⟨⟨⟨g1, g2⟩, g3⟩, g4⟩, g5⟩, g6⟩ := h5
  simp [Cond.before, Cond.holds, Cond.value, h1, h2, h3, h4, g1, g2, g3, g4, g5, g6]
def isCode : Jvm.Cond → Bool
  | .code _ _ _ _ => true
  | _ => false
theorem all_split {L : List Jvm.Cond} {P : Jvm.Cond → Bool} (h1 : L.all (fun c => isCode c || P c) = true) (h2 : ∀ c ∈ L.filter isCode, P c = true) : L.all P = true := by
  refine List.all_eq_true.mpr fun c hc => ?_
  have h := List.all_eq_true.mp h1 c hc
  rcases Bool.eq_false_or_eq_true (isCode c) with hi | hi
  · exact h2 c (List.mem_filter.mpr ⟨hc, hi⟩)
  · simpa [hi] using h
set_option maxRecDepth 65536 in
theorem w_c0 : (Jvm.Cond.code x code maxLocals ret).before args0 about1 = true := code_word (m := ⟨1, 1⟩) (meth := k1m1) (c := k1c1) (by decide +kernel) rfl rfl rfl (by decide +kernel)
set_option maxRecDepth 65536 in
theorem w_c1 : (Jvm.Cond.code ({ cls := "com/example/rendezvous/rendezvous/server/LogPosition", name := "<init>", desc := "(JJ)V" } : Jvm.MethodName) prog_139_method_1_code (5 : Nat) (Option.none : Option Jvm.ClassFile.FieldType)).before args0 about1 = true := code_word (m := ⟨3, 0⟩) (meth := k3m0) (c := k3c0) (by decide +kernel) rfl rfl rfl (by decide +kernel)
set_option maxRecDepth 65536 in
theorem w_c2 : (Jvm.Cond.code ({ cls := "java/lang/Record", name := "<init>", desc := "()V" } : Jvm.MethodName) jdk_30_method_1_code (1 : Nat) (Option.none : Option Jvm.ClassFile.FieldType)).before args0 about1 = true := code_word (m := ⟨2, 0⟩) (meth := k2m0) (c := k2c0) (by decide +kernel) rfl rfl rfl (by decide +kernel)
set_option maxRecDepth 65536 in
theorem w_c3 : (Jvm.Cond.code ({ cls := "java/lang/Object", name := "<init>", desc := "()V" } : Jvm.MethodName) object_method_1_code (1 : Nat) (Option.none : Option Jvm.ClassFile.FieldType)).before args0 about1 = true := code_word (m := ⟨0, 0⟩) (meth := k0m0) (c := k0c0) (by decide +kernel) rfl rfl rfl (by decide +kernel)
set_option maxRecDepth 65536 in
theorem w_c4 : (Jvm.Cond.code ({ cls := "com/example/rendezvous/rendezvous/server/LogPosition", name := "atLeast", desc := "(Lcom/example/rendezvous/rendezvous/server/LogPosition;)Z" } : Jvm.MethodName) prog_139_method_2_code (2 : Nat) (Option.some Jvm.ClassFile.FieldType.boolean)).before args0 about1 = true := code_word (m := ⟨3, 1⟩) (meth := k3m1) (c := k3c1) (by decide +kernel) rfl rfl rfl (by decide +kernel)
set_option maxRecDepth 65536 in
theorem w_c5 : (Jvm.Cond.code ({ cls := "com/example/rendezvous/rendezvous/server/LogPositionAtLeastPinLaw", name := "expected", desc := "(JJJJ)Z" } : Jvm.MethodName) method_3_code (8 : Nat) (Option.some Jvm.ClassFile.FieldType.boolean)).before args0 about1 = true := code_word (m := ⟨1, 2⟩) (meth := k1m2) (c := k1c2) (by decide +kernel) rfl rfl rfl (by decide +kernel)
def codes1 : List Jvm.Cond := [Jvm.Cond.code x code maxLocals ret, Jvm.Cond.code ({ cls := "com/example/rendezvous/rendezvous/server/LogPosition", name := "<init>", desc := "(JJ)V" } : Jvm.MethodName) prog_139_method_1_code (5 : Nat) (Option.none : Option Jvm.ClassFile.FieldType), Jvm.Cond.code ({ cls := "java/lang/Record", name := "<init>", desc := "()V" } : Jvm.MethodName) jdk_30_method_1_code (1 : Nat) (Option.none : Option Jvm.ClassFile.FieldType), Jvm.Cond.code ({ cls := "java/lang/Object", name := "<init>", desc := "()V" } : Jvm.MethodName) object_method_1_code (1 : Nat) (Option.none : Option Jvm.ClassFile.FieldType), Jvm.Cond.code ({ cls := "com/example/rendezvous/rendezvous/server/LogPosition", name := "atLeast", desc := "(Lcom/example/rendezvous/rendezvous/server/LogPosition;)Z" } : Jvm.MethodName) prog_139_method_2_code (2 : Nat) (Option.some Jvm.ClassFile.FieldType.boolean), Jvm.Cond.code ({ cls := "com/example/rendezvous/rendezvous/server/LogPositionAtLeastPinLaw", name := "expected", desc := "(JJJJ)Z" } : Jvm.MethodName) method_3_code (8 : Nat) (Option.some Jvm.ClassFile.FieldType.boolean)]
set_option maxRecDepth 65536 in
theorem codes_eq : words1.filter isCode = codes1 := rfl
theorem w_codes : ∀ c ∈ words1.filter isCode, c.before args0 about1 = true := by
  rw [codes_eq]
  intro c hc
  simp only [codes1, List.mem_cons, List.not_mem_nil, or_false] at hc
  rcases hc with rfl | rfl | rfl | rfl | rfl | rfl
  · exact w_c0
  · exact w_c1
  · exact w_c2
  · exact w_c3
  · exact w_c4
  · exact w_c5
set_option maxRecDepth 65536 in
theorem w_t1 : (words1.take 24).all (fun c => isCode c || c.before args0 about1) = true := by decide +kernel
set_option maxRecDepth 65536 in
theorem w_t2 : (words1.drop 24).all (fun c => isCode c || c.before args0 about1) = true := by decide +kernel
theorem w_tables : (allAtoms (Jvm.Cond.code x code maxLocals ret :: tables_1)).before args0 about1 = true := by
  rw [allAtoms_all]
  show words1.all (fun c => c.before args0 about1) = true
  refine all_split ?_ w_codes
  rw [← List.take_append_drop 24 words1, List.all_append, w_t1, w_t2]
  rfl
set_option maxRecDepth 65536 in
theorem w_case : (Jvm.Cond.and given_1 narrow_1).before args0 about1 = true := by decide +kernel
theorem w_applies : (headSpec (Jvm.Cond.code x code maxLocals ret :: tables_1) room_1).applies x e0.platform about1 = true :=
  (Spec.applies_iff w_frames).mpr ⟨w_running, w_runnable, w_alone, w_named, w_hears, w_ripe, w_room, w_tables⟩
theorem atStart : AtStart classFile x code maxLocals ret World_1 tables_1 room_1 Calls_1 rest_1 Pre_1 launch0 p0 e0 about1 theMethod args0 below0 :=
  ⟨lists_1, trivial, launch0.admits_env _ _ _, launch0.least_env, fairChoices_fair.cas, fairChoices_fair.clock, w_frames, w_args, w_heap, w_applies, trivial, trivial, w_case⟩
end start1
theorem witness_1 : WitnessClaimed_1 := ⟨start1.p0, start1.e0, start1.about1, start1.theMethod, start1.args0, start1.below0, start1.atStart⟩
end Jvm.Pilot.@@N@@
