import JvmDerived
import JvmDerived.Pilot.@@N@@Statement
import JvmDerived.Pilot.@@N@@Code
set_option linter.unusedVariables false
set_option linter.unusedSimpArgs false
namespace Jvm.RoadKit
open Sem ClassFile Op Lib Jvm.Stand Jvm.Free Jvm.LawKit
section Own
variable {p : Program} {l : Launch} {e : Env} {R : Room} {s : State} {m : MethodId} {args : Array Value} {below : List Frame} {meth : Method} {c : Code} {T : State} {locs : List Loc} {cells slots : Nat}
theorem retI (X : Stand p l e R s m args below meth c T locs cells slots) (hx : p.tables.exec = Jvm.exec) {pc : Nat} {Ls : Array Slot} {z : Int32} {rest : List Value} (hret : meth.sig.returnType = some .int) (hd : decode c.code pc = .ok (.ireturn, 1)) {fs : List Frame}
    (hl : ∀ (f : JFrame) (acts : List Action), f.method = m → f.locked = none → f.entered = [] → (doReturn e (T.setTop f) acts (some (.int z))).1 = T.setFrames fs) : Steps p.tables e below (T.setTop (mkF m pc Ls (.int z :: rest))) (T.setFrames fs) := by
  have hm' : T.vm.method? m = some meth := X.method'
  have hn : narrow .int (.int z) = .int z := rfl
  show Steps p.tables e below (T.setTop { method := m, pc := pc, locals := Ls, stack := _ :: rest, locked := none }) _
  jvm_step X.here [X.here.top, hx, hd, hm', hret, hn]
  first | (intro acts; rw [hl _ acts rfl rfl rfl]) | rw [hl _ _ rfl rfl rfl]
  exact Steps.refl _
/-- the run from st comes to an end of which P holds -/
def own_G (tb : Tables) (e : Env) (below : List Frame) (P : Outcome → State → Prop) (st : State) : Prop :=
  ∃ s₂ o, Steps tb e below st s₂ ∧ s₂.status = .running ∧ Ended s₂ below o ∧ P o s₂
theorem own_st {tb : Tables} {P : Outcome → State → Prop} {st st' : State} (h : ∀ t, Steps tb e below st' t → Steps tb e below st t) (k : own_G tb e below P st') : own_G tb e below P st := by
  obtain ⟨s2, o, h1, h2⟩ := k
  exact ⟨s2, o, h _ h1, h2⟩
def own_P (s : State) (Q : Option Value → Heap → List Loc → Prop) (k n : Nat) (o : Outcome) (U' : State) : Prop :=
  ∃ v L, o = .returned v ∧ Q v U'.heap L ∧ FrameEnd s o U' L k n
theorem own_end {Q : Option Value → Heap → List Loc → Prop} {k n : Nat} {st : State} {v : Option Value} (X : Stand p l e R s m args below meth c T locs cells slots) (hlk : meth.locks = false) (hv : meth.sig.returnType = none → v = none)
    (hst : ∀ fs, (∀ (f : JFrame) (acts : List Action), f.method = m → f.locked = none → f.entered = [] → (doReturn e (T.setTop f) acts v).1 = T.setFrames fs) → Steps p.tables e below st (T.setFrames fs))
    (hQ : Q v T.heap locs) (hk : cells ≤ k) (hn : slots ≤ n) : own_G p.tables e below (own_P s Q k n) st := by
  obtain ⟨fs, hr, hrun, hended, hW, hsame⟩ := X.leave hv hlk
  exact ⟨_, _, hst fs hr, hrun, hended, _, _, rfl, hQ, ⟨_, rfl⟩, hW, hsame.mono hk hn⟩
theorem own_retZ {Q : Option Value → Heap → List Loc → Prop} {k n : Nat} (X : Stand p l e R s m args below meth c T locs cells slots) (hx : p.tables.exec = Jvm.exec) (hlk : meth.locks = false) (hret : meth.sig.returnType = some .boolean) {pc : Nat} {Ls : Array Slot} {z : Int32} {rest : List Value}
    (hd : decode c.code pc = .ok (.ireturn, 1)) (hz : nar .boolean z = z) (hQ : Q (some (.int z)) T.heap locs) (hk : cells ≤ k) (hn : slots ≤ n) : own_G p.tables e below (own_P s Q k n) (T.setTop (mkF m pc Ls (.int z :: rest))) :=
  own_end X hlk (fun h => by rw [hret] at h; cases h) (fun fs hr => retN X hx (t := .boolean) hret (by simp) hd (by rw [hz]; exact hr)) hQ hk hn
theorem own_retI {Q : Option Value → Heap → List Loc → Prop} {k n : Nat} (X : Stand p l e R s m args below meth c T locs cells slots) (hx : p.tables.exec = Jvm.exec) (hlk : meth.locks = false) (hret : meth.sig.returnType = some .int) {pc : Nat} {Ls : Array Slot} {z : Int32} {rest : List Value}
    (hd : decode c.code pc = .ok (.ireturn, 1)) (hQ : Q (some (.int z)) T.heap locs) (hk : cells ≤ k) (hn : slots ≤ n) : own_G p.tables e below (own_P s Q k n) (T.setTop (mkF m pc Ls (.int z :: rest))) :=
  own_end X hlk (fun h => by rw [hret] at h; cases h) (fun fs hr => retI X hx hret hd hr) hQ hk hn
theorem own_retJ {Q : Option Value → Heap → List Loc → Prop} {k n : Nat} (X : Stand p l e R s m args below meth c T locs cells slots) (hx : p.tables.exec = Jvm.exec) (hlk : meth.locks = false) (hret : meth.sig.returnType = some .long) {pc : Nat} {Ls : Array Slot} {z : Int64} {rest : List Value}
    (hd : decode c.code pc = .ok (.lreturn, 1)) (hQ : Q (some (.long z)) T.heap locs) (hk : cells ≤ k) (hn : slots ≤ n) : own_G p.tables e below (own_P s Q k n) (T.setTop (mkF m pc Ls (.long z :: rest))) :=
  own_end X hlk (fun h => by rw [hret] at h; cases h) (fun fs hr => retOut X hx hret rfl (Or.inr (Or.inl ⟨rfl, rfl, _, rfl⟩)) hd hr) hQ hk hn
theorem own_retR {Q : Option Value → Heap → List Loc → Prop} {k n : Nat} {t : FieldType} (X : Stand p l e R s m args below meth c T locs cells slots) (hx : p.tables.exec = Jvm.exec) (hlk : meth.locks = false) (hret : meth.sig.returnType = some t) (ht : t.isReference = true) {pc : Nat} {Ls : Array Slot} {w : Value} {rest : List Value} (hw : w.isRef = true) (hnw : narrow t w = w)
    (hd : decode c.code pc = .ok (.areturn, 1)) (hQ : Q (some w) T.heap locs) (hk : cells ≤ k) (hn : slots ≤ n) : own_G p.tables e below (own_P s Q k n) (T.setTop (mkF m pc Ls (w :: rest))) :=
  own_end X hlk (fun h => by rw [hret] at h; cases h) (fun fs hr => retOut X hx hret hnw (Or.inr (Or.inr (Or.inr (Or.inr ⟨rfl, ht, hw⟩)))) hd hr) hQ hk hn
theorem own_retV {Q : Option Value → Heap → List Loc → Prop} {k n : Nat} (X : Stand p l e R s m args below meth c T locs cells slots) (hx : p.tables.exec = Jvm.exec) (hlk : meth.locks = false) (hret : meth.sig.returnType = none) {pc : Nat} {Ls : Array Slot}
    (hd : decode c.code pc = .ok (.return_, 1)) (hQ : Q none T.heap locs) (hk : cells ≤ k) (hn : slots ≤ n) : own_G p.tables e below (own_P s Q k n) (T.setTop (mkF m pc Ls [])) :=
  own_end X hlk (fun _ => rfl) (fun fs hr => X.returnOut hx hret hd hr) hQ hk hn
theorem own_mono {cells' slots' : Nat} (X : Stand p l e R s m args below meth c T locs cells slots) (h1 : cells ≤ cells') (h2 : slots ≤ slots') : Stand p l e R s m args below meth c T locs cells' slots' :=
  ⟨X.admits, X.cas, X.clock, X.frames, X.room, X.hears, X.method, X.code, X.here, X.tail, X.warmed, X.limits, X.bytes, X.same.mono h1 h2⟩
theorem own_fld {Z : State} {h : Heap} {a : Addr} {C n d : String} {v w : Value} (F : Fld Z h a C n d v) (q : v = w) : Fld Z h a C n d w := q ▸ F
end Own
/-- a boolean as the machine holds it -/
def own_b (P : Prop) [Decidable P] : Int32 := if P then 1 else 0
theorem own_bt {P : Prop} [Decidable P] (h : P) : own_b P = 1 := if_pos h
theorem own_bf {P : Prop} [Decidable P] (h : ¬ P) : own_b P = 0 := if_neg h
theorem own_b1 {P : Prop} [Decidable P] {z : Int32} (hz : z = own_b P) (h : P) : ¬ z = 0 := by rw [hz, own_bt h]; decide
theorem own_b0 {P : Prop} [Decidable P] {z : Int32} (hz : z = own_b P) (h : ¬ P) : z = 0 := by rw [hz, own_bf h]
theorem own_nar {P : Prop} [Decidable P] {z : Int32} (hz : z = own_b P) : nar .boolean z = z := by
  rw [hz]; by_cases h : P
  · rw [own_bt h]; decide
  · rw [own_bf h]; decide
theorem own_fitZ {P : Prop} [Decidable P] {z : Int32} (hz : z = own_b P) : fits .boolean (.int z) = true := by
  rw [hz]; by_cases h : P
  · rw [own_bt h]; decide
  · rw [own_bf h]; decide
theorem own_bc {P Q : Prop} [Decidable P] [Decidable Q] (h : P ↔ Q) : own_b P = own_b Q := by
  by_cases q : Q
  · rw [own_bt q, own_bt (h.mpr q)]
  · rw [own_bf q, own_bf (fun r => q (h.mp r))]
theorem own_bi {P Q : Prop} [Decidable P] [Decidable Q] (h : own_b P = own_b Q) : P ↔ Q := by
  by_cases p : P <;> by_cases q : Q <;> simp_all [own_b]
end Jvm.RoadKit
namespace Jvm.Pilot.@@N@@
open Jvm Jvm.ClassFile Sem Op Lib Jvm.Free Jvm.Stand Jvm.LawKit Jvm.RoadKit Bundle Jvm.Pilot.@@N@@.Jvm.D
theorem pn_0 : plainName "com/example/archivolt/archivolt/FileNamesIsPlainPinLaw" = true := by first | (simp [plainName, overriddenIn]; done) | decide +kernel
theorem d1_0 : decode prog_7_method_6_code 0 = .ok (.iload_n 0, 1) := by decide +kernel
theorem d1_1 : decode prog_7_method_6_code 1 = .ok (.invokestatic 78, 3) := by decide +kernel
theorem d1_4 : decode prog_7_method_6_code 4 = .ok (.ifCond .ne 31, 3) := by decide +kernel
theorem d1_7 : decode prog_7_method_6_code 7 = .ok (.iload_n 0, 1) := by decide +kernel
theorem d1_8 : decode prog_7_method_6_code 8 = .ok (.ldc 82, 2) := by decide +kernel
theorem d1_10 : decode prog_7_method_6_code 10 = .ok (.if_icmp .lt 9, 3) := by decide +kernel
theorem d1_13 : decode prog_7_method_6_code 13 = .ok (.iload_n 0, 1) := by decide +kernel
theorem d1_14 : decode prog_7_method_6_code 14 = .ok (.ldc 83, 2) := by decide +kernel
theorem d1_16 : decode prog_7_method_6_code 16 = .ok (.if_icmp .le 19, 3) := by decide +kernel
theorem d1_19 : decode prog_7_method_6_code 19 = .ok (.iload_n 0, 1) := by decide +kernel
theorem d1_20 : decode prog_7_method_6_code 20 = .ok (.ldc 84, 2) := by decide +kernel
theorem d1_22 : decode prog_7_method_6_code 22 = .ok (.if_icmp .eq 13, 3) := by decide +kernel
theorem d1_25 : decode prog_7_method_6_code 25 = .ok (.iload_n 0, 1) := by decide +kernel
theorem d1_26 : decode prog_7_method_6_code 26 = .ok (.ldc 85, 2) := by decide +kernel
theorem d1_28 : decode prog_7_method_6_code 28 = .ok (.if_icmp .eq 7, 3) := by decide +kernel
theorem d1_31 : decode prog_7_method_6_code 31 = .ok (.iconst 1, 1) := by decide +kernel
theorem d1_32 : decode prog_7_method_6_code 32 = .ok (.goto 4, 3) := by decide +kernel
theorem d1_35 : decode prog_7_method_6_code 35 = .ok (.iconst 0, 1) := by decide +kernel
theorem d1_36 : decode prog_7_method_6_code 36 = .ok (.ireturn, 1) := by decide +kernel
theorem pn_1 : plainName "com/example/archivolt/archivolt/FileNames" = true := by first | (simp [plainName, overriddenIn]; done) | decide +kernel
theorem d2_0 : decode jdk_89_method_89_code 0 = .ok (.iload_n 0, 1) := by decide +kernel
theorem d2_1 : decode jdk_89_method_89_code 1 = .ok (.sipush 159, 3) := by decide +kernel
theorem d2_4 : decode jdk_89_method_89_code 4 = .ok (.if_icmp .gt 19, 3) := by decide +kernel
theorem d2_7 : decode jdk_89_method_89_code 7 = .ok (.iload_n 0, 1) := by decide +kernel
theorem d2_8 : decode jdk_89_method_89_code 8 = .ok (.bipush 127, 2) := by decide +kernel
theorem d2_10 : decode jdk_89_method_89_code 10 = .ok (.if_icmp .ge 9, 3) := by decide +kernel
theorem d2_13 : decode jdk_89_method_89_code 13 = .ok (.iload_n 0, 1) := by decide +kernel
theorem d2_14 : decode jdk_89_method_89_code 14 = .ok (.iconst 5, 1) := by decide +kernel
theorem d2_15 : decode jdk_89_method_89_code 15 = .ok (.iushr, 1) := by decide +kernel
theorem d2_16 : decode jdk_89_method_89_code 16 = .ok (.ifCond .ne 7, 3) := by decide +kernel
theorem d2_19 : decode jdk_89_method_89_code 19 = .ok (.iconst 1, 1) := by decide +kernel
theorem d2_20 : decode jdk_89_method_89_code 20 = .ok (.goto 4, 3) := by decide +kernel
theorem d2_23 : decode jdk_89_method_89_code 23 = .ok (.iconst 0, 1) := by decide +kernel
theorem d2_24 : decode jdk_89_method_89_code 24 = .ok (.ireturn, 1) := by decide +kernel
theorem pn_2 : plainName "java/lang/Character" = true := by first | (simp [plainName, overriddenIn]; done) | decide +kernel
theorem pd_0 : parseMethodDescriptor "(I)Z" = some ⟨[.int], some .boolean⟩ := by decide +kernel
theorem ef_2 (m : MethodId) (x0 : Int32) : entryFrame m #[(.int x0)] 1 = mkF m 0 #[.val (.int x0)] [] := by first | (simp [entryFrame, mkF, argsToLocals, Value.category]; done) | rfl
theorem ef_1 (m : MethodId) (x0 : Int32) : entryFrame m #[(.int x0)] 1 = mkF m 0 #[.val (.int x0)] [] := by first | (simp [entryFrame, mkF, argsToLocals, Value.category]; done) | rfl
theorem ef_0 (m : MethodId) (x0 : Int32) (x1 : Int32) : entryFrame m #[(.int x0), (.int x1)] maxLocals = mkF m 0 #[.val (.int x0), .val (.int x1), .unset, .unset, .unset, .unset, .unset] [] := by first | (simp [entryFrame, mkF, argsToLocals, Value.category, maxLocals]; done) | rfl
theorem own_inb (x : Int32) : ¬ ((x &&& (15 : Int32)) < 0) ∧ (x &&& (15 : Int32)) < (16 : Int32) := by
  have h : (x &&& (15 : Int32)).toInt = x.toInt % 16 := c_mask x 15 4 (by decide) (by decide)
  have c1 : (16 : Int32).toInt = 16 := rfl
  have c0 : (0 : Int32).toInt = 0 := rfl
  rw [Int32.lt_iff_toInt_lt, Int32.lt_iff_toInt_lt, c0, c1, h]; omega
theorem own_elem (n : Nat) : ∃ z, ([(.int (0 : Int32)), (.int (31 : Int32)), (.int (32 : Int32)), (.int (126 : Int32)), (.int (127 : Int32)), (.int (159 : Int32)), (.int (160 : Int32)), (.int (55295 : Int32)), (.int (55296 : Int32)), (.int (57343 : Int32)), (.int (57344 : Int32)), (.int (65533 : Int32)), (.int (65534 : Int32)), (.int (65535 : Int32)), (.int (65536 : Int32)), (.int (1114111 : Int32))] : List Value).getD n (.int (0 : Int32)) = .int z := by
  match n with
  | 0 => exact ⟨_, rfl⟩
  | 1 => exact ⟨_, rfl⟩
  | 2 => exact ⟨_, rfl⟩
  | 3 => exact ⟨_, rfl⟩
  | 4 => exact ⟨_, rfl⟩
  | 5 => exact ⟨_, rfl⟩
  | 6 => exact ⟨_, rfl⟩
  | 7 => exact ⟨_, rfl⟩
  | 8 => exact ⟨_, rfl⟩
  | 9 => exact ⟨_, rfl⟩
  | 10 => exact ⟨_, rfl⟩
  | 11 => exact ⟨_, rfl⟩
  | 12 => exact ⟨_, rfl⟩
  | 13 => exact ⟨_, rfl⟩
  | 14 => exact ⟨_, rfl⟩
  | 15 => exact ⟨_, rfl⟩
  | k + 16 => exact ⟨0, rfl⟩
theorem own_sh (c : Int32) (h : ¬ c < (0 : Int32)) : (((c.toUInt32 >>> ((5 : Int32) &&& 31).toUInt32).toInt32) = (0 : Int32)) ↔ c.toInt < 32 := by
  have h1 := c_iushr c 5 5 (by decide) (by decide); have h2 := rng32 c
  have c0 : (0 : Int32).toInt = 0 := rfl
  rw [Int32.lt_iff_toInt_lt, c0] at h
  rw [← Int32.toInt_inj, c0, h1]; omega
theorem own_iff (c : Int32) (h : ¬ c < (0 : Int32)) : (¬ (¬ ((159 : Int32) < c) ∧ (¬ (c < (127 : Int32)) ∨ (((c.toUInt32 >>> ((5 : Int32) &&& 31).toUInt32).toInt32) = (0 : Int32)))) ∧ (((c < (55296 : Int32)) ∧ (¬ (c = (65534 : Int32)) ∧ (¬ (c = (65535 : Int32))))) ∨ (¬ (c < (55296 : Int32)) ∧ (((57343 : Int32) < c) ∧ (¬ (c = (65534 : Int32)) ∧ (¬ (c = (65535 : Int32)))))))) ↔ (¬ (¬ ((31 : Int32) < c) ∨ (¬ (c < (127 : Int32)) ∧ (¬ ((159 : Int32) < c)))) ∧ (¬ (¬ (c < (55296 : Int32)) ∧ (¬ ((57343 : Int32) < c))) ∧ (¬ (c = (65534 : Int32)) ∧ (¬ (c = (65535 : Int32)))))) := by
  have h1 := own_sh c h
  rw [h1]
  have c0 : (0 : Int32).toInt = 0 := rfl
  have c1 : (31 : Int32).toInt = 31 := rfl
  have c2 : (127 : Int32).toInt = 127 := rfl
  have c3 : (159 : Int32).toInt = 159 := rfl
  have c4 : (55296 : Int32).toInt = 55296 := rfl
  have c5 : (57343 : Int32).toInt = 57343 := rfl
  have c6 : (65534 : Int32).toInt = 65534 := rfl
  have c7 : (65535 : Int32).toInt = 65535 := rfl
  simp only [Int32.lt_iff_toInt_lt, ← Int32.toInt_inj, c0, c1, c2, c3, c4, c5, c6, c7] at *
  omega
def Q2 (Z : State) (q1 : Int32) (h0 : Heap) (n0 : Nat) (v : Option Value) (h : Heap) (L : List Loc) : Prop := (∃ z : Int32, v = some (.int z) ∧ z = (own_b (¬ ((159 : Int32) < q1) ∧ (¬ (q1 < (127 : Int32)) ∨ (((q1.toUInt32 >>> ((5 : Int32) &&& 31).toUInt32).toInt32) = (0 : Int32)))))) ∧ Fr n0 L ∧ h = h0
set_option maxRecDepth 65536 in
set_option maxHeartbeats 40000000 in
theorem rm2 (l : Launch) (Z : State) (a0 : Array Value) (hw : ∀ d ∈ tables_1, d.before a0 Z = true) (ws : List Jvm.Cond) (q1 : Int32) (h0 : Heap) (n0 : Nat) (Z0 : n0 ≤ h0.size) :
    MetFree l (⟨"java/lang/Character", "isISOControl", "(I)Z"⟩ : MethodName) (head1 (Jvm.Cond.code (⟨"java/lang/Character", "isISOControl", "(I)Z"⟩ : MethodName) jdk_89_method_89_code 1 (some .boolean) :: ws) ({ frames := 0, cells := 0, slots := 0, locals := 0 } : Room)) (fun a U => a = #[(.int q1)] ∧ Z.Warmed39 U.vm ∧ U.heap = h0) (fun _ _ _ _ _ => True) (fun _ U o U' => ∃ v L, o = .returned v ∧ Q2 Z q1 h0 n0 v U'.heap L ∧ FrameEnd U o U' L ({ frames := 0, cells := 0, slots := 0, locals := 0 } : Room).cells ({ frames := 0, cells := 0, slots := 0, locals := 0 } : Room).slots) := by
  refine MetFree.of_bodySF (plainFor_of_name pn_2) hisR ?_
  intro p e s m args below meth c s₁ Bd hml0 hP hK
  obtain ⟨rfl, hZ, hh⟩ := hP
  have hx := Bd.exec
  have hby := Bd.bytes
  have hlk := BodyLoose.notSynchronized Bd
  have hml : c.maxLocals = 1 := hml0
  have hown : s.vm.findClass "java/lang/Character" = some m.cls := findClass_of_methodNamed Bd.named
  have hnm := (name_of_methodNamed Bd.named Bd.method).1
  have X0 : Stand p l e ({ frames := 0, cells := 0, slots := 0, locals := 0 } : Room) s m #[(.int q1)] below meth c s₁ [] 0 0 := Stand.of_body Bd
  have e0 : s₁.heap = h0 := by rw [← hh, Bd.state]; rfl
  have N0 := Fr.nil n0
  have K0 := Keep.refl h0 []
  show own_G p.tables e below (own_P s (Q2 Z q1 h0 n0) 0 0) (s₁.setTop (entryFrame m #[(.int q1)] 1))
  refine own_st (fun t k => castTop (ef_2 m q1) k) ?_
  show own_G p.tables e below _ (s₁.setTop (mkF m 0 #[.val (.int q1)] []))
  refine own_st (fun _ k => XS.iloadN X0.here hx rfl (hb hby d2_0) rfl k) ?_
  show own_G p.tables e below _ (s₁.setTop (mkF m 1 #[.val (.int q1)] [(.int q1)]))
  refine own_st (fun _ k => XS.sipush X0.here hx rfl (hb hby d2_1) k) ?_
  show own_G p.tables e below _ (s₁.setTop (mkF m 4 #[.val (.int q1)] [(.int (159 : Int32)), (.int q1)]))
  have J24_2 : ∀ (z3 : Int32) (hz3 : z3 = (own_b (¬ ((159 : Int32) < q1) ∧ (¬ (q1 < (127 : Int32)) ∨ (((q1.toUInt32 >>> ((5 : Int32) &&& 31).toUInt32).toInt32) = (0 : Int32)))))), own_G p.tables e below (own_P s (Q2 Z q1 h0 n0) 0 0) (s₁.setTop (mkF m 24 #[.val (.int q1)] [(.int z3)])) := by
    intro z3 hz3
    exact own_retZ X0 hx hlk Bd.returns (hb hby d2_24) (own_nar hz3) (by rw [e0]; exact ⟨⟨_, rfl, (by subst hz3; exact rfl)⟩, N0, rfl⟩) (by decide) (by decide)
  by_cases hc4_1 : (159 : Int32) < q1
  · refine own_st (fun _ k => XS.icmpYes X0.here hx rfl (pc0 := 4) (pc' := 23) rfl (hb hby d2_4) rfl (tlt hc4_1).2.2.1 (by decide) (by decide) k) ?_
    show own_G p.tables e below _ (s₁.setTop (mkF m 23 #[.val (.int q1)] []))
    refine own_st (fun _ k => XS.iconst X0.here hx rfl (hb hby d2_23) k) ?_
    show own_G p.tables e below _ (s₁.setTop (mkF m 24 #[.val (.int q1)] [(.int (0 : Int32))]))
    exact J24_2 (0 : Int32) ((own_bf (fun q => q.1 hc4_1)).symm)
  · refine own_st (fun _ k => XS.icmpNo X0.here hx rfl (hb hby d2_4) rfl (flt hc4_1).2.2.1 k) ?_
    show own_G p.tables e below _ (s₁.setTop (mkF m 7 #[.val (.int q1)] []))
    refine own_st (fun _ k => XS.iloadN X0.here hx rfl (hb hby d2_7) rfl k) ?_
    show own_G p.tables e below _ (s₁.setTop (mkF m 8 #[.val (.int q1)] [(.int q1)]))
    refine own_st (fun _ k => XS.bipush X0.here hx rfl (hb hby d2_8) k) ?_
    show own_G p.tables e below _ (s₁.setTop (mkF m 10 #[.val (.int q1)] [(.int (127 : Int32)), (.int q1)]))
    by_cases hc10_4 : q1 < (127 : Int32)
    · refine own_st (fun _ k => XS.icmpNo X0.here hx rfl (hb hby d2_10) rfl (tlt hc10_4).2.1 k) ?_
      show own_G p.tables e below _ (s₁.setTop (mkF m 13 #[.val (.int q1)] []))
      refine own_st (fun _ k => XS.iloadN X0.here hx rfl (hb hby d2_13) rfl k) ?_
      show own_G p.tables e below _ (s₁.setTop (mkF m 14 #[.val (.int q1)] [(.int q1)]))
      refine own_st (fun _ k => XS.iconst X0.here hx rfl (hb hby d2_14) k) ?_
      show own_G p.tables e below _ (s₁.setTop (mkF m 15 #[.val (.int q1)] [(.int (5 : Int32)), (.int q1)]))
      refine own_st (fun _ k => XS.iushr X0.here hx rfl (hb hby d2_15) rfl k) ?_
      show own_G p.tables e below _ (s₁.setTop (mkF m 16 #[.val (.int q1)] [(.int ((q1.toUInt32 >>> ((5 : Int32) &&& 31).toUInt32).toInt32))]))
      by_cases hc16_5 : ((q1.toUInt32 >>> ((5 : Int32) &&& 31).toUInt32).toInt32) = (0 : Int32)
      · refine own_st (fun _ k => XS.ifNo X0.here hx rfl (hb hby d2_16) rfl ((if0 _ _).trans (teq hc16_5).2) k) ?_
        show own_G p.tables e below _ (s₁.setTop (mkF m 19 #[.val (.int q1)] []))
        refine own_st (fun _ k => XS.iconst X0.here hx rfl (hb hby d2_19) k) ?_
        show own_G p.tables e below _ (s₁.setTop (mkF m 20 #[.val (.int q1)] [(.int (1 : Int32))]))
        refine own_st (fun _ k => XS.goto X0.here hx rfl (pc0 := 20) (pc' := 24) rfl (hb hby d2_20) (by decide) (by decide) k) ?_
        show own_G p.tables e below _ (s₁.setTop (mkF m 24 #[.val (.int q1)] [(.int (1 : Int32))]))
        exact J24_2 (1 : Int32) ((own_bt ⟨hc4_1, (Or.inr hc16_5)⟩).symm)
      · refine own_st (fun _ k => XS.ifYes X0.here hx rfl (pc0 := 16) (pc' := 23) rfl (hb hby d2_16) rfl ((if0 _ _).trans (feq hc16_5).2) (by decide) (by decide) k) ?_
        show own_G p.tables e below _ (s₁.setTop (mkF m 23 #[.val (.int q1)] []))
        refine own_st (fun _ k => XS.iconst X0.here hx rfl (hb hby d2_23) k) ?_
        show own_G p.tables e below _ (s₁.setTop (mkF m 24 #[.val (.int q1)] [(.int (0 : Int32))]))
        exact J24_2 (0 : Int32) ((own_bf (fun q => (fun q => q.elim (fun r => r hc10_4) hc16_5) q.2)).symm)
    · refine own_st (fun _ k => XS.icmpYes X0.here hx rfl (pc0 := 10) (pc' := 19) rfl (hb hby d2_10) rfl (flt hc10_4).2.1 (by decide) (by decide) k) ?_
      show own_G p.tables e below _ (s₁.setTop (mkF m 19 #[.val (.int q1)] []))
      refine own_st (fun _ k => XS.iconst X0.here hx rfl (hb hby d2_19) k) ?_
      show own_G p.tables e below _ (s₁.setTop (mkF m 20 #[.val (.int q1)] [(.int (1 : Int32))]))
      refine own_st (fun _ k => XS.goto X0.here hx rfl (pc0 := 20) (pc' := 24) rfl (hb hby d2_20) (by decide) (by decide) k) ?_
      show own_G p.tables e below _ (s₁.setTop (mkF m 24 #[.val (.int q1)] [(.int (1 : Int32))]))
      exact J24_2 (1 : Int32) ((own_bt ⟨hc4_1, (Or.inl hc10_4)⟩).symm)
def Q1 (Z : State) (q1 : Int32) (h0 : Heap) (n0 : Nat) (v : Option Value) (h : Heap) (L : List Loc) : Prop := (∃ z : Int32, v = some (.int z) ∧ z = (own_b (¬ (¬ ((159 : Int32) < q1) ∧ (¬ (q1 < (127 : Int32)) ∨ (((q1.toUInt32 >>> ((5 : Int32) &&& 31).toUInt32).toInt32) = (0 : Int32)))) ∧ (((q1 < (55296 : Int32)) ∧ (¬ (q1 = (65534 : Int32)) ∧ (¬ (q1 = (65535 : Int32))))) ∨ (¬ (q1 < (55296 : Int32)) ∧ (((57343 : Int32) < q1) ∧ (¬ (q1 = (65534 : Int32)) ∧ (¬ (q1 = (65535 : Int32)))))))))) ∧ Fr n0 L ∧ h = h0
set_option maxRecDepth 65536 in
set_option maxHeartbeats 40000000 in
theorem rm1 (l : Launch) (Z : State) (a0 : Array Value) (hw : ∀ d ∈ tables_1, d.before a0 Z = true) (ws : List Jvm.Cond) (q1 : Int32) (h0 : Heap) (n0 : Nat) (Z0 : n0 ≤ h0.size) :
    MetFree l (⟨"com/example/archivolt/archivolt/FileNames", "isPlain", "(I)Z"⟩ : MethodName) (head1 (Jvm.Cond.code (⟨"com/example/archivolt/archivolt/FileNames", "isPlain", "(I)Z"⟩ : MethodName) prog_7_method_6_code 1 (some .boolean) :: ws) ({ frames := 1, cells := 0, slots := 0, locals := 12 } : Room)) (fun a U => a = #[(.int q1)] ∧ Z.Warmed39 U.vm ∧ U.heap = h0) (fun _ _ _ _ _ => True) (fun _ U o U' => ∃ v L, o = .returned v ∧ Q1 Z q1 h0 n0 v U'.heap L ∧ FrameEnd U o U' L ({ frames := 1, cells := 0, slots := 0, locals := 12 } : Room).cells ({ frames := 1, cells := 0, slots := 0, locals := 12 } : Room).slots) := by
  refine MetFree.of_bodySF (plainFor_of_name pn_1) hisR ?_
  intro p e s m args below meth c s₁ Bd hml0 hP hK
  obtain ⟨rfl, hZ, hh⟩ := hP
  have hx := Bd.exec
  have hby := Bd.bytes
  have hlk := BodyLoose.notSynchronized Bd
  have hml : c.maxLocals = 1 := hml0
  have hown : s.vm.findClass "com/example/archivolt/archivolt/FileNames" = some m.cls := findClass_of_methodNamed Bd.named
  have hnm := (name_of_methodNamed Bd.named Bd.method).1
  have X0 : Stand p l e ({ frames := 1, cells := 0, slots := 0, locals := 12 } : Room) s m #[(.int q1)] below meth c s₁ [] 0 0 := Stand.of_body Bd
  have e0 : s₁.heap = h0 := by rw [← hh, Bd.state]; rfl
  have N0 := Fr.nil n0
  have K0 := Keep.refl h0 []
  show own_G p.tables e below (own_P s (Q1 Z q1 h0 n0) 0 0) (s₁.setTop (entryFrame m #[(.int q1)] 1))
  refine own_st (fun t k => castTop (ef_1 m q1) k) ?_
  show own_G p.tables e below _ (s₁.setTop (mkF m 0 #[.val (.int q1)] []))
  refine own_st (fun _ k => XS.iloadN X0.here hx rfl (hb hby d1_0) rfl k) ?_
  show own_G p.tables e below _ (s₁.setTop (mkF m 1 #[.val (.int q1)] [(.int q1)]))
  obtain ⟨_, _, ⟨T1, L1, k1, n1⟩, -, X1, ⟨Lc1, hQ1, l1, y1, z1⟩, st1⟩ := Jvm.LawKit.callS X0 hx (y := (⟨"java/lang/Character", "isISOControl", "(I)Z"⟩ : MethodName)) hown (mvT hZ (hw _ (List.mem_of_getElem? (i := 14) rfl))) (mvT hZ (hw _ (List.mem_of_getElem? (i := 15) rfl))) (mvT hZ (hw _ (List.mem_of_getElem? (i := 16) rfl))) (mvT hZ (hw _ (List.mem_of_getElem? (i := 17) rfl))) (by decide) (backOf (W := 0) (rm2 l Z a0 hw [] q1 h0 n0 Z0 ) hZ (hw _ (List.mem_of_getElem? (i := 17) rfl)) (hw _ (List.mem_of_getElem? (i := 16) rfl)) (by decide) (by decide)) (g := (mkF m 1 #[.val (.int q1)] [(.int q1)])) rfl (by rw [hml]; rfl) (argsL := [(.int q1)]) (rest := []) (lenOf pd_0 rfl) rfl (by show 2 * 0 + _ ≤ _; exact Nat.le_of_eq rfl) (hb hby d1_1) (fun _ _ => ⟨rfl, e0, (by decide : 0 + 0 ≤ _), (by decide : 0 + 0 ≤ _)⟩)
  dsimp only [Pt.U, Pt.locs, Pt.cells, Pt.slots] at X1 l1 y1 z1 st1 hQ1
  subst l1 y1 z1
  obtain ⟨⟨r1, rfl, hr1⟩, N1q, e1⟩ := hQ1
  have N1 := Fr.app N0 N1q
  refine own_st st1 ?_
  show own_G p.tables e below _ (T1.setTop (mkF m 4 #[.val (.int q1)] [(.int r1)]))
  have J36_3 : ∀ (z4 : Int32) (hz4 : z4 = (own_b (¬ (¬ ((159 : Int32) < q1) ∧ (¬ (q1 < (127 : Int32)) ∨ (((q1.toUInt32 >>> ((5 : Int32) &&& 31).toUInt32).toInt32) = (0 : Int32)))) ∧ (((q1 < (55296 : Int32)) ∧ (¬ (q1 = (65534 : Int32)) ∧ (¬ (q1 = (65535 : Int32))))) ∨ (¬ (q1 < (55296 : Int32)) ∧ (((57343 : Int32) < q1) ∧ (¬ (q1 = (65534 : Int32)) ∧ (¬ (q1 = (65535 : Int32)))))))))), own_G p.tables e below (own_P s (Q1 Z q1 h0 n0) 0 0) (T1.setTop (mkF m 36 #[.val (.int q1)] [(.int z4)])) := by
    intro z4 hz4
    exact own_retZ X1 hx hlk Bd.returns (hb hby d1_36) (own_nar hz4) (by rw [e1]; exact ⟨⟨_, rfl, (by subst hz4; subst hr1; exact rfl)⟩, N1, rfl⟩) (by decide) (by decide)
  by_cases hc4_2 : ¬ ((159 : Int32) < q1) ∧ (¬ (q1 < (127 : Int32)) ∨ (((q1.toUInt32 >>> ((5 : Int32) &&& 31).toUInt32).toInt32) = (0 : Int32)))
  · refine own_st (fun _ k => XS.ifYes X1.here hx rfl (pc0 := 4) (pc' := 35) rfl (hb hby d1_4) rfl ((if0 _ _).trans (feq (own_b1 hr1 hc4_2)).2) (by decide) (by decide) k) ?_
    show own_G p.tables e below _ (T1.setTop (mkF m 35 #[.val (.int q1)] []))
    refine own_st (fun _ k => XS.iconst X1.here hx rfl (hb hby d1_35) k) ?_
    show own_G p.tables e below _ (T1.setTop (mkF m 36 #[.val (.int q1)] [(.int (0 : Int32))]))
    exact J36_3 (0 : Int32) ((own_bf (fun q => q.1 hc4_2)).symm)
  · refine own_st (fun _ k => XS.ifNo X1.here hx rfl (hb hby d1_4) rfl ((if0 _ _).trans (teq (own_b0 hr1 hc4_2)).2) k) ?_
    show own_G p.tables e below _ (T1.setTop (mkF m 7 #[.val (.int q1)] []))
    refine own_st (fun _ k => XS.iloadN X1.here hx rfl (hb hby d1_7) rfl k) ?_
    show own_G p.tables e below _ (T1.setTop (mkF m 8 #[.val (.int q1)] [(.int q1)]))
    refine own_st (X1.ldcInt hx hown (mvT hZ (hw _ (List.mem_of_getElem? (i := 18) rfl))) (g := (mkF m 8 #[.val (.int q1)] [(.int q1)])) rfl (hb hby d1_8)) ?_
    show own_G p.tables e below _ (T1.setTop (mkF m 10 #[.val (.int q1)] [(.int (55296 : Int32)), (.int q1)]))
    by_cases hc10_5 : q1 < (55296 : Int32)
    · refine own_st (fun _ k => XS.icmpYes X1.here hx rfl (pc0 := 10) (pc' := 19) rfl (hb hby d1_10) rfl (tlt hc10_5).1 (by decide) (by decide) k) ?_
      show own_G p.tables e below _ (T1.setTop (mkF m 19 #[.val (.int q1)] []))
      refine own_st (fun _ k => XS.iloadN X1.here hx rfl (hb hby d1_19) rfl k) ?_
      show own_G p.tables e below _ (T1.setTop (mkF m 20 #[.val (.int q1)] [(.int q1)]))
      refine own_st (X1.ldcInt hx hown (mvT hZ (hw _ (List.mem_of_getElem? (i := 19) rfl))) (g := (mkF m 20 #[.val (.int q1)] [(.int q1)])) rfl (hb hby d1_20)) ?_
      show own_G p.tables e below _ (T1.setTop (mkF m 22 #[.val (.int q1)] [(.int (65534 : Int32)), (.int q1)]))
      by_cases hc22_6 : q1 = (65534 : Int32)
      · refine own_st (fun _ k => XS.icmpYes X1.here hx rfl (pc0 := 22) (pc' := 35) rfl (hb hby d1_22) rfl (teq hc22_6).1 (by decide) (by decide) k) ?_
        show own_G p.tables e below _ (T1.setTop (mkF m 35 #[.val (.int q1)] []))
        refine own_st (fun _ k => XS.iconst X1.here hx rfl (hb hby d1_35) k) ?_
        show own_G p.tables e below _ (T1.setTop (mkF m 36 #[.val (.int q1)] [(.int (0 : Int32))]))
        exact J36_3 (0 : Int32) ((own_bf (fun q => (fun q => q.elim (fun r => (fun q => q.1 hc22_6) r.2) (fun r => r.1 hc10_5)) q.2)).symm)
      · refine own_st (fun _ k => XS.icmpNo X1.here hx rfl (hb hby d1_22) rfl (feq hc22_6).1 k) ?_
        show own_G p.tables e below _ (T1.setTop (mkF m 25 #[.val (.int q1)] []))
        refine own_st (fun _ k => XS.iloadN X1.here hx rfl (hb hby d1_25) rfl k) ?_
        show own_G p.tables e below _ (T1.setTop (mkF m 26 #[.val (.int q1)] [(.int q1)]))
        refine own_st (X1.ldcInt hx hown (mvT hZ (hw _ (List.mem_of_getElem? (i := 20) rfl))) (g := (mkF m 26 #[.val (.int q1)] [(.int q1)])) rfl (hb hby d1_26)) ?_
        show own_G p.tables e below _ (T1.setTop (mkF m 28 #[.val (.int q1)] [(.int (65535 : Int32)), (.int q1)]))
        by_cases hc28_7 : q1 = (65535 : Int32)
        · refine own_st (fun _ k => XS.icmpYes X1.here hx rfl (pc0 := 28) (pc' := 35) rfl (hb hby d1_28) rfl (teq hc28_7).1 (by decide) (by decide) k) ?_
          show own_G p.tables e below _ (T1.setTop (mkF m 35 #[.val (.int q1)] []))
          refine own_st (fun _ k => XS.iconst X1.here hx rfl (hb hby d1_35) k) ?_
          show own_G p.tables e below _ (T1.setTop (mkF m 36 #[.val (.int q1)] [(.int (0 : Int32))]))
          exact J36_3 (0 : Int32) ((own_bf (fun q => (fun q => q.elim (fun r => (fun q => (fun q => q hc28_7) q.2) r.2) (fun r => r.1 hc10_5)) q.2)).symm)
        · refine own_st (fun _ k => XS.icmpNo X1.here hx rfl (hb hby d1_28) rfl (feq hc28_7).1 k) ?_
          show own_G p.tables e below _ (T1.setTop (mkF m 31 #[.val (.int q1)] []))
          refine own_st (fun _ k => XS.iconst X1.here hx rfl (hb hby d1_31) k) ?_
          show own_G p.tables e below _ (T1.setTop (mkF m 32 #[.val (.int q1)] [(.int (1 : Int32))]))
          refine own_st (fun _ k => XS.goto X1.here hx rfl (pc0 := 32) (pc' := 36) rfl (hb hby d1_32) (by decide) (by decide) k) ?_
          show own_G p.tables e below _ (T1.setTop (mkF m 36 #[.val (.int q1)] [(.int (1 : Int32))]))
          exact J36_3 (1 : Int32) ((own_bt ⟨hc4_2, (Or.inl ⟨hc10_5, ⟨hc22_6, hc28_7⟩⟩)⟩).symm)
    · refine own_st (fun _ k => XS.icmpNo X1.here hx rfl (hb hby d1_10) rfl (flt hc10_5).1 k) ?_
      show own_G p.tables e below _ (T1.setTop (mkF m 13 #[.val (.int q1)] []))
      refine own_st (fun _ k => XS.iloadN X1.here hx rfl (hb hby d1_13) rfl k) ?_
      show own_G p.tables e below _ (T1.setTop (mkF m 14 #[.val (.int q1)] [(.int q1)]))
      refine own_st (X1.ldcInt hx hown (mvT hZ (hw _ (List.mem_of_getElem? (i := 23) rfl))) (g := (mkF m 14 #[.val (.int q1)] [(.int q1)])) rfl (hb hby d1_14)) ?_
      show own_G p.tables e below _ (T1.setTop (mkF m 16 #[.val (.int q1)] [(.int (57343 : Int32)), (.int q1)]))
      by_cases hc16_8 : (57343 : Int32) < q1
      · refine own_st (fun _ k => XS.icmpNo X1.here hx rfl (hb hby d1_16) rfl (tlt hc16_8).2.2.2 k) ?_
        show own_G p.tables e below _ (T1.setTop (mkF m 19 #[.val (.int q1)] []))
        refine own_st (fun _ k => XS.iloadN X1.here hx rfl (hb hby d1_19) rfl k) ?_
        show own_G p.tables e below _ (T1.setTop (mkF m 20 #[.val (.int q1)] [(.int q1)]))
        refine own_st (X1.ldcInt hx hown (mvT hZ (hw _ (List.mem_of_getElem? (i := 19) rfl))) (g := (mkF m 20 #[.val (.int q1)] [(.int q1)])) rfl (hb hby d1_20)) ?_
        show own_G p.tables e below _ (T1.setTop (mkF m 22 #[.val (.int q1)] [(.int (65534 : Int32)), (.int q1)]))
        by_cases hc22_9 : q1 = (65534 : Int32)
        · refine own_st (fun _ k => XS.icmpYes X1.here hx rfl (pc0 := 22) (pc' := 35) rfl (hb hby d1_22) rfl (teq hc22_9).1 (by decide) (by decide) k) ?_
          show own_G p.tables e below _ (T1.setTop (mkF m 35 #[.val (.int q1)] []))
          refine own_st (fun _ k => XS.iconst X1.here hx rfl (hb hby d1_35) k) ?_
          show own_G p.tables e below _ (T1.setTop (mkF m 36 #[.val (.int q1)] [(.int (0 : Int32))]))
          exact J36_3 (0 : Int32) ((own_bf (fun q => (fun q => q.elim (fun r => hc10_5 r.1) (fun r => (fun q => (fun q => q.1 hc22_9) q.2) r.2)) q.2)).symm)
        · refine own_st (fun _ k => XS.icmpNo X1.here hx rfl (hb hby d1_22) rfl (feq hc22_9).1 k) ?_
          show own_G p.tables e below _ (T1.setTop (mkF m 25 #[.val (.int q1)] []))
          refine own_st (fun _ k => XS.iloadN X1.here hx rfl (hb hby d1_25) rfl k) ?_
          show own_G p.tables e below _ (T1.setTop (mkF m 26 #[.val (.int q1)] [(.int q1)]))
          refine own_st (X1.ldcInt hx hown (mvT hZ (hw _ (List.mem_of_getElem? (i := 20) rfl))) (g := (mkF m 26 #[.val (.int q1)] [(.int q1)])) rfl (hb hby d1_26)) ?_
          show own_G p.tables e below _ (T1.setTop (mkF m 28 #[.val (.int q1)] [(.int (65535 : Int32)), (.int q1)]))
          by_cases hc28_10 : q1 = (65535 : Int32)
          · refine own_st (fun _ k => XS.icmpYes X1.here hx rfl (pc0 := 28) (pc' := 35) rfl (hb hby d1_28) rfl (teq hc28_10).1 (by decide) (by decide) k) ?_
            show own_G p.tables e below _ (T1.setTop (mkF m 35 #[.val (.int q1)] []))
            refine own_st (fun _ k => XS.iconst X1.here hx rfl (hb hby d1_35) k) ?_
            show own_G p.tables e below _ (T1.setTop (mkF m 36 #[.val (.int q1)] [(.int (0 : Int32))]))
            exact J36_3 (0 : Int32) ((own_bf (fun q => (fun q => q.elim (fun r => hc10_5 r.1) (fun r => (fun q => (fun q => (fun q => q hc28_10) q.2) q.2) r.2)) q.2)).symm)
          · refine own_st (fun _ k => XS.icmpNo X1.here hx rfl (hb hby d1_28) rfl (feq hc28_10).1 k) ?_
            show own_G p.tables e below _ (T1.setTop (mkF m 31 #[.val (.int q1)] []))
            refine own_st (fun _ k => XS.iconst X1.here hx rfl (hb hby d1_31) k) ?_
            show own_G p.tables e below _ (T1.setTop (mkF m 32 #[.val (.int q1)] [(.int (1 : Int32))]))
            refine own_st (fun _ k => XS.goto X1.here hx rfl (pc0 := 32) (pc' := 36) rfl (hb hby d1_32) (by decide) (by decide) k) ?_
            show own_G p.tables e below _ (T1.setTop (mkF m 36 #[.val (.int q1)] [(.int (1 : Int32))]))
            exact J36_3 (1 : Int32) ((own_bt ⟨hc4_2, (Or.inr ⟨hc10_5, ⟨hc16_8, ⟨hc22_9, hc28_10⟩⟩⟩)⟩).symm)
      · refine own_st (fun _ k => XS.icmpYes X1.here hx rfl (pc0 := 16) (pc' := 35) rfl (hb hby d1_16) rfl (flt hc16_8).2.2.2 (by decide) (by decide) k) ?_
        show own_G p.tables e below _ (T1.setTop (mkF m 35 #[.val (.int q1)] []))
        refine own_st (fun _ k => XS.iconst X1.here hx rfl (hb hby d1_35) k) ?_
        show own_G p.tables e below _ (T1.setTop (mkF m 36 #[.val (.int q1)] [(.int (0 : Int32))]))
        exact J36_3 (0 : Int32) ((own_bf (fun q => (fun q => q.elim (fun r => hc10_5 r.1) (fun r => (fun q => hc16_8 q.1) r.2)) q.2)).symm)
def Q0 (n0 : Nat) (v : Option Value) (h : Heap) (L : List Loc) : Prop := v = some (.int 1) ∧ Fr n0 L
set_option maxRecDepth 65536 in
set_option maxHeartbeats 40000000 in
theorem rm0 (l : Launch) (Z : State) (a0 : Array Value) (hw : ∀ d ∈ tables_1, d.before a0 Z = true) (ws : List Jvm.Cond) (i0 : Int32) (i1 : Int32) (h0 : Heap) (n0 : Nat) (Z0 : n0 ≤ h0.size) :
    MetFree l x (head1 (Jvm.Cond.code x code maxLocals ret :: ws) room_1) (fun a U => a = #[(.int i0), (.int i1)] ∧ Z.Warmed39 U.vm ∧ U.heap = h0) (fun _ _ _ _ _ => True) (fun _ U o U' => ∃ v L, o = .returned v ∧ Q0 n0 v U'.heap L ∧ FrameEnd U o U' L 16 128) := by
  refine MetFree.of_bodySF (plainFor_of_name pn_0) hisR ?_
  intro p e s m args below meth c s₁ Bd hml0 hP hK
  obtain ⟨rfl, hZ, hh⟩ := hP
  have hx := Bd.exec
  have hby := Bd.bytes
  have hlk := BodyLoose.notSynchronized Bd
  have hml : c.maxLocals = 7 := hml0
  have hown : s.vm.findClass "com/example/archivolt/archivolt/FileNamesIsPlainPinLaw" = some m.cls := findClass_of_methodNamed Bd.named
  have hnm := (name_of_methodNamed Bd.named Bd.method).1
  have X0 : Stand p l e room_1 s m #[(.int i0), (.int i1)] below meth c s₁ [] 0 0 := Stand.of_body Bd
  have e0 : s₁.heap = h0 := by rw [← hh, Bd.state]; rfl
  have N0 := Fr.nil n0
  have K0 := Keep.refl h0 []
  show own_G p.tables e below (own_P s (Q0 n0) 16 128) (s₁.setTop (entryFrame m #[(.int i0), (.int i1)] maxLocals))
  refine own_st (fun t k => castTop (ef_0 m i0 i1) k) ?_
  show own_G p.tables e below _ (s₁.setTop (mkF m 0 #[.val (.int i0), .val (.int i1), .unset, .unset, .unset, .unset, .unset] []))
  refine own_st (fun _ k => XS.bipush X0.here hx rfl (hb hby at_0) k) ?_
  show own_G p.tables e below _ (s₁.setTop (mkF m 2 #[.val (.int i0), .val (.int i1), .unset, .unset, .unset, .unset, .unset] [(.int (16 : Int32))]))
  obtain ⟨T1, h1, k1, X1, e1, E1, A1, st1⟩ := newP X0 hx hZ (hw _ (List.mem_of_getElem? (i := 0) rfl)) e0 (g := (mkF m 2 #[.val (.int i0), .val (.int i1), .unset, .unset, .unset, .unset, .unset] [(.int (16 : Int32))])) rfl (hb hby at_2) rfl (by decide) (cap := 16) (by decide) (by decide) (by decide) (by decide)
  obtain ⟨b1, g1⟩ : ∃ z, z = h0.size := ⟨_, rfl⟩
  rw [← g1] at A1 st1
  have ge_b1 : n0 ≤ b1 := Nat.le_trans Z0 (Nat.le_of_eq g1.symm)
  have Z2 := Nat.le_trans Z0 E1.1
  have V3 : Arv Z h1 b1 k1 .int (16 : Int32) [(.int (0 : Int32)), (.int (0 : Int32)), (.int (0 : Int32)), (.int (0 : Int32)), (.int (0 : Int32)), (.int (0 : Int32)), (.int (0 : Int32)), (.int (0 : Int32)), (.int (0 : Int32)), (.int (0 : Int32)), (.int (0 : Int32)), (.int (0 : Int32)), (.int (0 : Int32)), (.int (0 : Int32)), (.int (0 : Int32)), (.int (0 : Int32))] (.int (0 : Int32)) := (Arv.new A1 (by decide)).pad (pad_rep [] (.int (0 : Int32)) 16)
  refine own_st st1 ?_
  show own_G p.tables e below _ (T1.setTop (mkF m 4 #[.val (.int i0), .val (.int i1), .unset, .unset, .unset, .unset, .unset] [(.ref b1)]))
  refine own_st (fun _ k => XS.dup X1.here hx rfl (hb hby at_4) rfl rfl k) ?_
  show own_G p.tables e below _ (T1.setTop (mkF m 5 #[.val (.int i0), .val (.int i1), .unset, .unset, .unset, .unset, .unset] [(.ref b1), (.ref b1)]))
  refine own_st (fun _ k => XS.iconst X1.here hx rfl (hb hby at_5) k) ?_
  show own_G p.tables e below _ (T1.setTop (mkF m 6 #[.val (.int i0), .val (.int i1), .unset, .unset, .unset, .unset, .unset] [(.int (0 : Int32)), (.ref b1), (.ref b1)]))
  refine own_st (fun _ k => XS.iconst X1.here hx rfl (hb hby at_6) k) ?_
  show own_G p.tables e below _ (T1.setTop (mkF m 7 #[.val (.int i0), .val (.int i1), .unset, .unset, .unset, .unset, .unset] [(.int (0 : Int32)), (.int (0 : Int32)), (.ref b1), (.ref b1)]))
  obtain ⟨cl4, Ar4, q4, S4, Nn4, H4, G4⟩ := V3
  have hin4 : ¬ ((0 : Int32) < 0 ∨ cl4.slots.size ≤ ((0 : Int32)).toNatClampNeg) := inb_of S4 ⟨by decide, by decide⟩
  obtain ⟨T4, h4, X4, e4, W4, st4⟩ := stI X1 hx hZ e1 Ar4 (j := (0 : Int32)) hin4 (g := (mkF m 7 #[.val (.int i0), .val (.int i1), .unset, .unset, .unset, .unset, .unset] [(.int (0 : Int32)), (.int (0 : Int32)), (.ref b1), (.ref b1)])) rfl rfl (hb hby at_7)
  have N4 := Fr.snoc X4 N0 ge_b1
  have V5 : Arv Z h4 b1 k1 .int (16 : Int32) [(.int (0 : Int32)), (.int (0 : Int32)), (.int (0 : Int32)), (.int (0 : Int32)), (.int (0 : Int32)), (.int (0 : Int32)), (.int (0 : Int32)), (.int (0 : Int32)), (.int (0 : Int32)), (.int (0 : Int32)), (.int (0 : Int32)), (.int (0 : Int32)), (.int (0 : Int32)), (.int (0 : Int32)), (.int (0 : Int32)), (.int (0 : Int32))] (.int (0 : Int32)) := Arv.set Ar4 q4 S4 Nn4 H4 G4 rfl W4 0 rfl (Nat.le_of_ble_eq_true rfl)
  have Z7 := Nat.le_trans Z2 (Keep.of_wr W4).1
  refine own_st st4 ?_
  show own_G p.tables e below _ (T4.setTop (mkF m 8 #[.val (.int i0), .val (.int i1), .unset, .unset, .unset, .unset, .unset] [(.ref b1)]))
  refine own_st (fun _ k => XS.dup X4.here hx rfl (hb hby at_8) rfl rfl k) ?_
  show own_G p.tables e below _ (T4.setTop (mkF m 9 #[.val (.int i0), .val (.int i1), .unset, .unset, .unset, .unset, .unset] [(.ref b1), (.ref b1)]))
  refine own_st (fun _ k => XS.iconst X4.here hx rfl (hb hby at_9) k) ?_
  show own_G p.tables e below _ (T4.setTop (mkF m 10 #[.val (.int i0), .val (.int i1), .unset, .unset, .unset, .unset, .unset] [(.int (1 : Int32)), (.ref b1), (.ref b1)]))
  refine own_st (fun _ k => XS.bipush X4.here hx rfl (hb hby at_10) k) ?_
  show own_G p.tables e below _ (T4.setTop (mkF m 12 #[.val (.int i0), .val (.int i1), .unset, .unset, .unset, .unset, .unset] [(.int (31 : Int32)), (.int (1 : Int32)), (.ref b1), (.ref b1)]))
  obtain ⟨cl8, Ar8, q8, S8, Nn8, H8, G8⟩ := V5
  have hin8 : ¬ ((1 : Int32) < 0 ∨ cl8.slots.size ≤ ((1 : Int32)).toNatClampNeg) := inb_of S8 ⟨by decide, by decide⟩
  obtain ⟨T8, h8, X8, e8, W8, st8⟩ := stI X4 hx hZ e4 Ar8 (j := (1 : Int32)) hin8 (g := (mkF m 12 #[.val (.int i0), .val (.int i1), .unset, .unset, .unset, .unset, .unset] [(.int (31 : Int32)), (.int (1 : Int32)), (.ref b1), (.ref b1)])) rfl rfl (hb hby at_12)
  have N8 := Fr.snoc X8 N4 ge_b1
  have V9 : Arv Z h8 b1 k1 .int (16 : Int32) [(.int (0 : Int32)), (.int (31 : Int32)), (.int (0 : Int32)), (.int (0 : Int32)), (.int (0 : Int32)), (.int (0 : Int32)), (.int (0 : Int32)), (.int (0 : Int32)), (.int (0 : Int32)), (.int (0 : Int32)), (.int (0 : Int32)), (.int (0 : Int32)), (.int (0 : Int32)), (.int (0 : Int32)), (.int (0 : Int32)), (.int (0 : Int32))] (.int (0 : Int32)) := Arv.set Ar8 q8 S8 Nn8 H8 G8 rfl W8 1 rfl (Nat.le_of_ble_eq_true rfl)
  have Z11 := Nat.le_trans Z7 (Keep.of_wr W8).1
  refine own_st st8 ?_
  show own_G p.tables e below _ (T8.setTop (mkF m 13 #[.val (.int i0), .val (.int i1), .unset, .unset, .unset, .unset, .unset] [(.ref b1)]))
  refine own_st (fun _ k => XS.dup X8.here hx rfl (hb hby at_13) rfl rfl k) ?_
  show own_G p.tables e below _ (T8.setTop (mkF m 14 #[.val (.int i0), .val (.int i1), .unset, .unset, .unset, .unset, .unset] [(.ref b1), (.ref b1)]))
  refine own_st (fun _ k => XS.iconst X8.here hx rfl (hb hby at_14) k) ?_
  show own_G p.tables e below _ (T8.setTop (mkF m 15 #[.val (.int i0), .val (.int i1), .unset, .unset, .unset, .unset, .unset] [(.int (2 : Int32)), (.ref b1), (.ref b1)]))
  refine own_st (fun _ k => XS.bipush X8.here hx rfl (hb hby at_15) k) ?_
  show own_G p.tables e below _ (T8.setTop (mkF m 17 #[.val (.int i0), .val (.int i1), .unset, .unset, .unset, .unset, .unset] [(.int (32 : Int32)), (.int (2 : Int32)), (.ref b1), (.ref b1)]))
  obtain ⟨cl12, Ar12, q12, S12, Nn12, H12, G12⟩ := V9
  have hin12 : ¬ ((2 : Int32) < 0 ∨ cl12.slots.size ≤ ((2 : Int32)).toNatClampNeg) := inb_of S12 ⟨by decide, by decide⟩
  obtain ⟨T12, h12, X12, e12, W12, st12⟩ := stI X8 hx hZ e8 Ar12 (j := (2 : Int32)) hin12 (g := (mkF m 17 #[.val (.int i0), .val (.int i1), .unset, .unset, .unset, .unset, .unset] [(.int (32 : Int32)), (.int (2 : Int32)), (.ref b1), (.ref b1)])) rfl rfl (hb hby at_17)
  have N12 := Fr.snoc X12 N8 ge_b1
  have V13 : Arv Z h12 b1 k1 .int (16 : Int32) [(.int (0 : Int32)), (.int (31 : Int32)), (.int (32 : Int32)), (.int (0 : Int32)), (.int (0 : Int32)), (.int (0 : Int32)), (.int (0 : Int32)), (.int (0 : Int32)), (.int (0 : Int32)), (.int (0 : Int32)), (.int (0 : Int32)), (.int (0 : Int32)), (.int (0 : Int32)), (.int (0 : Int32)), (.int (0 : Int32)), (.int (0 : Int32))] (.int (0 : Int32)) := Arv.set Ar12 q12 S12 Nn12 H12 G12 rfl W12 2 rfl (Nat.le_of_ble_eq_true rfl)
  have Z15 := Nat.le_trans Z11 (Keep.of_wr W12).1
  refine own_st st12 ?_
  show own_G p.tables e below _ (T12.setTop (mkF m 18 #[.val (.int i0), .val (.int i1), .unset, .unset, .unset, .unset, .unset] [(.ref b1)]))
  refine own_st (fun _ k => XS.dup X12.here hx rfl (hb hby at_18) rfl rfl k) ?_
  show own_G p.tables e below _ (T12.setTop (mkF m 19 #[.val (.int i0), .val (.int i1), .unset, .unset, .unset, .unset, .unset] [(.ref b1), (.ref b1)]))
  refine own_st (fun _ k => XS.iconst X12.here hx rfl (hb hby at_19) k) ?_
  show own_G p.tables e below _ (T12.setTop (mkF m 20 #[.val (.int i0), .val (.int i1), .unset, .unset, .unset, .unset, .unset] [(.int (3 : Int32)), (.ref b1), (.ref b1)]))
  refine own_st (fun _ k => XS.bipush X12.here hx rfl (hb hby at_20) k) ?_
  show own_G p.tables e below _ (T12.setTop (mkF m 22 #[.val (.int i0), .val (.int i1), .unset, .unset, .unset, .unset, .unset] [(.int (126 : Int32)), (.int (3 : Int32)), (.ref b1), (.ref b1)]))
  obtain ⟨cl16, Ar16, q16, S16, Nn16, H16, G16⟩ := V13
  have hin16 : ¬ ((3 : Int32) < 0 ∨ cl16.slots.size ≤ ((3 : Int32)).toNatClampNeg) := inb_of S16 ⟨by decide, by decide⟩
  obtain ⟨T16, h16, X16, e16, W16, st16⟩ := stI X12 hx hZ e12 Ar16 (j := (3 : Int32)) hin16 (g := (mkF m 22 #[.val (.int i0), .val (.int i1), .unset, .unset, .unset, .unset, .unset] [(.int (126 : Int32)), (.int (3 : Int32)), (.ref b1), (.ref b1)])) rfl rfl (hb hby at_22)
  have N16 := Fr.snoc X16 N12 ge_b1
  have V17 : Arv Z h16 b1 k1 .int (16 : Int32) [(.int (0 : Int32)), (.int (31 : Int32)), (.int (32 : Int32)), (.int (126 : Int32)), (.int (0 : Int32)), (.int (0 : Int32)), (.int (0 : Int32)), (.int (0 : Int32)), (.int (0 : Int32)), (.int (0 : Int32)), (.int (0 : Int32)), (.int (0 : Int32)), (.int (0 : Int32)), (.int (0 : Int32)), (.int (0 : Int32)), (.int (0 : Int32))] (.int (0 : Int32)) := Arv.set Ar16 q16 S16 Nn16 H16 G16 rfl W16 3 rfl (Nat.le_of_ble_eq_true rfl)
  have Z19 := Nat.le_trans Z15 (Keep.of_wr W16).1
  refine own_st st16 ?_
  show own_G p.tables e below _ (T16.setTop (mkF m 23 #[.val (.int i0), .val (.int i1), .unset, .unset, .unset, .unset, .unset] [(.ref b1)]))
  refine own_st (fun _ k => XS.dup X16.here hx rfl (hb hby at_23) rfl rfl k) ?_
  show own_G p.tables e below _ (T16.setTop (mkF m 24 #[.val (.int i0), .val (.int i1), .unset, .unset, .unset, .unset, .unset] [(.ref b1), (.ref b1)]))
  refine own_st (fun _ k => XS.iconst X16.here hx rfl (hb hby at_24) k) ?_
  show own_G p.tables e below _ (T16.setTop (mkF m 25 #[.val (.int i0), .val (.int i1), .unset, .unset, .unset, .unset, .unset] [(.int (4 : Int32)), (.ref b1), (.ref b1)]))
  refine own_st (fun _ k => XS.bipush X16.here hx rfl (hb hby at_25) k) ?_
  show own_G p.tables e below _ (T16.setTop (mkF m 27 #[.val (.int i0), .val (.int i1), .unset, .unset, .unset, .unset, .unset] [(.int (127 : Int32)), (.int (4 : Int32)), (.ref b1), (.ref b1)]))
  obtain ⟨cl20, Ar20, q20, S20, Nn20, H20, G20⟩ := V17
  have hin20 : ¬ ((4 : Int32) < 0 ∨ cl20.slots.size ≤ ((4 : Int32)).toNatClampNeg) := inb_of S20 ⟨by decide, by decide⟩
  obtain ⟨T20, h20, X20, e20, W20, st20⟩ := stI X16 hx hZ e16 Ar20 (j := (4 : Int32)) hin20 (g := (mkF m 27 #[.val (.int i0), .val (.int i1), .unset, .unset, .unset, .unset, .unset] [(.int (127 : Int32)), (.int (4 : Int32)), (.ref b1), (.ref b1)])) rfl rfl (hb hby at_27)
  have N20 := Fr.snoc X20 N16 ge_b1
  have V21 : Arv Z h20 b1 k1 .int (16 : Int32) [(.int (0 : Int32)), (.int (31 : Int32)), (.int (32 : Int32)), (.int (126 : Int32)), (.int (127 : Int32)), (.int (0 : Int32)), (.int (0 : Int32)), (.int (0 : Int32)), (.int (0 : Int32)), (.int (0 : Int32)), (.int (0 : Int32)), (.int (0 : Int32)), (.int (0 : Int32)), (.int (0 : Int32)), (.int (0 : Int32)), (.int (0 : Int32))] (.int (0 : Int32)) := Arv.set Ar20 q20 S20 Nn20 H20 G20 rfl W20 4 rfl (Nat.le_of_ble_eq_true rfl)
  have Z23 := Nat.le_trans Z19 (Keep.of_wr W20).1
  refine own_st st20 ?_
  show own_G p.tables e below _ (T20.setTop (mkF m 28 #[.val (.int i0), .val (.int i1), .unset, .unset, .unset, .unset, .unset] [(.ref b1)]))
  refine own_st (fun _ k => XS.dup X20.here hx rfl (hb hby at_28) rfl rfl k) ?_
  show own_G p.tables e below _ (T20.setTop (mkF m 29 #[.val (.int i0), .val (.int i1), .unset, .unset, .unset, .unset, .unset] [(.ref b1), (.ref b1)]))
  refine own_st (fun _ k => XS.iconst X20.here hx rfl (hb hby at_29) k) ?_
  show own_G p.tables e below _ (T20.setTop (mkF m 30 #[.val (.int i0), .val (.int i1), .unset, .unset, .unset, .unset, .unset] [(.int (5 : Int32)), (.ref b1), (.ref b1)]))
  refine own_st (fun _ k => XS.sipush X20.here hx rfl (hb hby at_30) k) ?_
  show own_G p.tables e below _ (T20.setTop (mkF m 33 #[.val (.int i0), .val (.int i1), .unset, .unset, .unset, .unset, .unset] [(.int (159 : Int32)), (.int (5 : Int32)), (.ref b1), (.ref b1)]))
  obtain ⟨cl24, Ar24, q24, S24, Nn24, H24, G24⟩ := V21
  have hin24 : ¬ ((5 : Int32) < 0 ∨ cl24.slots.size ≤ ((5 : Int32)).toNatClampNeg) := inb_of S24 ⟨by decide, by decide⟩
  obtain ⟨T24, h24, X24, e24, W24, st24⟩ := stI X20 hx hZ e20 Ar24 (j := (5 : Int32)) hin24 (g := (mkF m 33 #[.val (.int i0), .val (.int i1), .unset, .unset, .unset, .unset, .unset] [(.int (159 : Int32)), (.int (5 : Int32)), (.ref b1), (.ref b1)])) rfl rfl (hb hby at_33)
  have N24 := Fr.snoc X24 N20 ge_b1
  have V25 : Arv Z h24 b1 k1 .int (16 : Int32) [(.int (0 : Int32)), (.int (31 : Int32)), (.int (32 : Int32)), (.int (126 : Int32)), (.int (127 : Int32)), (.int (159 : Int32)), (.int (0 : Int32)), (.int (0 : Int32)), (.int (0 : Int32)), (.int (0 : Int32)), (.int (0 : Int32)), (.int (0 : Int32)), (.int (0 : Int32)), (.int (0 : Int32)), (.int (0 : Int32)), (.int (0 : Int32))] (.int (0 : Int32)) := Arv.set Ar24 q24 S24 Nn24 H24 G24 rfl W24 5 rfl (Nat.le_of_ble_eq_true rfl)
  have Z27 := Nat.le_trans Z23 (Keep.of_wr W24).1
  refine own_st st24 ?_
  show own_G p.tables e below _ (T24.setTop (mkF m 34 #[.val (.int i0), .val (.int i1), .unset, .unset, .unset, .unset, .unset] [(.ref b1)]))
  refine own_st (fun _ k => XS.dup X24.here hx rfl (hb hby at_34) rfl rfl k) ?_
  show own_G p.tables e below _ (T24.setTop (mkF m 35 #[.val (.int i0), .val (.int i1), .unset, .unset, .unset, .unset, .unset] [(.ref b1), (.ref b1)]))
  refine own_st (fun _ k => XS.bipush X24.here hx rfl (hb hby at_35) k) ?_
  show own_G p.tables e below _ (T24.setTop (mkF m 37 #[.val (.int i0), .val (.int i1), .unset, .unset, .unset, .unset, .unset] [(.int (6 : Int32)), (.ref b1), (.ref b1)]))
  refine own_st (fun _ k => XS.sipush X24.here hx rfl (hb hby at_37) k) ?_
  show own_G p.tables e below _ (T24.setTop (mkF m 40 #[.val (.int i0), .val (.int i1), .unset, .unset, .unset, .unset, .unset] [(.int (160 : Int32)), (.int (6 : Int32)), (.ref b1), (.ref b1)]))
  obtain ⟨cl28, Ar28, q28, S28, Nn28, H28, G28⟩ := V25
  have hin28 : ¬ ((6 : Int32) < 0 ∨ cl28.slots.size ≤ ((6 : Int32)).toNatClampNeg) := inb_of S28 ⟨by decide, by decide⟩
  obtain ⟨T28, h28, X28, e28, W28, st28⟩ := stI X24 hx hZ e24 Ar28 (j := (6 : Int32)) hin28 (g := (mkF m 40 #[.val (.int i0), .val (.int i1), .unset, .unset, .unset, .unset, .unset] [(.int (160 : Int32)), (.int (6 : Int32)), (.ref b1), (.ref b1)])) rfl rfl (hb hby at_40)
  have N28 := Fr.snoc X28 N24 ge_b1
  have V29 : Arv Z h28 b1 k1 .int (16 : Int32) [(.int (0 : Int32)), (.int (31 : Int32)), (.int (32 : Int32)), (.int (126 : Int32)), (.int (127 : Int32)), (.int (159 : Int32)), (.int (160 : Int32)), (.int (0 : Int32)), (.int (0 : Int32)), (.int (0 : Int32)), (.int (0 : Int32)), (.int (0 : Int32)), (.int (0 : Int32)), (.int (0 : Int32)), (.int (0 : Int32)), (.int (0 : Int32))] (.int (0 : Int32)) := Arv.set Ar28 q28 S28 Nn28 H28 G28 rfl W28 6 rfl (Nat.le_of_ble_eq_true rfl)
  have Z31 := Nat.le_trans Z27 (Keep.of_wr W28).1
  refine own_st st28 ?_
  show own_G p.tables e below _ (T28.setTop (mkF m 41 #[.val (.int i0), .val (.int i1), .unset, .unset, .unset, .unset, .unset] [(.ref b1)]))
  refine own_st (fun _ k => XS.dup X28.here hx rfl (hb hby at_41) rfl rfl k) ?_
  show own_G p.tables e below _ (T28.setTop (mkF m 42 #[.val (.int i0), .val (.int i1), .unset, .unset, .unset, .unset, .unset] [(.ref b1), (.ref b1)]))
  refine own_st (fun _ k => XS.bipush X28.here hx rfl (hb hby at_42) k) ?_
  show own_G p.tables e below _ (T28.setTop (mkF m 44 #[.val (.int i0), .val (.int i1), .unset, .unset, .unset, .unset, .unset] [(.int (7 : Int32)), (.ref b1), (.ref b1)]))
  refine own_st (X28.ldcInt hx hown (mvT hZ (hw _ (List.mem_of_getElem? (i := 1) rfl))) (g := (mkF m 44 #[.val (.int i0), .val (.int i1), .unset, .unset, .unset, .unset, .unset] [(.int (7 : Int32)), (.ref b1), (.ref b1)])) rfl (hb hby at_44)) ?_
  show own_G p.tables e below _ (T28.setTop (mkF m 46 #[.val (.int i0), .val (.int i1), .unset, .unset, .unset, .unset, .unset] [(.int (55295 : Int32)), (.int (7 : Int32)), (.ref b1), (.ref b1)]))
  obtain ⟨cl32, Ar32, q32, S32, Nn32, H32, G32⟩ := V29
  have hin32 : ¬ ((7 : Int32) < 0 ∨ cl32.slots.size ≤ ((7 : Int32)).toNatClampNeg) := inb_of S32 ⟨by decide, by decide⟩
  obtain ⟨T32, h32, X32, e32, W32, st32⟩ := stI X28 hx hZ e28 Ar32 (j := (7 : Int32)) hin32 (g := (mkF m 46 #[.val (.int i0), .val (.int i1), .unset, .unset, .unset, .unset, .unset] [(.int (55295 : Int32)), (.int (7 : Int32)), (.ref b1), (.ref b1)])) rfl rfl (hb hby at_46)
  have N32 := Fr.snoc X32 N28 ge_b1
  have V33 : Arv Z h32 b1 k1 .int (16 : Int32) [(.int (0 : Int32)), (.int (31 : Int32)), (.int (32 : Int32)), (.int (126 : Int32)), (.int (127 : Int32)), (.int (159 : Int32)), (.int (160 : Int32)), (.int (55295 : Int32)), (.int (0 : Int32)), (.int (0 : Int32)), (.int (0 : Int32)), (.int (0 : Int32)), (.int (0 : Int32)), (.int (0 : Int32)), (.int (0 : Int32)), (.int (0 : Int32))] (.int (0 : Int32)) := Arv.set Ar32 q32 S32 Nn32 H32 G32 rfl W32 7 rfl (Nat.le_of_ble_eq_true rfl)
  have Z35 := Nat.le_trans Z31 (Keep.of_wr W32).1
  refine own_st st32 ?_
  show own_G p.tables e below _ (T32.setTop (mkF m 47 #[.val (.int i0), .val (.int i1), .unset, .unset, .unset, .unset, .unset] [(.ref b1)]))
  refine own_st (fun _ k => XS.dup X32.here hx rfl (hb hby at_47) rfl rfl k) ?_
  show own_G p.tables e below _ (T32.setTop (mkF m 48 #[.val (.int i0), .val (.int i1), .unset, .unset, .unset, .unset, .unset] [(.ref b1), (.ref b1)]))
  refine own_st (fun _ k => XS.bipush X32.here hx rfl (hb hby at_48) k) ?_
  show own_G p.tables e below _ (T32.setTop (mkF m 50 #[.val (.int i0), .val (.int i1), .unset, .unset, .unset, .unset, .unset] [(.int (8 : Int32)), (.ref b1), (.ref b1)]))
  refine own_st (X32.ldcInt hx hown (mvT hZ (hw _ (List.mem_of_getElem? (i := 2) rfl))) (g := (mkF m 50 #[.val (.int i0), .val (.int i1), .unset, .unset, .unset, .unset, .unset] [(.int (8 : Int32)), (.ref b1), (.ref b1)])) rfl (hb hby at_50)) ?_
  show own_G p.tables e below _ (T32.setTop (mkF m 52 #[.val (.int i0), .val (.int i1), .unset, .unset, .unset, .unset, .unset] [(.int (55296 : Int32)), (.int (8 : Int32)), (.ref b1), (.ref b1)]))
  obtain ⟨cl36, Ar36, q36, S36, Nn36, H36, G36⟩ := V33
  have hin36 : ¬ ((8 : Int32) < 0 ∨ cl36.slots.size ≤ ((8 : Int32)).toNatClampNeg) := inb_of S36 ⟨by decide, by decide⟩
  obtain ⟨T36, h36, X36, e36, W36, st36⟩ := stI X32 hx hZ e32 Ar36 (j := (8 : Int32)) hin36 (g := (mkF m 52 #[.val (.int i0), .val (.int i1), .unset, .unset, .unset, .unset, .unset] [(.int (55296 : Int32)), (.int (8 : Int32)), (.ref b1), (.ref b1)])) rfl rfl (hb hby at_52)
  have N36 := Fr.snoc X36 N32 ge_b1
  have V37 : Arv Z h36 b1 k1 .int (16 : Int32) [(.int (0 : Int32)), (.int (31 : Int32)), (.int (32 : Int32)), (.int (126 : Int32)), (.int (127 : Int32)), (.int (159 : Int32)), (.int (160 : Int32)), (.int (55295 : Int32)), (.int (55296 : Int32)), (.int (0 : Int32)), (.int (0 : Int32)), (.int (0 : Int32)), (.int (0 : Int32)), (.int (0 : Int32)), (.int (0 : Int32)), (.int (0 : Int32))] (.int (0 : Int32)) := Arv.set Ar36 q36 S36 Nn36 H36 G36 rfl W36 8 rfl (Nat.le_of_ble_eq_true rfl)
  have Z39 := Nat.le_trans Z35 (Keep.of_wr W36).1
  refine own_st st36 ?_
  show own_G p.tables e below _ (T36.setTop (mkF m 53 #[.val (.int i0), .val (.int i1), .unset, .unset, .unset, .unset, .unset] [(.ref b1)]))
  refine own_st (fun _ k => XS.dup X36.here hx rfl (hb hby at_53) rfl rfl k) ?_
  show own_G p.tables e below _ (T36.setTop (mkF m 54 #[.val (.int i0), .val (.int i1), .unset, .unset, .unset, .unset, .unset] [(.ref b1), (.ref b1)]))
  refine own_st (fun _ k => XS.bipush X36.here hx rfl (hb hby at_54) k) ?_
  show own_G p.tables e below _ (T36.setTop (mkF m 56 #[.val (.int i0), .val (.int i1), .unset, .unset, .unset, .unset, .unset] [(.int (9 : Int32)), (.ref b1), (.ref b1)]))
  refine own_st (X36.ldcInt hx hown (mvT hZ (hw _ (List.mem_of_getElem? (i := 3) rfl))) (g := (mkF m 56 #[.val (.int i0), .val (.int i1), .unset, .unset, .unset, .unset, .unset] [(.int (9 : Int32)), (.ref b1), (.ref b1)])) rfl (hb hby at_56)) ?_
  show own_G p.tables e below _ (T36.setTop (mkF m 58 #[.val (.int i0), .val (.int i1), .unset, .unset, .unset, .unset, .unset] [(.int (57343 : Int32)), (.int (9 : Int32)), (.ref b1), (.ref b1)]))
  obtain ⟨cl40, Ar40, q40, S40, Nn40, H40, G40⟩ := V37
  have hin40 : ¬ ((9 : Int32) < 0 ∨ cl40.slots.size ≤ ((9 : Int32)).toNatClampNeg) := inb_of S40 ⟨by decide, by decide⟩
  obtain ⟨T40, h40, X40, e40, W40, st40⟩ := stI X36 hx hZ e36 Ar40 (j := (9 : Int32)) hin40 (g := (mkF m 58 #[.val (.int i0), .val (.int i1), .unset, .unset, .unset, .unset, .unset] [(.int (57343 : Int32)), (.int (9 : Int32)), (.ref b1), (.ref b1)])) rfl rfl (hb hby at_58)
  have N40 := Fr.snoc X40 N36 ge_b1
  have V41 : Arv Z h40 b1 k1 .int (16 : Int32) [(.int (0 : Int32)), (.int (31 : Int32)), (.int (32 : Int32)), (.int (126 : Int32)), (.int (127 : Int32)), (.int (159 : Int32)), (.int (160 : Int32)), (.int (55295 : Int32)), (.int (55296 : Int32)), (.int (57343 : Int32)), (.int (0 : Int32)), (.int (0 : Int32)), (.int (0 : Int32)), (.int (0 : Int32)), (.int (0 : Int32)), (.int (0 : Int32))] (.int (0 : Int32)) := Arv.set Ar40 q40 S40 Nn40 H40 G40 rfl W40 9 rfl (Nat.le_of_ble_eq_true rfl)
  have Z43 := Nat.le_trans Z39 (Keep.of_wr W40).1
  refine own_st st40 ?_
  show own_G p.tables e below _ (T40.setTop (mkF m 59 #[.val (.int i0), .val (.int i1), .unset, .unset, .unset, .unset, .unset] [(.ref b1)]))
  refine own_st (fun _ k => XS.dup X40.here hx rfl (hb hby at_59) rfl rfl k) ?_
  show own_G p.tables e below _ (T40.setTop (mkF m 60 #[.val (.int i0), .val (.int i1), .unset, .unset, .unset, .unset, .unset] [(.ref b1), (.ref b1)]))
  refine own_st (fun _ k => XS.bipush X40.here hx rfl (hb hby at_60) k) ?_
  show own_G p.tables e below _ (T40.setTop (mkF m 62 #[.val (.int i0), .val (.int i1), .unset, .unset, .unset, .unset, .unset] [(.int (10 : Int32)), (.ref b1), (.ref b1)]))
  refine own_st (X40.ldcInt hx hown (mvT hZ (hw _ (List.mem_of_getElem? (i := 4) rfl))) (g := (mkF m 62 #[.val (.int i0), .val (.int i1), .unset, .unset, .unset, .unset, .unset] [(.int (10 : Int32)), (.ref b1), (.ref b1)])) rfl (hb hby at_62)) ?_
  show own_G p.tables e below _ (T40.setTop (mkF m 64 #[.val (.int i0), .val (.int i1), .unset, .unset, .unset, .unset, .unset] [(.int (57344 : Int32)), (.int (10 : Int32)), (.ref b1), (.ref b1)]))
  obtain ⟨cl44, Ar44, q44, S44, Nn44, H44, G44⟩ := V41
  have hin44 : ¬ ((10 : Int32) < 0 ∨ cl44.slots.size ≤ ((10 : Int32)).toNatClampNeg) := inb_of S44 ⟨by decide, by decide⟩
  obtain ⟨T44, h44, X44, e44, W44, st44⟩ := stI X40 hx hZ e40 Ar44 (j := (10 : Int32)) hin44 (g := (mkF m 64 #[.val (.int i0), .val (.int i1), .unset, .unset, .unset, .unset, .unset] [(.int (57344 : Int32)), (.int (10 : Int32)), (.ref b1), (.ref b1)])) rfl rfl (hb hby at_64)
  have N44 := Fr.snoc X44 N40 ge_b1
  have V45 : Arv Z h44 b1 k1 .int (16 : Int32) [(.int (0 : Int32)), (.int (31 : Int32)), (.int (32 : Int32)), (.int (126 : Int32)), (.int (127 : Int32)), (.int (159 : Int32)), (.int (160 : Int32)), (.int (55295 : Int32)), (.int (55296 : Int32)), (.int (57343 : Int32)), (.int (57344 : Int32)), (.int (0 : Int32)), (.int (0 : Int32)), (.int (0 : Int32)), (.int (0 : Int32)), (.int (0 : Int32))] (.int (0 : Int32)) := Arv.set Ar44 q44 S44 Nn44 H44 G44 rfl W44 10 rfl (Nat.le_of_ble_eq_true rfl)
  have Z47 := Nat.le_trans Z43 (Keep.of_wr W44).1
  refine own_st st44 ?_
  show own_G p.tables e below _ (T44.setTop (mkF m 65 #[.val (.int i0), .val (.int i1), .unset, .unset, .unset, .unset, .unset] [(.ref b1)]))
  refine own_st (fun _ k => XS.dup X44.here hx rfl (hb hby at_65) rfl rfl k) ?_
  show own_G p.tables e below _ (T44.setTop (mkF m 66 #[.val (.int i0), .val (.int i1), .unset, .unset, .unset, .unset, .unset] [(.ref b1), (.ref b1)]))
  refine own_st (fun _ k => XS.bipush X44.here hx rfl (hb hby at_66) k) ?_
  show own_G p.tables e below _ (T44.setTop (mkF m 68 #[.val (.int i0), .val (.int i1), .unset, .unset, .unset, .unset, .unset] [(.int (11 : Int32)), (.ref b1), (.ref b1)]))
  refine own_st (X44.ldcInt hx hown (mvT hZ (hw _ (List.mem_of_getElem? (i := 5) rfl))) (g := (mkF m 68 #[.val (.int i0), .val (.int i1), .unset, .unset, .unset, .unset, .unset] [(.int (11 : Int32)), (.ref b1), (.ref b1)])) rfl (hb hby at_68)) ?_
  show own_G p.tables e below _ (T44.setTop (mkF m 70 #[.val (.int i0), .val (.int i1), .unset, .unset, .unset, .unset, .unset] [(.int (65533 : Int32)), (.int (11 : Int32)), (.ref b1), (.ref b1)]))
  obtain ⟨cl48, Ar48, q48, S48, Nn48, H48, G48⟩ := V45
  have hin48 : ¬ ((11 : Int32) < 0 ∨ cl48.slots.size ≤ ((11 : Int32)).toNatClampNeg) := inb_of S48 ⟨by decide, by decide⟩
  obtain ⟨T48, h48, X48, e48, W48, st48⟩ := stI X44 hx hZ e44 Ar48 (j := (11 : Int32)) hin48 (g := (mkF m 70 #[.val (.int i0), .val (.int i1), .unset, .unset, .unset, .unset, .unset] [(.int (65533 : Int32)), (.int (11 : Int32)), (.ref b1), (.ref b1)])) rfl rfl (hb hby at_70)
  have N48 := Fr.snoc X48 N44 ge_b1
  have V49 : Arv Z h48 b1 k1 .int (16 : Int32) [(.int (0 : Int32)), (.int (31 : Int32)), (.int (32 : Int32)), (.int (126 : Int32)), (.int (127 : Int32)), (.int (159 : Int32)), (.int (160 : Int32)), (.int (55295 : Int32)), (.int (55296 : Int32)), (.int (57343 : Int32)), (.int (57344 : Int32)), (.int (65533 : Int32)), (.int (0 : Int32)), (.int (0 : Int32)), (.int (0 : Int32)), (.int (0 : Int32))] (.int (0 : Int32)) := Arv.set Ar48 q48 S48 Nn48 H48 G48 rfl W48 11 rfl (Nat.le_of_ble_eq_true rfl)
  have Z51 := Nat.le_trans Z47 (Keep.of_wr W48).1
  refine own_st st48 ?_
  show own_G p.tables e below _ (T48.setTop (mkF m 71 #[.val (.int i0), .val (.int i1), .unset, .unset, .unset, .unset, .unset] [(.ref b1)]))
  refine own_st (fun _ k => XS.dup X48.here hx rfl (hb hby at_71) rfl rfl k) ?_
  show own_G p.tables e below _ (T48.setTop (mkF m 72 #[.val (.int i0), .val (.int i1), .unset, .unset, .unset, .unset, .unset] [(.ref b1), (.ref b1)]))
  refine own_st (fun _ k => XS.bipush X48.here hx rfl (hb hby at_72) k) ?_
  show own_G p.tables e below _ (T48.setTop (mkF m 74 #[.val (.int i0), .val (.int i1), .unset, .unset, .unset, .unset, .unset] [(.int (12 : Int32)), (.ref b1), (.ref b1)]))
  refine own_st (X48.ldcInt hx hown (mvT hZ (hw _ (List.mem_of_getElem? (i := 6) rfl))) (g := (mkF m 74 #[.val (.int i0), .val (.int i1), .unset, .unset, .unset, .unset, .unset] [(.int (12 : Int32)), (.ref b1), (.ref b1)])) rfl (hb hby at_74)) ?_
  show own_G p.tables e below _ (T48.setTop (mkF m 76 #[.val (.int i0), .val (.int i1), .unset, .unset, .unset, .unset, .unset] [(.int (65534 : Int32)), (.int (12 : Int32)), (.ref b1), (.ref b1)]))
  obtain ⟨cl52, Ar52, q52, S52, Nn52, H52, G52⟩ := V49
  have hin52 : ¬ ((12 : Int32) < 0 ∨ cl52.slots.size ≤ ((12 : Int32)).toNatClampNeg) := inb_of S52 ⟨by decide, by decide⟩
  obtain ⟨T52, h52, X52, e52, W52, st52⟩ := stI X48 hx hZ e48 Ar52 (j := (12 : Int32)) hin52 (g := (mkF m 76 #[.val (.int i0), .val (.int i1), .unset, .unset, .unset, .unset, .unset] [(.int (65534 : Int32)), (.int (12 : Int32)), (.ref b1), (.ref b1)])) rfl rfl (hb hby at_76)
  have N52 := Fr.snoc X52 N48 ge_b1
  have V53 : Arv Z h52 b1 k1 .int (16 : Int32) [(.int (0 : Int32)), (.int (31 : Int32)), (.int (32 : Int32)), (.int (126 : Int32)), (.int (127 : Int32)), (.int (159 : Int32)), (.int (160 : Int32)), (.int (55295 : Int32)), (.int (55296 : Int32)), (.int (57343 : Int32)), (.int (57344 : Int32)), (.int (65533 : Int32)), (.int (65534 : Int32)), (.int (0 : Int32)), (.int (0 : Int32)), (.int (0 : Int32))] (.int (0 : Int32)) := Arv.set Ar52 q52 S52 Nn52 H52 G52 rfl W52 12 rfl (Nat.le_of_ble_eq_true rfl)
  have Z55 := Nat.le_trans Z51 (Keep.of_wr W52).1
  refine own_st st52 ?_
  show own_G p.tables e below _ (T52.setTop (mkF m 77 #[.val (.int i0), .val (.int i1), .unset, .unset, .unset, .unset, .unset] [(.ref b1)]))
  refine own_st (fun _ k => XS.dup X52.here hx rfl (hb hby at_77) rfl rfl k) ?_
  show own_G p.tables e below _ (T52.setTop (mkF m 78 #[.val (.int i0), .val (.int i1), .unset, .unset, .unset, .unset, .unset] [(.ref b1), (.ref b1)]))
  refine own_st (fun _ k => XS.bipush X52.here hx rfl (hb hby at_78) k) ?_
  show own_G p.tables e below _ (T52.setTop (mkF m 80 #[.val (.int i0), .val (.int i1), .unset, .unset, .unset, .unset, .unset] [(.int (13 : Int32)), (.ref b1), (.ref b1)]))
  refine own_st (X52.ldcInt hx hown (mvT hZ (hw _ (List.mem_of_getElem? (i := 7) rfl))) (g := (mkF m 80 #[.val (.int i0), .val (.int i1), .unset, .unset, .unset, .unset, .unset] [(.int (13 : Int32)), (.ref b1), (.ref b1)])) rfl (hb hby at_80)) ?_
  show own_G p.tables e below _ (T52.setTop (mkF m 82 #[.val (.int i0), .val (.int i1), .unset, .unset, .unset, .unset, .unset] [(.int (65535 : Int32)), (.int (13 : Int32)), (.ref b1), (.ref b1)]))
  obtain ⟨cl56, Ar56, q56, S56, Nn56, H56, G56⟩ := V53
  have hin56 : ¬ ((13 : Int32) < 0 ∨ cl56.slots.size ≤ ((13 : Int32)).toNatClampNeg) := inb_of S56 ⟨by decide, by decide⟩
  obtain ⟨T56, h56, X56, e56, W56, st56⟩ := stI X52 hx hZ e52 Ar56 (j := (13 : Int32)) hin56 (g := (mkF m 82 #[.val (.int i0), .val (.int i1), .unset, .unset, .unset, .unset, .unset] [(.int (65535 : Int32)), (.int (13 : Int32)), (.ref b1), (.ref b1)])) rfl rfl (hb hby at_82)
  have N56 := Fr.snoc X56 N52 ge_b1
  have V57 : Arv Z h56 b1 k1 .int (16 : Int32) [(.int (0 : Int32)), (.int (31 : Int32)), (.int (32 : Int32)), (.int (126 : Int32)), (.int (127 : Int32)), (.int (159 : Int32)), (.int (160 : Int32)), (.int (55295 : Int32)), (.int (55296 : Int32)), (.int (57343 : Int32)), (.int (57344 : Int32)), (.int (65533 : Int32)), (.int (65534 : Int32)), (.int (65535 : Int32)), (.int (0 : Int32)), (.int (0 : Int32))] (.int (0 : Int32)) := Arv.set Ar56 q56 S56 Nn56 H56 G56 rfl W56 13 rfl (Nat.le_of_ble_eq_true rfl)
  have Z59 := Nat.le_trans Z55 (Keep.of_wr W56).1
  refine own_st st56 ?_
  show own_G p.tables e below _ (T56.setTop (mkF m 83 #[.val (.int i0), .val (.int i1), .unset, .unset, .unset, .unset, .unset] [(.ref b1)]))
  refine own_st (fun _ k => XS.dup X56.here hx rfl (hb hby at_83) rfl rfl k) ?_
  show own_G p.tables e below _ (T56.setTop (mkF m 84 #[.val (.int i0), .val (.int i1), .unset, .unset, .unset, .unset, .unset] [(.ref b1), (.ref b1)]))
  refine own_st (fun _ k => XS.bipush X56.here hx rfl (hb hby at_84) k) ?_
  show own_G p.tables e below _ (T56.setTop (mkF m 86 #[.val (.int i0), .val (.int i1), .unset, .unset, .unset, .unset, .unset] [(.int (14 : Int32)), (.ref b1), (.ref b1)]))
  refine own_st (X56.ldcInt hx hown (mvT hZ (hw _ (List.mem_of_getElem? (i := 8) rfl))) (g := (mkF m 86 #[.val (.int i0), .val (.int i1), .unset, .unset, .unset, .unset, .unset] [(.int (14 : Int32)), (.ref b1), (.ref b1)])) rfl (hb hby at_86)) ?_
  show own_G p.tables e below _ (T56.setTop (mkF m 88 #[.val (.int i0), .val (.int i1), .unset, .unset, .unset, .unset, .unset] [(.int (65536 : Int32)), (.int (14 : Int32)), (.ref b1), (.ref b1)]))
  obtain ⟨cl60, Ar60, q60, S60, Nn60, H60, G60⟩ := V57
  have hin60 : ¬ ((14 : Int32) < 0 ∨ cl60.slots.size ≤ ((14 : Int32)).toNatClampNeg) := inb_of S60 ⟨by decide, by decide⟩
  obtain ⟨T60, h60, X60, e60, W60, st60⟩ := stI X56 hx hZ e56 Ar60 (j := (14 : Int32)) hin60 (g := (mkF m 88 #[.val (.int i0), .val (.int i1), .unset, .unset, .unset, .unset, .unset] [(.int (65536 : Int32)), (.int (14 : Int32)), (.ref b1), (.ref b1)])) rfl rfl (hb hby at_88)
  have N60 := Fr.snoc X60 N56 ge_b1
  have V61 : Arv Z h60 b1 k1 .int (16 : Int32) [(.int (0 : Int32)), (.int (31 : Int32)), (.int (32 : Int32)), (.int (126 : Int32)), (.int (127 : Int32)), (.int (159 : Int32)), (.int (160 : Int32)), (.int (55295 : Int32)), (.int (55296 : Int32)), (.int (57343 : Int32)), (.int (57344 : Int32)), (.int (65533 : Int32)), (.int (65534 : Int32)), (.int (65535 : Int32)), (.int (65536 : Int32)), (.int (0 : Int32))] (.int (0 : Int32)) := Arv.set Ar60 q60 S60 Nn60 H60 G60 rfl W60 14 rfl (Nat.le_of_ble_eq_true rfl)
  have Z63 := Nat.le_trans Z59 (Keep.of_wr W60).1
  refine own_st st60 ?_
  show own_G p.tables e below _ (T60.setTop (mkF m 89 #[.val (.int i0), .val (.int i1), .unset, .unset, .unset, .unset, .unset] [(.ref b1)]))
  refine own_st (fun _ k => XS.dup X60.here hx rfl (hb hby at_89) rfl rfl k) ?_
  show own_G p.tables e below _ (T60.setTop (mkF m 90 #[.val (.int i0), .val (.int i1), .unset, .unset, .unset, .unset, .unset] [(.ref b1), (.ref b1)]))
  refine own_st (fun _ k => XS.bipush X60.here hx rfl (hb hby at_90) k) ?_
  show own_G p.tables e below _ (T60.setTop (mkF m 92 #[.val (.int i0), .val (.int i1), .unset, .unset, .unset, .unset, .unset] [(.int (15 : Int32)), (.ref b1), (.ref b1)]))
  refine own_st (X60.ldcInt hx hown (mvT hZ (hw _ (List.mem_of_getElem? (i := 9) rfl))) (g := (mkF m 92 #[.val (.int i0), .val (.int i1), .unset, .unset, .unset, .unset, .unset] [(.int (15 : Int32)), (.ref b1), (.ref b1)])) rfl (hb hby at_92)) ?_
  show own_G p.tables e below _ (T60.setTop (mkF m 94 #[.val (.int i0), .val (.int i1), .unset, .unset, .unset, .unset, .unset] [(.int (1114111 : Int32)), (.int (15 : Int32)), (.ref b1), (.ref b1)]))
  obtain ⟨cl64, Ar64, q64, S64, Nn64, H64, G64⟩ := V61
  have hin64 : ¬ ((15 : Int32) < 0 ∨ cl64.slots.size ≤ ((15 : Int32)).toNatClampNeg) := inb_of S64 ⟨by decide, by decide⟩
  obtain ⟨T64, h64, X64, e64, W64, st64⟩ := stI X60 hx hZ e60 Ar64 (j := (15 : Int32)) hin64 (g := (mkF m 94 #[.val (.int i0), .val (.int i1), .unset, .unset, .unset, .unset, .unset] [(.int (1114111 : Int32)), (.int (15 : Int32)), (.ref b1), (.ref b1)])) rfl rfl (hb hby at_94)
  have N64 := Fr.snoc X64 N60 ge_b1
  have V65 : Arv Z h64 b1 k1 .int (16 : Int32) [(.int (0 : Int32)), (.int (31 : Int32)), (.int (32 : Int32)), (.int (126 : Int32)), (.int (127 : Int32)), (.int (159 : Int32)), (.int (160 : Int32)), (.int (55295 : Int32)), (.int (55296 : Int32)), (.int (57343 : Int32)), (.int (57344 : Int32)), (.int (65533 : Int32)), (.int (65534 : Int32)), (.int (65535 : Int32)), (.int (65536 : Int32)), (.int (1114111 : Int32))] (.int (0 : Int32)) := Arv.set Ar64 q64 S64 Nn64 H64 G64 rfl W64 15 rfl (Nat.le_of_ble_eq_true rfl)
  have Z67 := Nat.le_trans Z63 (Keep.of_wr W64).1
  refine own_st st64 ?_
  show own_G p.tables e below _ (T64.setTop (mkF m 95 #[.val (.int i0), .val (.int i1), .unset, .unset, .unset, .unset, .unset] [(.ref b1)]))
  refine own_st (fun _ k => XS.astoreN X64.here hx rfl (hb hby at_95) rfl rfl (l' := #[.val (.int i0), .val (.int i1), .val (.ref b1), .unset, .unset, .unset, .unset]) rfl k) ?_
  show own_G p.tables e below _ (T64.setTop (mkF m 96 #[.val (.int i0), .val (.int i1), .val (.ref b1), .unset, .unset, .unset, .unset] []))
  refine own_st (fun _ k => XS.iloadN X64.here hx rfl (hb hby at_96) rfl k) ?_
  show own_G p.tables e below _ (T64.setTop (mkF m 97 #[.val (.int i0), .val (.int i1), .val (.ref b1), .unset, .unset, .unset, .unset] [(.int i1)]))
  refine own_st (fun _ k => XS.iconst X64.here hx rfl (hb hby at_97) k) ?_
  show own_G p.tables e below _ (T64.setTop (mkF m 98 #[.val (.int i0), .val (.int i1), .val (.ref b1), .unset, .unset, .unset, .unset] [(.int (1 : Int32)), (.int i1)]))
  refine own_st (fun _ k => XS.iand X64.here hx rfl (hb hby at_98) rfl k) ?_
  show own_G p.tables e below _ (T64.setTop (mkF m 99 #[.val (.int i0), .val (.int i1), .val (.ref b1), .unset, .unset, .unset, .unset] [(.int (i1 &&& (1 : Int32)))]))
  have J131_69 : ∀ (z70 : Int32), own_G p.tables e below (own_P s (Q0 n0) 16 128) (T64.setTop (mkF m 131 #[.val (.int i0), .val (.int i1), .val (.ref b1), .val (.int z70), .unset, .unset, .unset] [])) := by
    intro z70
    refine own_st (fun _ k => XS.iloadN X64.here hx rfl (hb hby at_131) rfl k) ?_
    show own_G p.tables e below _ (T64.setTop (mkF m 132 #[.val (.int i0), .val (.int i1), .val (.ref b1), .val (.int z70), .unset, .unset, .unset] [(.int z70)]))
    by_cases hc132_71 : z70 < (0 : Int32)
    · refine own_st (fun _ k => XS.ifYes X64.here hx rfl (pc0 := 132) (pc' := 141) rfl (hb hby at_132) rfl ((if0 _ _).trans (tlt hc132_71).1) (by decide) (by decide) k) ?_
      show own_G p.tables e below _ (T64.setTop (mkF m 141 #[.val (.int i0), .val (.int i1), .val (.ref b1), .val (.int z70), .unset, .unset, .unset] []))
      refine own_st (fun _ k => XS.iconst X64.here hx rfl (hb hby at_141) k) ?_
      show own_G p.tables e below _ (T64.setTop (mkF m 142 #[.val (.int i0), .val (.int i1), .val (.ref b1), .val (.int z70), .unset, .unset, .unset] [(.int (1 : Int32))]))
      exact own_retZ X64 hx hlk Bd.returns (hb hby at_142) (by decide) ⟨rfl, N64⟩ (by decide) (by decide)
    · refine own_st (fun _ k => XS.ifNo X64.here hx rfl (hb hby at_132) rfl ((if0 _ _).trans (flt hc132_71).1) k) ?_
      show own_G p.tables e below _ (T64.setTop (mkF m 135 #[.val (.int i0), .val (.int i1), .val (.ref b1), .val (.int z70), .unset, .unset, .unset] []))
      refine own_st (fun _ k => XS.iloadN X64.here hx rfl (hb hby at_135) rfl k) ?_
      show own_G p.tables e below _ (T64.setTop (mkF m 136 #[.val (.int i0), .val (.int i1), .val (.ref b1), .val (.int z70), .unset, .unset, .unset] [(.int z70)]))
      refine own_st (X64.ldcInt hx hown (mvT hZ (hw _ (List.mem_of_getElem? (i := 9) rfl))) (g := (mkF m 136 #[.val (.int i0), .val (.int i1), .val (.ref b1), .val (.int z70), .unset, .unset, .unset] [(.int z70)])) rfl (hb hby at_136)) ?_
      show own_G p.tables e below _ (T64.setTop (mkF m 138 #[.val (.int i0), .val (.int i1), .val (.ref b1), .val (.int z70), .unset, .unset, .unset] [(.int (1114111 : Int32)), (.int z70)]))
      by_cases hc138_72 : (1114111 : Int32) < z70
      · refine own_st (fun _ k => XS.icmpNo X64.here hx rfl (hb hby at_138) rfl (tlt hc138_72).2.2.2 k) ?_
        show own_G p.tables e below _ (T64.setTop (mkF m 141 #[.val (.int i0), .val (.int i1), .val (.ref b1), .val (.int z70), .unset, .unset, .unset] []))
        refine own_st (fun _ k => XS.iconst X64.here hx rfl (hb hby at_141) k) ?_
        show own_G p.tables e below _ (T64.setTop (mkF m 142 #[.val (.int i0), .val (.int i1), .val (.ref b1), .val (.int z70), .unset, .unset, .unset] [(.int (1 : Int32))]))
        exact own_retZ X64 hx hlk Bd.returns (hb hby at_142) (by decide) ⟨rfl, N64⟩ (by decide) (by decide)
      · refine own_st (fun _ k => XS.icmpYes X64.here hx rfl (pc0 := 138) (pc' := 143) rfl (hb hby at_138) rfl (flt hc138_72).2.2.2 (by decide) (by decide) k) ?_
        show own_G p.tables e below _ (T64.setTop (mkF m 143 #[.val (.int i0), .val (.int i1), .val (.ref b1), .val (.int z70), .unset, .unset, .unset] []))
        refine own_st (fun _ k => XS.iloadN X64.here hx rfl (hb hby at_143) rfl k) ?_
        show own_G p.tables e below _ (T64.setTop (mkF m 144 #[.val (.int i0), .val (.int i1), .val (.ref b1), .val (.int z70), .unset, .unset, .unset] [(.int z70)]))
        refine own_st (fun _ k => XS.ifNo X64.here hx rfl (hb hby at_144) rfl ((if0 _ _).trans (flt hc132_71).1) k) ?_
        show own_G p.tables e below _ (T64.setTop (mkF m 147 #[.val (.int i0), .val (.int i1), .val (.ref b1), .val (.int z70), .unset, .unset, .unset] []))
        refine own_st (fun _ k => XS.iloadN X64.here hx rfl (hb hby at_147) rfl k) ?_
        show own_G p.tables e below _ (T64.setTop (mkF m 148 #[.val (.int i0), .val (.int i1), .val (.ref b1), .val (.int z70), .unset, .unset, .unset] [(.int z70)]))
        refine own_st (fun _ k => XS.bipush X64.here hx rfl (hb hby at_148) k) ?_
        show own_G p.tables e below _ (T64.setTop (mkF m 150 #[.val (.int i0), .val (.int i1), .val (.ref b1), .val (.int z70), .unset, .unset, .unset] [(.int (31 : Int32)), (.int z70)]))
        have J171_74 : ∀ (z75 : Int32) (hz75 : z75 = (own_b (¬ ((31 : Int32) < z70) ∨ (¬ (z70 < (127 : Int32)) ∧ (¬ ((159 : Int32) < z70)))))), own_G p.tables e below (own_P s (Q0 n0) 16 128) (T64.setTop (mkF m 171 #[.val (.int i0), .val (.int i1), .val (.ref b1), .val (.int z70), .unset, .unset, .unset] [(.int z75)])) := by
          intro z75 hz75
          refine own_st (fun _ k => XS.istore X64.here hx rfl (hb hby at_171) rfl (l' := #[.val (.int i0), .val (.int i1), .val (.ref b1), .val (.int z70), .val (.int z75), .unset, .unset]) rfl k) ?_
          show own_G p.tables e below _ (T64.setTop (mkF m 173 #[.val (.int i0), .val (.int i1), .val (.ref b1), .val (.int z70), .val (.int z75), .unset, .unset] []))
          refine own_st (fun _ k => XS.iloadN X64.here hx rfl (hb hby at_173) rfl k) ?_
          show own_G p.tables e below _ (T64.setTop (mkF m 174 #[.val (.int i0), .val (.int i1), .val (.ref b1), .val (.int z70), .val (.int z75), .unset, .unset] [(.int z70)]))
          refine own_st (X64.ldcInt hx hown (mvT hZ (hw _ (List.mem_of_getElem? (i := 2) rfl))) (g := (mkF m 174 #[.val (.int i0), .val (.int i1), .val (.ref b1), .val (.int z70), .val (.int z75), .unset, .unset] [(.int z70)])) rfl (hb hby at_174)) ?_
          show own_G p.tables e below _ (T64.setTop (mkF m 176 #[.val (.int i0), .val (.int i1), .val (.ref b1), .val (.int z70), .val (.int z75), .unset, .unset] [(.int (55296 : Int32)), (.int z70)]))
          have J190_77 : ∀ (z78 : Int32) (hz78 : z78 = (own_b (¬ (z70 < (55296 : Int32)) ∧ (¬ ((57343 : Int32) < z70))))), own_G p.tables e below (own_P s (Q0 n0) 16 128) (T64.setTop (mkF m 190 #[.val (.int i0), .val (.int i1), .val (.ref b1), .val (.int z70), .val (.int z75), .unset, .unset] [(.int z78)])) := by
            intro z78 hz78
            refine own_st (fun _ k => XS.istore X64.here hx rfl (hb hby at_190) rfl (l' := #[.val (.int i0), .val (.int i1), .val (.ref b1), .val (.int z70), .val (.int z75), .val (.int z78), .unset]) rfl k) ?_
            show own_G p.tables e below _ (T64.setTop (mkF m 192 #[.val (.int i0), .val (.int i1), .val (.ref b1), .val (.int z70), .val (.int z75), .val (.int z78), .unset] []))
            refine own_st (fun _ k => XS.iload X64.here hx rfl (hb hby at_192) rfl k) ?_
            show own_G p.tables e below _ (T64.setTop (mkF m 194 #[.val (.int i0), .val (.int i1), .val (.ref b1), .val (.int z70), .val (.int z75), .val (.int z78), .unset] [(.int z75)]))
            have J219_80 : ∀ (z81 : Int32) (hz81 : z81 = (own_b (¬ (¬ ((31 : Int32) < z70) ∨ (¬ (z70 < (127 : Int32)) ∧ (¬ ((159 : Int32) < z70)))) ∧ (¬ (¬ (z70 < (55296 : Int32)) ∧ (¬ ((57343 : Int32) < z70))) ∧ (¬ (z70 = (65534 : Int32)) ∧ (¬ (z70 = (65535 : Int32)))))))), own_G p.tables e below (own_P s (Q0 n0) 16 128) (T64.setTop (mkF m 219 #[.val (.int i0), .val (.int i1), .val (.ref b1), .val (.int z70), .val (.int z75), .val (.int z78), .unset] [(.int z81)])) := by
              intro z81 hz81
              refine own_st (fun _ k => XS.istore X64.here hx rfl (hb hby at_219) rfl (l' := #[.val (.int i0), .val (.int i1), .val (.ref b1), .val (.int z70), .val (.int z75), .val (.int z78), .val (.int z81)]) rfl k) ?_
              show own_G p.tables e below _ (T64.setTop (mkF m 221 #[.val (.int i0), .val (.int i1), .val (.ref b1), .val (.int z70), .val (.int z75), .val (.int z78), .val (.int z81)] []))
              refine own_st (fun _ k => XS.iloadN X64.here hx rfl (hb hby at_221) rfl k) ?_
              show own_G p.tables e below _ (T64.setTop (mkF m 222 #[.val (.int i0), .val (.int i1), .val (.ref b1), .val (.int z70), .val (.int z75), .val (.int z78), .val (.int z81)] [(.int z70)]))
              obtain ⟨_, _, ⟨T82, L82, k82, n82⟩, -, X82, ⟨Lc82, hQ82, l82, y82, z82⟩, st82⟩ := Jvm.LawKit.callS X64 hx (y := (⟨"com/example/archivolt/archivolt/FileNames", "isPlain", "(I)Z"⟩ : MethodName)) hown (mvT hZ (hw _ (List.mem_of_getElem? (i := 10) rfl))) (mvT hZ (hw _ (List.mem_of_getElem? (i := 11) rfl))) (mvT hZ (hw _ (List.mem_of_getElem? (i := 12) rfl))) (mvT hZ (hw _ (List.mem_of_getElem? (i := 13) rfl))) (by decide) (backOf (W := 0) (rm1 l Z a0 hw [] z70 h64 n0 Z67 ) hZ (hw _ (List.mem_of_getElem? (i := 13) rfl)) (hw _ (List.mem_of_getElem? (i := 12) rfl)) (by decide) (by decide)) (g := (mkF m 222 #[.val (.int i0), .val (.int i1), .val (.ref b1), .val (.int z70), .val (.int z75), .val (.int z78), .val (.int z81)] [(.int z70)])) rfl (by rw [hml]; rfl) (argsL := [(.int z70)]) (rest := []) (lenOf pd_0 rfl) rfl (by show 2 * 0 + _ ≤ _; exact Nat.le_of_eq rfl) (hb hby at_222) (fun _ _ => ⟨rfl, e64, (by decide : 1 + 0 ≤ _), (by decide : 16 + 0 ≤ _)⟩)
              dsimp only [Pt.U, Pt.locs, Pt.cells, Pt.slots] at X82 l82 y82 z82 st82 hQ82
              subst l82 y82 z82
              obtain ⟨⟨r82, rfl, hr82⟩, N82q, e82⟩ := hQ82
              have N82 := Fr.app N64 N82q
              refine own_st st82 ?_
              show own_G p.tables e below _ (T82.setTop (mkF m 225 #[.val (.int i0), .val (.int i1), .val (.ref b1), .val (.int z70), .val (.int z75), .val (.int z78), .val (.int z81)] [(.int r82)]))
              refine own_st (fun _ k => XS.iload X82.here hx rfl (hb hby at_225) rfl k) ?_
              show own_G p.tables e below _ (T82.setTop (mkF m 227 #[.val (.int i0), .val (.int i1), .val (.ref b1), .val (.int z70), .val (.int z75), .val (.int z78), .val (.int z81)] [(.int z81), (.int r82)]))
              have hf83 : r82 = z81 := (hr82.trans ((own_bc (own_iff z70 hc132_71)).trans hz81.symm))
              refine own_st (fun _ k => XS.icmpNo X82.here hx rfl (hb hby at_227) rfl (teq hf83).2 k) ?_
              show own_G p.tables e below _ (T82.setTop (mkF m 230 #[.val (.int i0), .val (.int i1), .val (.ref b1), .val (.int z70), .val (.int z75), .val (.int z78), .val (.int z81)] []))
              refine own_st (fun _ k => XS.iconst X82.here hx rfl (hb hby at_230) k) ?_
              show own_G p.tables e below _ (T82.setTop (mkF m 231 #[.val (.int i0), .val (.int i1), .val (.ref b1), .val (.int z70), .val (.int z75), .val (.int z78), .val (.int z81)] [(.int (1 : Int32))]))
              refine own_st (fun _ k => XS.goto X82.here hx rfl (pc0 := 231) (pc' := 235) rfl (hb hby at_231) (by decide) (by decide) k) ?_
              show own_G p.tables e below _ (T82.setTop (mkF m 235 #[.val (.int i0), .val (.int i1), .val (.ref b1), .val (.int z70), .val (.int z75), .val (.int z78), .val (.int z81)] [(.int (1 : Int32))]))
              exact own_retZ X82 hx hlk Bd.returns (hb hby at_235) (by decide) ⟨rfl, N82⟩ (by decide) (by decide)
            by_cases hc194_79 : ¬ ((31 : Int32) < z70) ∨ (¬ (z70 < (127 : Int32)) ∧ (¬ ((159 : Int32) < z70)))
            · refine own_st (fun _ k => XS.ifYes X64.here hx rfl (pc0 := 194) (pc' := 218) rfl (hb hby at_194) rfl ((if0 _ _).trans (feq (own_b1 hz75 hc194_79)).2) (by decide) (by decide) k) ?_
              show own_G p.tables e below _ (T64.setTop (mkF m 218 #[.val (.int i0), .val (.int i1), .val (.ref b1), .val (.int z70), .val (.int z75), .val (.int z78), .unset] []))
              refine own_st (fun _ k => XS.iconst X64.here hx rfl (hb hby at_218) k) ?_
              show own_G p.tables e below _ (T64.setTop (mkF m 219 #[.val (.int i0), .val (.int i1), .val (.ref b1), .val (.int z70), .val (.int z75), .val (.int z78), .unset] [(.int (0 : Int32))]))
              exact J219_80 (0 : Int32) ((own_bf (fun q => q.1 hc194_79)).symm)
            · refine own_st (fun _ k => XS.ifNo X64.here hx rfl (hb hby at_194) rfl ((if0 _ _).trans (teq (own_b0 hz75 hc194_79)).2) k) ?_
              show own_G p.tables e below _ (T64.setTop (mkF m 197 #[.val (.int i0), .val (.int i1), .val (.ref b1), .val (.int z70), .val (.int z75), .val (.int z78), .unset] []))
              refine own_st (fun _ k => XS.iload X64.here hx rfl (hb hby at_197) rfl k) ?_
              show own_G p.tables e below _ (T64.setTop (mkF m 199 #[.val (.int i0), .val (.int i1), .val (.ref b1), .val (.int z70), .val (.int z75), .val (.int z78), .unset] [(.int z78)]))
              by_cases hc199_84 : ¬ (z70 < (55296 : Int32)) ∧ (¬ ((57343 : Int32) < z70))
              · refine own_st (fun _ k => XS.ifYes X64.here hx rfl (pc0 := 199) (pc' := 218) rfl (hb hby at_199) rfl ((if0 _ _).trans (feq (own_b1 hz78 hc199_84)).2) (by decide) (by decide) k) ?_
                show own_G p.tables e below _ (T64.setTop (mkF m 218 #[.val (.int i0), .val (.int i1), .val (.ref b1), .val (.int z70), .val (.int z75), .val (.int z78), .unset] []))
                refine own_st (fun _ k => XS.iconst X64.here hx rfl (hb hby at_218) k) ?_
                show own_G p.tables e below _ (T64.setTop (mkF m 219 #[.val (.int i0), .val (.int i1), .val (.ref b1), .val (.int z70), .val (.int z75), .val (.int z78), .unset] [(.int (0 : Int32))]))
                exact J219_80 (0 : Int32) ((own_bf (fun q => (fun q => q.1 hc199_84) q.2)).symm)
              · refine own_st (fun _ k => XS.ifNo X64.here hx rfl (hb hby at_199) rfl ((if0 _ _).trans (teq (own_b0 hz78 hc199_84)).2) k) ?_
                show own_G p.tables e below _ (T64.setTop (mkF m 202 #[.val (.int i0), .val (.int i1), .val (.ref b1), .val (.int z70), .val (.int z75), .val (.int z78), .unset] []))
                refine own_st (fun _ k => XS.iloadN X64.here hx rfl (hb hby at_202) rfl k) ?_
                show own_G p.tables e below _ (T64.setTop (mkF m 203 #[.val (.int i0), .val (.int i1), .val (.ref b1), .val (.int z70), .val (.int z75), .val (.int z78), .unset] [(.int z70)]))
                refine own_st (X64.ldcInt hx hown (mvT hZ (hw _ (List.mem_of_getElem? (i := 6) rfl))) (g := (mkF m 203 #[.val (.int i0), .val (.int i1), .val (.ref b1), .val (.int z70), .val (.int z75), .val (.int z78), .unset] [(.int z70)])) rfl (hb hby at_203)) ?_
                show own_G p.tables e below _ (T64.setTop (mkF m 205 #[.val (.int i0), .val (.int i1), .val (.ref b1), .val (.int z70), .val (.int z75), .val (.int z78), .unset] [(.int (65534 : Int32)), (.int z70)]))
                by_cases hc205_85 : z70 = (65534 : Int32)
                · refine own_st (fun _ k => XS.icmpYes X64.here hx rfl (pc0 := 205) (pc' := 218) rfl (hb hby at_205) rfl (teq hc205_85).1 (by decide) (by decide) k) ?_
                  show own_G p.tables e below _ (T64.setTop (mkF m 218 #[.val (.int i0), .val (.int i1), .val (.ref b1), .val (.int z70), .val (.int z75), .val (.int z78), .unset] []))
                  refine own_st (fun _ k => XS.iconst X64.here hx rfl (hb hby at_218) k) ?_
                  show own_G p.tables e below _ (T64.setTop (mkF m 219 #[.val (.int i0), .val (.int i1), .val (.ref b1), .val (.int z70), .val (.int z75), .val (.int z78), .unset] [(.int (0 : Int32))]))
                  exact J219_80 (0 : Int32) ((own_bf (fun q => (fun q => (fun q => q.1 hc205_85) q.2) q.2)).symm)
                · refine own_st (fun _ k => XS.icmpNo X64.here hx rfl (hb hby at_205) rfl (feq hc205_85).1 k) ?_
                  show own_G p.tables e below _ (T64.setTop (mkF m 208 #[.val (.int i0), .val (.int i1), .val (.ref b1), .val (.int z70), .val (.int z75), .val (.int z78), .unset] []))
                  refine own_st (fun _ k => XS.iloadN X64.here hx rfl (hb hby at_208) rfl k) ?_
                  show own_G p.tables e below _ (T64.setTop (mkF m 209 #[.val (.int i0), .val (.int i1), .val (.ref b1), .val (.int z70), .val (.int z75), .val (.int z78), .unset] [(.int z70)]))
                  refine own_st (X64.ldcInt hx hown (mvT hZ (hw _ (List.mem_of_getElem? (i := 7) rfl))) (g := (mkF m 209 #[.val (.int i0), .val (.int i1), .val (.ref b1), .val (.int z70), .val (.int z75), .val (.int z78), .unset] [(.int z70)])) rfl (hb hby at_209)) ?_
                  show own_G p.tables e below _ (T64.setTop (mkF m 211 #[.val (.int i0), .val (.int i1), .val (.ref b1), .val (.int z70), .val (.int z75), .val (.int z78), .unset] [(.int (65535 : Int32)), (.int z70)]))
                  by_cases hc211_86 : z70 = (65535 : Int32)
                  · refine own_st (fun _ k => XS.icmpYes X64.here hx rfl (pc0 := 211) (pc' := 218) rfl (hb hby at_211) rfl (teq hc211_86).1 (by decide) (by decide) k) ?_
                    show own_G p.tables e below _ (T64.setTop (mkF m 218 #[.val (.int i0), .val (.int i1), .val (.ref b1), .val (.int z70), .val (.int z75), .val (.int z78), .unset] []))
                    refine own_st (fun _ k => XS.iconst X64.here hx rfl (hb hby at_218) k) ?_
                    show own_G p.tables e below _ (T64.setTop (mkF m 219 #[.val (.int i0), .val (.int i1), .val (.ref b1), .val (.int z70), .val (.int z75), .val (.int z78), .unset] [(.int (0 : Int32))]))
                    exact J219_80 (0 : Int32) ((own_bf (fun q => (fun q => (fun q => (fun q => q hc211_86) q.2) q.2) q.2)).symm)
                  · refine own_st (fun _ k => XS.icmpNo X64.here hx rfl (hb hby at_211) rfl (feq hc211_86).1 k) ?_
                    show own_G p.tables e below _ (T64.setTop (mkF m 214 #[.val (.int i0), .val (.int i1), .val (.ref b1), .val (.int z70), .val (.int z75), .val (.int z78), .unset] []))
                    refine own_st (fun _ k => XS.iconst X64.here hx rfl (hb hby at_214) k) ?_
                    show own_G p.tables e below _ (T64.setTop (mkF m 215 #[.val (.int i0), .val (.int i1), .val (.ref b1), .val (.int z70), .val (.int z75), .val (.int z78), .unset] [(.int (1 : Int32))]))
                    refine own_st (fun _ k => XS.goto X64.here hx rfl (pc0 := 215) (pc' := 219) rfl (hb hby at_215) (by decide) (by decide) k) ?_
                    show own_G p.tables e below _ (T64.setTop (mkF m 219 #[.val (.int i0), .val (.int i1), .val (.ref b1), .val (.int z70), .val (.int z75), .val (.int z78), .unset] [(.int (1 : Int32))]))
                    exact J219_80 (1 : Int32) ((own_bt ⟨hc194_79, ⟨hc199_84, ⟨hc205_85, hc211_86⟩⟩⟩).symm)
          by_cases hc176_76 : z70 < (55296 : Int32)
          · refine own_st (fun _ k => XS.icmpYes X64.here hx rfl (pc0 := 176) (pc' := 189) rfl (hb hby at_176) rfl (tlt hc176_76).1 (by decide) (by decide) k) ?_
            show own_G p.tables e below _ (T64.setTop (mkF m 189 #[.val (.int i0), .val (.int i1), .val (.ref b1), .val (.int z70), .val (.int z75), .unset, .unset] []))
            refine own_st (fun _ k => XS.iconst X64.here hx rfl (hb hby at_189) k) ?_
            show own_G p.tables e below _ (T64.setTop (mkF m 190 #[.val (.int i0), .val (.int i1), .val (.ref b1), .val (.int z70), .val (.int z75), .unset, .unset] [(.int (0 : Int32))]))
            exact J190_77 (0 : Int32) ((own_bf (fun q => q.1 hc176_76)).symm)
          · refine own_st (fun _ k => XS.icmpNo X64.here hx rfl (hb hby at_176) rfl (flt hc176_76).1 k) ?_
            show own_G p.tables e below _ (T64.setTop (mkF m 179 #[.val (.int i0), .val (.int i1), .val (.ref b1), .val (.int z70), .val (.int z75), .unset, .unset] []))
            refine own_st (fun _ k => XS.iloadN X64.here hx rfl (hb hby at_179) rfl k) ?_
            show own_G p.tables e below _ (T64.setTop (mkF m 180 #[.val (.int i0), .val (.int i1), .val (.ref b1), .val (.int z70), .val (.int z75), .unset, .unset] [(.int z70)]))
            refine own_st (X64.ldcInt hx hown (mvT hZ (hw _ (List.mem_of_getElem? (i := 3) rfl))) (g := (mkF m 180 #[.val (.int i0), .val (.int i1), .val (.ref b1), .val (.int z70), .val (.int z75), .unset, .unset] [(.int z70)])) rfl (hb hby at_180)) ?_
            show own_G p.tables e below _ (T64.setTop (mkF m 182 #[.val (.int i0), .val (.int i1), .val (.ref b1), .val (.int z70), .val (.int z75), .unset, .unset] [(.int (57343 : Int32)), (.int z70)]))
            by_cases hc182_87 : (57343 : Int32) < z70
            · refine own_st (fun _ k => XS.icmpYes X64.here hx rfl (pc0 := 182) (pc' := 189) rfl (hb hby at_182) rfl (tlt hc182_87).2.2.1 (by decide) (by decide) k) ?_
              show own_G p.tables e below _ (T64.setTop (mkF m 189 #[.val (.int i0), .val (.int i1), .val (.ref b1), .val (.int z70), .val (.int z75), .unset, .unset] []))
              refine own_st (fun _ k => XS.iconst X64.here hx rfl (hb hby at_189) k) ?_
              show own_G p.tables e below _ (T64.setTop (mkF m 190 #[.val (.int i0), .val (.int i1), .val (.ref b1), .val (.int z70), .val (.int z75), .unset, .unset] [(.int (0 : Int32))]))
              exact J190_77 (0 : Int32) ((own_bf (fun q => (fun q => q hc182_87) q.2)).symm)
            · refine own_st (fun _ k => XS.icmpNo X64.here hx rfl (hb hby at_182) rfl (flt hc182_87).2.2.1 k) ?_
              show own_G p.tables e below _ (T64.setTop (mkF m 185 #[.val (.int i0), .val (.int i1), .val (.ref b1), .val (.int z70), .val (.int z75), .unset, .unset] []))
              refine own_st (fun _ k => XS.iconst X64.here hx rfl (hb hby at_185) k) ?_
              show own_G p.tables e below _ (T64.setTop (mkF m 186 #[.val (.int i0), .val (.int i1), .val (.ref b1), .val (.int z70), .val (.int z75), .unset, .unset] [(.int (1 : Int32))]))
              refine own_st (fun _ k => XS.goto X64.here hx rfl (pc0 := 186) (pc' := 190) rfl (hb hby at_186) (by decide) (by decide) k) ?_
              show own_G p.tables e below _ (T64.setTop (mkF m 190 #[.val (.int i0), .val (.int i1), .val (.ref b1), .val (.int z70), .val (.int z75), .unset, .unset] [(.int (1 : Int32))]))
              exact J190_77 (1 : Int32) ((own_bt ⟨hc176_76, hc182_87⟩).symm)
        by_cases hc150_73 : (31 : Int32) < z70
        · refine own_st (fun _ k => XS.icmpNo X64.here hx rfl (hb hby at_150) rfl (tlt hc150_73).2.2.2 k) ?_
          show own_G p.tables e below _ (T64.setTop (mkF m 153 #[.val (.int i0), .val (.int i1), .val (.ref b1), .val (.int z70), .unset, .unset, .unset] []))
          refine own_st (fun _ k => XS.iloadN X64.here hx rfl (hb hby at_153) rfl k) ?_
          show own_G p.tables e below _ (T64.setTop (mkF m 154 #[.val (.int i0), .val (.int i1), .val (.ref b1), .val (.int z70), .unset, .unset, .unset] [(.int z70)]))
          refine own_st (fun _ k => XS.bipush X64.here hx rfl (hb hby at_154) k) ?_
          show own_G p.tables e below _ (T64.setTop (mkF m 156 #[.val (.int i0), .val (.int i1), .val (.ref b1), .val (.int z70), .unset, .unset, .unset] [(.int (127 : Int32)), (.int z70)]))
          by_cases hc156_88 : z70 < (127 : Int32)
          · refine own_st (fun _ k => XS.icmpYes X64.here hx rfl (pc0 := 156) (pc' := 170) rfl (hb hby at_156) rfl (tlt hc156_88).1 (by decide) (by decide) k) ?_
            show own_G p.tables e below _ (T64.setTop (mkF m 170 #[.val (.int i0), .val (.int i1), .val (.ref b1), .val (.int z70), .unset, .unset, .unset] []))
            refine own_st (fun _ k => XS.iconst X64.here hx rfl (hb hby at_170) k) ?_
            show own_G p.tables e below _ (T64.setTop (mkF m 171 #[.val (.int i0), .val (.int i1), .val (.ref b1), .val (.int z70), .unset, .unset, .unset] [(.int (0 : Int32))]))
            exact J171_74 (0 : Int32) ((own_bf (fun q => q.elim (fun r => r hc150_73) (fun q => q.1 hc156_88))).symm)
          · refine own_st (fun _ k => XS.icmpNo X64.here hx rfl (hb hby at_156) rfl (flt hc156_88).1 k) ?_
            show own_G p.tables e below _ (T64.setTop (mkF m 159 #[.val (.int i0), .val (.int i1), .val (.ref b1), .val (.int z70), .unset, .unset, .unset] []))
            refine own_st (fun _ k => XS.iloadN X64.here hx rfl (hb hby at_159) rfl k) ?_
            show own_G p.tables e below _ (T64.setTop (mkF m 160 #[.val (.int i0), .val (.int i1), .val (.ref b1), .val (.int z70), .unset, .unset, .unset] [(.int z70)]))
            refine own_st (fun _ k => XS.sipush X64.here hx rfl (hb hby at_160) k) ?_
            show own_G p.tables e below _ (T64.setTop (mkF m 163 #[.val (.int i0), .val (.int i1), .val (.ref b1), .val (.int z70), .unset, .unset, .unset] [(.int (159 : Int32)), (.int z70)]))
            by_cases hc163_89 : (159 : Int32) < z70
            · refine own_st (fun _ k => XS.icmpYes X64.here hx rfl (pc0 := 163) (pc' := 170) rfl (hb hby at_163) rfl (tlt hc163_89).2.2.1 (by decide) (by decide) k) ?_
              show own_G p.tables e below _ (T64.setTop (mkF m 170 #[.val (.int i0), .val (.int i1), .val (.ref b1), .val (.int z70), .unset, .unset, .unset] []))
              refine own_st (fun _ k => XS.iconst X64.here hx rfl (hb hby at_170) k) ?_
              show own_G p.tables e below _ (T64.setTop (mkF m 171 #[.val (.int i0), .val (.int i1), .val (.ref b1), .val (.int z70), .unset, .unset, .unset] [(.int (0 : Int32))]))
              exact J171_74 (0 : Int32) ((own_bf (fun q => q.elim (fun r => r hc150_73) (fun q => (fun q => q hc163_89) q.2))).symm)
            · refine own_st (fun _ k => XS.icmpNo X64.here hx rfl (hb hby at_163) rfl (flt hc163_89).2.2.1 k) ?_
              show own_G p.tables e below _ (T64.setTop (mkF m 166 #[.val (.int i0), .val (.int i1), .val (.ref b1), .val (.int z70), .unset, .unset, .unset] []))
              refine own_st (fun _ k => XS.iconst X64.here hx rfl (hb hby at_166) k) ?_
              show own_G p.tables e below _ (T64.setTop (mkF m 167 #[.val (.int i0), .val (.int i1), .val (.ref b1), .val (.int z70), .unset, .unset, .unset] [(.int (1 : Int32))]))
              refine own_st (fun _ k => XS.goto X64.here hx rfl (pc0 := 167) (pc' := 171) rfl (hb hby at_167) (by decide) (by decide) k) ?_
              show own_G p.tables e below _ (T64.setTop (mkF m 171 #[.val (.int i0), .val (.int i1), .val (.ref b1), .val (.int z70), .unset, .unset, .unset] [(.int (1 : Int32))]))
              exact J171_74 (1 : Int32) ((own_bt (Or.inr ⟨hc156_88, hc163_89⟩)).symm)
        · refine own_st (fun _ k => XS.icmpYes X64.here hx rfl (pc0 := 150) (pc' := 166) rfl (hb hby at_150) rfl (flt hc150_73).2.2.2 (by decide) (by decide) k) ?_
          show own_G p.tables e below _ (T64.setTop (mkF m 166 #[.val (.int i0), .val (.int i1), .val (.ref b1), .val (.int z70), .unset, .unset, .unset] []))
          refine own_st (fun _ k => XS.iconst X64.here hx rfl (hb hby at_166) k) ?_
          show own_G p.tables e below _ (T64.setTop (mkF m 167 #[.val (.int i0), .val (.int i1), .val (.ref b1), .val (.int z70), .unset, .unset, .unset] [(.int (1 : Int32))]))
          refine own_st (fun _ k => XS.goto X64.here hx rfl (pc0 := 167) (pc' := 171) rfl (hb hby at_167) (by decide) (by decide) k) ?_
          show own_G p.tables e below _ (T64.setTop (mkF m 171 #[.val (.int i0), .val (.int i1), .val (.ref b1), .val (.int z70), .unset, .unset, .unset] [(.int (1 : Int32))]))
          exact J171_74 (1 : Int32) ((own_bt (Or.inl hc150_73)).symm)
  by_cases hc99_68 : (i1 &&& (1 : Int32)) = (0 : Int32)
  · refine own_st (fun _ k => XS.ifNo X64.here hx rfl (hb hby at_99) rfl ((if0 _ _).trans (teq hc99_68).2) k) ?_
    show own_G p.tables e below _ (T64.setTop (mkF m 102 #[.val (.int i0), .val (.int i1), .val (.ref b1), .unset, .unset, .unset, .unset] []))
    refine own_st (fun _ k => XS.iloadN X64.here hx rfl (hb hby at_102) rfl k) ?_
    show own_G p.tables e below _ (T64.setTop (mkF m 103 #[.val (.int i0), .val (.int i1), .val (.ref b1), .unset, .unset, .unset, .unset] [(.int i0)]))
    refine own_st (X64.ldcInt hx hown (mvT hZ (hw _ (List.mem_of_getElem? (i := 21) rfl))) (g := (mkF m 103 #[.val (.int i0), .val (.int i1), .val (.ref b1), .unset, .unset, .unset, .unset] [(.int i0)])) rfl (hb hby at_103)) ?_
    show own_G p.tables e below _ (T64.setTop (mkF m 105 #[.val (.int i0), .val (.int i1), .val (.ref b1), .unset, .unset, .unset, .unset] [(.int (2147483647 : Int32)), (.int i0)]))
    refine own_st (fun _ k => XS.iand X64.here hx rfl (hb hby at_105) rfl k) ?_
    show own_G p.tables e below _ (T64.setTop (mkF m 106 #[.val (.int i0), .val (.int i1), .val (.ref b1), .unset, .unset, .unset, .unset] [(.int (i0 &&& (2147483647 : Int32)))]))
    refine own_st (X64.ldcInt hx hown (mvT hZ (hw _ (List.mem_of_getElem? (i := 22) rfl))) (g := (mkF m 106 #[.val (.int i0), .val (.int i1), .val (.ref b1), .unset, .unset, .unset, .unset] [(.int (i0 &&& (2147483647 : Int32)))])) rfl (hb hby at_106)) ?_
    show own_G p.tables e below _ (T64.setTop (mkF m 108 #[.val (.int i0), .val (.int i1), .val (.ref b1), .unset, .unset, .unset, .unset] [(.int (1114112 : Int32)), (.int (i0 &&& (2147483647 : Int32)))]))
    refine own_st (fun _ k => iremM (g := (mkF m 108 #[.val (.int i0), .val (.int i1), .val (.ref b1), .unset, .unset, .unset, .unset] [(.int (1114112 : Int32)), (.int (i0 &&& (2147483647 : Int32)))])) X64 hx rfl (hb hby at_108) rfl (by decide) k) ?_
    show own_G p.tables e below _ (T64.setTop (mkF m 109 #[.val (.int i0), .val (.int i1), .val (.ref b1), .unset, .unset, .unset, .unset] [(.int ((i0 &&& (2147483647 : Int32)) % (1114112 : Int32)))]))
    refine own_st (fun _ k => XS.istoreN X64.here hx rfl (hb hby at_109) rfl (l' := #[.val (.int i0), .val (.int i1), .val (.ref b1), .val (.int ((i0 &&& (2147483647 : Int32)) % (1114112 : Int32))), .unset, .unset, .unset]) rfl k) ?_
    show own_G p.tables e below _ (T64.setTop (mkF m 110 #[.val (.int i0), .val (.int i1), .val (.ref b1), .val (.int ((i0 &&& (2147483647 : Int32)) % (1114112 : Int32))), .unset, .unset, .unset] []))
    refine own_st (fun _ k => XS.goto X64.here hx rfl (pc0 := 110) (pc' := 131) rfl (hb hby at_110) (by decide) (by decide) k) ?_
    show own_G p.tables e below _ (T64.setTop (mkF m 131 #[.val (.int i0), .val (.int i1), .val (.ref b1), .val (.int ((i0 &&& (2147483647 : Int32)) % (1114112 : Int32))), .unset, .unset, .unset] []))
    exact J131_69 ((i0 &&& (2147483647 : Int32)) % (1114112 : Int32))
  · refine own_st (fun _ k => XS.ifYes X64.here hx rfl (pc0 := 99) (pc' := 113) rfl (hb hby at_99) rfl ((if0 _ _).trans (feq hc99_68).2) (by decide) (by decide) k) ?_
    show own_G p.tables e below _ (T64.setTop (mkF m 113 #[.val (.int i0), .val (.int i1), .val (.ref b1), .unset, .unset, .unset, .unset] []))
    refine own_st (fun _ k => XS.aloadN X64.here hx rfl (hb hby at_113) rfl rfl k) ?_
    show own_G p.tables e below _ (T64.setTop (mkF m 114 #[.val (.int i0), .val (.int i1), .val (.ref b1), .unset, .unset, .unset, .unset] [(.ref b1)]))
    refine own_st (fun _ k => XS.iloadN X64.here hx rfl (hb hby at_114) rfl k) ?_
    show own_G p.tables e below _ (T64.setTop (mkF m 115 #[.val (.int i0), .val (.int i1), .val (.ref b1), .unset, .unset, .unset, .unset] [(.int i1), (.ref b1)]))
    refine own_st (fun _ k => XS.iconst X64.here hx rfl (hb hby at_115) k) ?_
    show own_G p.tables e below _ (T64.setTop (mkF m 116 #[.val (.int i0), .val (.int i1), .val (.ref b1), .unset, .unset, .unset, .unset] [(.int (1 : Int32)), (.int i1), (.ref b1)]))
    refine own_st (fun _ k => XS.iushr X64.here hx rfl (hb hby at_116) rfl k) ?_
    show own_G p.tables e below _ (T64.setTop (mkF m 117 #[.val (.int i0), .val (.int i1), .val (.ref b1), .unset, .unset, .unset, .unset] [(.int ((i1.toUInt32 >>> ((1 : Int32) &&& 31).toUInt32).toInt32)), (.ref b1)]))
    refine own_st (fun _ k => XS.bipush X64.here hx rfl (hb hby at_117) k) ?_
    show own_G p.tables e below _ (T64.setTop (mkF m 119 #[.val (.int i0), .val (.int i1), .val (.ref b1), .unset, .unset, .unset, .unset] [(.int (15 : Int32)), (.int ((i1.toUInt32 >>> ((1 : Int32) &&& 31).toUInt32).toInt32)), (.ref b1)]))
    refine own_st (fun _ k => XS.iand X64.here hx rfl (hb hby at_119) rfl k) ?_
    show own_G p.tables e below _ (T64.setTop (mkF m 120 #[.val (.int i0), .val (.int i1), .val (.ref b1), .unset, .unset, .unset, .unset] [(.int (((i1.toUInt32 >>> ((1 : Int32) &&& 31).toUInt32).toInt32) &&& (15 : Int32))), (.ref b1)]))
    obtain ⟨cl90, Ar90, q90, S90, Nn90, H90, G90⟩ := V65
    obtain ⟨y90, hy90⟩ : ∃ z, ([(.int (0 : Int32)), (.int (31 : Int32)), (.int (32 : Int32)), (.int (126 : Int32)), (.int (127 : Int32)), (.int (159 : Int32)), (.int (160 : Int32)), (.int (55295 : Int32)), (.int (55296 : Int32)), (.int (57343 : Int32)), (.int (57344 : Int32)), (.int (65533 : Int32)), (.int (65534 : Int32)), (.int (65535 : Int32)), (.int (65536 : Int32)), (.int (1114111 : Int32))] : List Value).getD ((((i1.toUInt32 >>> ((1 : Int32) &&& 31).toUInt32).toInt32) &&& (15 : Int32))).toNatClampNeg (.int (0 : Int32)) = .int z := own_elem _
    have hin90 : ¬ ((((i1.toUInt32 >>> ((1 : Int32) &&& 31).toUInt32).toInt32) &&& (15 : Int32)) < 0 ∨ cl90.slots.size ≤ ((((i1.toUInt32 >>> ((1 : Int32) &&& 31).toUInt32).toInt32) &&& (15 : Int32))).toNatClampNeg) := inb_of S90 (own_inb _)
    refine own_st (fun _ k => X64.iaload hx (j := (((i1.toUInt32 >>> ((1 : Int32) &&& 31).toUInt32).toInt32) &&& (15 : Int32))) (v := (.int y90)) (by rw [e64]; exact Ar90.1) (State.isArrayOf_alike hZ.alike Ar90.2.1) Ar90.2.2 hin90 (Has.at H90 hin90 hy90) (g := (mkF m 120 #[.val (.int i0), .val (.int i1), .val (.ref b1), .unset, .unset, .unset, .unset] [(.int (((i1.toUInt32 >>> ((1 : Int32) &&& 31).toUInt32).toInt32) &&& (15 : Int32))), (.ref b1)])) rfl rfl (hb hby at_120) _ k) ?_
    show own_G p.tables e below _ (T64.setTop (mkF m 121 #[.val (.int i0), .val (.int i1), .val (.ref b1), .unset, .unset, .unset, .unset] [(.int y90)]))
    have V91 : Arv Z h64 b1 k1 .int (16 : Int32) [(.int (0 : Int32)), (.int (31 : Int32)), (.int (32 : Int32)), (.int (126 : Int32)), (.int (127 : Int32)), (.int (159 : Int32)), (.int (160 : Int32)), (.int (55295 : Int32)), (.int (55296 : Int32)), (.int (57343 : Int32)), (.int (57344 : Int32)), (.int (65533 : Int32)), (.int (65534 : Int32)), (.int (65535 : Int32)), (.int (65536 : Int32)), (.int (1114111 : Int32))] (.int (0 : Int32)) := ⟨cl90, Ar90, q90, S90, Nn90, H90, G90⟩
    refine own_st (fun _ k => XS.iloadN X64.here hx rfl (hb hby at_121) rfl k) ?_
    show own_G p.tables e below _ (T64.setTop (mkF m 122 #[.val (.int i0), .val (.int i1), .val (.ref b1), .unset, .unset, .unset, .unset] [(.int i0), (.int y90)]))
    refine own_st (fun _ k => XS.bipush X64.here hx rfl (hb hby at_122) k) ?_
    show own_G p.tables e below _ (T64.setTop (mkF m 124 #[.val (.int i0), .val (.int i1), .val (.ref b1), .unset, .unset, .unset, .unset] [(.int (7 : Int32)), (.int i0), (.int y90)]))
    refine own_st (fun _ k => XS.iand X64.here hx rfl (hb hby at_124) rfl k) ?_
    show own_G p.tables e below _ (T64.setTop (mkF m 125 #[.val (.int i0), .val (.int i1), .val (.ref b1), .unset, .unset, .unset, .unset] [(.int (i0 &&& (7 : Int32))), (.int y90)]))
    refine own_st (fun _ k => XS.iconst X64.here hx rfl (hb hby at_125) k) ?_
    show own_G p.tables e below _ (T64.setTop (mkF m 126 #[.val (.int i0), .val (.int i1), .val (.ref b1), .unset, .unset, .unset, .unset] [(.int (5 : Int32)), (.int (i0 &&& (7 : Int32))), (.int y90)]))
    refine own_st (fun _ k => iremM (g := (mkF m 126 #[.val (.int i0), .val (.int i1), .val (.ref b1), .unset, .unset, .unset, .unset] [(.int (5 : Int32)), (.int (i0 &&& (7 : Int32))), (.int y90)])) X64 hx rfl (hb hby at_126) rfl (by decide) k) ?_
    show own_G p.tables e below _ (T64.setTop (mkF m 127 #[.val (.int i0), .val (.int i1), .val (.ref b1), .unset, .unset, .unset, .unset] [(.int ((i0 &&& (7 : Int32)) % (5 : Int32))), (.int y90)]))
    refine own_st (fun _ k => XS.iadd X64.here hx rfl (hb hby at_127) rfl k) ?_
    show own_G p.tables e below _ (T64.setTop (mkF m 128 #[.val (.int i0), .val (.int i1), .val (.ref b1), .unset, .unset, .unset, .unset] [(.int (y90 + ((i0 &&& (7 : Int32)) % (5 : Int32))))]))
    refine own_st (fun _ k => XS.iconst X64.here hx rfl (hb hby at_128) k) ?_
    show own_G p.tables e below _ (T64.setTop (mkF m 129 #[.val (.int i0), .val (.int i1), .val (.ref b1), .unset, .unset, .unset, .unset] [(.int (2 : Int32)), (.int (y90 + ((i0 &&& (7 : Int32)) % (5 : Int32))))]))
    refine own_st (fun _ k => XS.isub X64.here hx rfl (hb hby at_129) rfl k) ?_
    show own_G p.tables e below _ (T64.setTop (mkF m 130 #[.val (.int i0), .val (.int i1), .val (.ref b1), .unset, .unset, .unset, .unset] [(.int ((y90 + ((i0 &&& (7 : Int32)) % (5 : Int32))) - (2 : Int32)))]))
    refine own_st (fun _ k => XS.istoreN X64.here hx rfl (hb hby at_130) rfl (l' := #[.val (.int i0), .val (.int i1), .val (.ref b1), .val (.int ((y90 + ((i0 &&& (7 : Int32)) % (5 : Int32))) - (2 : Int32))), .unset, .unset, .unset]) rfl k) ?_
    show own_G p.tables e below _ (T64.setTop (mkF m 131 #[.val (.int i0), .val (.int i1), .val (.ref b1), .val (.int ((y90 + ((i0 &&& (7 : Int32)) % (5 : Int32))) - (2 : Int32))), .unset, .unset, .unset] []))
    exact J131_69 ((y90 + ((i0 &&& (7 : Int32)) % (5 : Int32))) - (2 : Int32))
set_option maxRecDepth 65536 in
set_option maxHeartbeats 40000000 in
theorem comes_1 {Post : Tables → Env → Array Value → State → Outcome → State → Prop} (hpost : ∀ tb e args s v u, (limb_1_1.after args s (.returned v) u = true ∧ limb_1_2.after args s (.returned v) u = true ∧ True) → FrameEnd s (.returned v) u (Jvm.fieldLocs frame_1_writes args s ++ Jvm.arrayLocs frame_1_arrays args s ++ Jvm.staticLocs frame_1_statics s) 16 128 → Post tb e args s (.returned v) u) :
    ArmFor flags0 classFile x code maxLocals ret World_1 tables_1 room_1 Calls_1 rest_1 Pre_1 Post := by
  intro l hfl _ _ p e ha hc hk s m args below hf hA hF happ hP
  obtain ⟨hcalls, hrest, hpre⟩ := hP
  obtain ⟨-, -, -, hnamed, -, -, -, hat⟩ := (Spec.applies_iff hf).mp happ
  obtain ⟨hg, hn⟩ := and_e (Cond.before_iff.mp (show (Jvm.Cond.and given_1 narrow_1).before args s = true from hpre))
  obtain ⟨gc, g0⟩ := and_e hg
  obtain ⟨ga0, g1⟩ := and_e g0
  obtain ⟨w0, w1, rfl⟩ : ∃ w0 w1 : Value, args = #[w0, w1] := by
    have hs : args.size = 2 := by simpa [Cond.value, given_1] using gc
    obtain ⟨L⟩ := args
    match L, hs with
    | [w0, w1], _ => exact ⟨w0, w1, rfl⟩
  have hw := fun d (hd : d ∈ tables_1) => atoms_spec (ws := Jvm.Cond.code x code maxLocals ret :: tables_1) hat d (List.mem_cons_of_mem _ hd)
  have hfit : Fit s := fun {y c} hc i hi => by
    obtain ⟨ha, rfl⟩ := Array.getElem?_eq_some_iff.mp hc
    have q := List.all_eq_true.mp ((Array.all_eq_true_iff_forall_mem.mp hF) _ (Array.getElem_mem ha)) i (List.mem_range.mpr hi)
    simpa [Array.getElem?_eq_getElem hi] using q
  obtain ⟨i0, ei0⟩ := is_v ga0
  obtain rfl : w0 = (.int i0) := Option.some.inj ei0
  obtain ⟨i1, ei1⟩ := is_v g1
  obtain rfl : w1 = (.int i1) := Option.some.inj ei1
  obtain ⟨n, o, h1, h2, h3, _, L, rfl, ⟨rfl, N⟩, hq⟩ := rm0 l s _ hw tables_1 i0 i1  s.heap s.heap.size (Nat.le_refl _)   p e ha hc hk s m _ below hf ((Spec.applies_iff_loose hf).mp happ).1 ⟨rfl, State.Warmed39.refl s, rfl⟩ trivial
  refine ⟨n, _, h1, h2, h3, hpost _ _ _ _ _ _ ⟨Cond.after_iff.mpr rfl, Cond.after_iff.mpr (eq_i res_at (Term.int_eval (1)) rfl), trivial⟩ ⟨hq.1, hq.2.1, (hq.2.2.sift fun y hy => Or.inr (N y hy)).mono (by decide) (by decide)⟩⟩
theorem main_1_1 : Claimed_1_1 := comes_1 fun _ _ _ _ _ _ h hF => ⟨h.1, hF⟩
theorem main_1_2 : Claimed_1_2 := comes_1 fun _ _ _ _ _ _ h hF => ⟨h.2.1, hF⟩
end Jvm.Pilot.@@N@@
namespace Jvm.Pilot.@@N@@
open Jvm Jvm.ClassFile Sem Op Lib Jvm.Free Jvm.Stand Jvm.Pilot.@@N@@.Jvm.D
/-! MADE BY PROGRAM (witnessworld.py) out of the Statement's table words and the real class files: 12 classes; the members and pool entries that the words name. The judged class is class 1, her method 1. -/
namespace start1
open Jvm.ClassFile
def u (s : String) : CpInfo := .utf8 (stringToUtf16 s)
/-- a pool by its gaps: so many unusable entries, then the entry; so many at the end -/
def gap : Nat → List CpInfo → List CpInfo
  | 0, r => r
  | n + 1, r => .unusable :: gap n r
def poolList (es : List (Nat × CpInfo)) (last : Nat) : List CpInfo := es.foldr (fun e r => gap e.1 (e.2 :: r)) (gap last [])
def pool (es : List (Nat × CpInfo)) (last : Nat) : Array CpInfo := ⟨poolList es last⟩
def fileOf (pool : Array CpInfo) (this : Nat) (attrs : Array Attribute := #[]) (ms : Array MethodInfo := #[]) (fl : Nat := 33) (sup : Nat := 0) (ifs : Array Nat := #[]) (fds : Array FieldInfo := #[]) : ClassFile where
  minorVersion := 0
  majorVersion := 65
  constantPool := pool
  accessFlags := fl
  thisClass := this
  superClass := sup
  interfaces := ifs
  fields := fds
  methods := ms
  attributes := attrs
def plain (name : String) (sup : Option ClassId) : Class where
  name := name
  kind := .ordinary
  loader := none
  accessFlags := 33
  super := sup
  interfaces := #[]
  cf := none
  fields := #[]
  methods := #[]
  instanceTypes := #[]
  staticTypes := #[]
  resolved := #[]
  callSites := []
  init := .initialized
  statics := none
  mirror := none

def pool0 : Array CpInfo := pool [(5, u "<init>"), (0, u "()V"), (1, .class_ 10), (1, u "java/lang/Object")] 113

def k0m0 : Method := { name := "<init>", desc := "()V", sig := { parameters := [], returnType := none }, accessFlags := 1, code := none }
/-- java/lang/Object -/
def k0 : Class := { plain "java/lang/Object" none with
  accessFlags := 33
  interfaces := #[]
  cf := some (fileOf pool0 8 #[] #[{ accessFlags := 1, nameIndex := 5, descriptorIndex := 6, attributes := #[] }] 33 0 #[] #[])
  fields := #[]
  methods := #[k0m0]
  instanceTypes := #[]
  staticTypes := #[]
  resolved := Array.replicate 124 none
  statics := none }

def pool1 : Array CpInfo := pool [(2, .class_ 4), (1, u "java/lang/Object"), (0, u "<init>"), (0, u "()V"), (0, .integer 55295), (0, .integer 55296), (0, .integer 57343), (0, .integer 57344), (0, .integer 65533), (0, .integer 65534), (0, .integer 65535), (0, .integer 65536), (0, .integer 1114111), (0, .integer 2147483647), (0, .integer 1114112), (0, .methodref 19 20), (0, .class_ 21), (0, .nameAndType 22 23), (0, u "com/example/archivolt/archivolt/FileNames"), (0, u "isPlain"), (0, u "(I)Z"), (0, .class_ 25), (0, u "com/example/archivolt/archivolt/FileNamesIsPlainPinLaw"), (2, u "law"), (0, u "(II)Z")] 5

def k1m0 : Method := { name := "<init>", desc := "()V", sig := { parameters := [], returnType := none }, accessFlags := 2, code := none }
def k1c1 : Code := { maxStack := 4, maxLocals := 7, code := code, exceptionTable := #[], attributes := #[] }
def k1m1 : Method := { name := "law", desc := "(II)Z", sig := { parameters := [.int, .int], returnType := some .boolean }, accessFlags := 9, code := some k1c1 }
/-- com/example/archivolt/archivolt/FileNamesIsPlainPinLaw -/
def k1 : Class := { plain "com/example/archivolt/archivolt/FileNamesIsPlainPinLaw" (some 0) with
  accessFlags := 49
  interfaces := #[]
  cf := some (fileOf pool1 24 #[] #[{ accessFlags := 2, nameIndex := 5, descriptorIndex := 6, attributes := #[] }, { accessFlags := 9, nameIndex := 28, descriptorIndex := 29, attributes := #[] }] 49 2 #[] #[])
  fields := #[]
  methods := #[k1m0, k1m1]
  instanceTypes := #[]
  staticTypes := #[]
  resolved := Array.replicate 35 none
  statics := none }

def pool2 : Array CpInfo := pool [(2, .class_ 4), (1, u "java/lang/Object"), (0, u "<init>"), (0, u "()V"), (1, .class_ 10), (1, u "com/example/archivolt/archivolt/FileNames"), (0, u "ENCODING"), (0, u "Ljava/lang/String;"), (19, u "UTF_8"), (0, u "Z"), (32, .class_ 68), (1, u "java/lang/Character"), (9, .methodref 66 79), (0, .nameAndType 80 81), (0, u "isISOControl"), (0, u "(I)Z"), (0, .integer 55296), (0, .integer 57343), (0, .integer 65534), (0, .integer 65535), (205, u "HEX"), (0, u "Ljava/util/HexFormat;"), (42, u "isPlain"), (31, u "STRAY_BYTE_BASE"), (0, u "I"), (1, u "URI_PLAIN")] 55

def k2m0 : Method := { name := "<init>", desc := "()V", sig := { parameters := [], returnType := none }, accessFlags := 2, code := none }
def k2c1 : Code := { maxStack := 2, maxLocals := 1, code := prog_7_method_6_code, exceptionTable := #[], attributes := #[] }
def k2m1 : Method := { name := "isPlain", desc := "(I)Z", sig := { parameters := [.int], returnType := some .boolean }, accessFlags := 9, code := some k2c1 }
/-- com/example/archivolt/archivolt/FileNames -/
def k2 : Class := { plain "com/example/archivolt/archivolt/FileNames" (some 0) with
  accessFlags := 49
  interfaces := #[]
  cf := some (fileOf pool2 8 #[] #[{ accessFlags := 2, nameIndex := 5, descriptorIndex := 6, attributes := #[] }, { accessFlags := 9, nameIndex := 335, descriptorIndex := 81, attributes := #[] }] 49 2 #[] #[{ accessFlags := 26, nameIndex := 11, descriptorIndex := 12, attributes := #[] }, { accessFlags := 26, nameIndex := 32, descriptorIndex := 33, attributes := #[] }, { accessFlags := 26, nameIndex := 367, descriptorIndex := 368, attributes := #[] }, { accessFlags := 26, nameIndex := 370, descriptorIndex := 12, attributes := #[] }, { accessFlags := 26, nameIndex := 291, descriptorIndex := 292, attributes := #[] }])
  fields := #[{ name := "ENCODING", type := (.object "java/lang/String"), accessFlags := 26, slot := 0, constantValue := 0 }, { name := "UTF_8", type := .boolean, accessFlags := 26, slot := 1, constantValue := 0 }, { name := "STRAY_BYTE_BASE", type := .int, accessFlags := 26, slot := 2, constantValue := 0 }, { name := "URI_PLAIN", type := (.object "java/lang/String"), accessFlags := 26, slot := 3, constantValue := 0 }, { name := "HEX", type := (.object "java/util/HexFormat"), accessFlags := 26, slot := 4, constantValue := 0 }]
  methods := #[k2m0, k2m1]
  instanceTypes := #[]
  staticTypes := #[(.object "java/lang/String"), .boolean, .int, (.object "java/lang/String"), (.object "java/util/HexFormat")]
  resolved := Array.replicate 426 none
  statics := none }

def pool3 : Array CpInfo := pool [(1, .class_ 2), (0, u "java/io/Serializable"), (0, .class_ 4), (0, u "java/lang/Object")] 2

/-- java/io/Serializable -/
def k3 : Class := { plain "java/io/Serializable" (some 0) with
  accessFlags := 1537
  interfaces := #[]
  cf := some (fileOf pool3 1 #[] #[] 1537 3 #[] #[])
  fields := #[]
  methods := #[]
  instanceTypes := #[]
  staticTypes := #[]
  resolved := Array.replicate 7 none
  statics := none }

def pool4 : Array CpInfo := pool [(1, .class_ 2), (0, u "java/lang/Comparable"), (0, .class_ 4), (0, u "java/lang/Object")] 7

/-- java/lang/Comparable -/
def k4 : Class := { plain "java/lang/Comparable" (some 0) with
  accessFlags := 1537
  interfaces := #[]
  cf := some (fileOf pool4 1 #[] #[] 1537 3 #[] #[])
  fields := #[]
  methods := #[]
  instanceTypes := #[]
  staticTypes := #[]
  resolved := Array.replicate 12 none
  statics := none }

def pool5 : Array CpInfo := pool [(1, .class_ 2), (0, u "java/lang/constant/Constable"), (0, .class_ 4), (0, u "java/lang/Object")] 6

/-- java/lang/constant/Constable -/
def k5 : Class := { plain "java/lang/constant/Constable" (some 0) with
  accessFlags := 1537
  interfaces := #[]
  cf := some (fileOf pool5 1 #[] #[] 1537 3 #[] #[])
  fields := #[]
  methods := #[]
  instanceTypes := #[]
  staticTypes := #[]
  resolved := Array.replicate 11 none
  statics := none }

def pool6 : Array CpInfo := pool [(1, .class_ 2), (0, u "java/lang/Character"), (18, u "value"), (0, u "C"), (19, .class_ 44), (1, u "java/lang/Object"), (3, .class_ 50), (1, u "java/lang/Character$CharacterCache"), (63, u "(I)Z"), (153, u "isISOControl"), (15, u "$assertionsDisabled"), (0, u "Z"), (21, .class_ 309), (1, u "java/lang/Character$UnicodeBlock"), (73, u "TYPE"), (0, u "Ljava/lang/Class;"), (0, .class_ 386), (0, u "java/io/Serializable"), (0, .class_ 388), (0, u "java/lang/Comparable"), (0, .class_ 390), (0, u "java/lang/constant/Constable"), (0, u "MIN_RADIX"), (0, u "I"), (2, u "MAX_RADIX"), (1, u "MIN_VALUE"), (1, u "MAX_VALUE"), (3, u "UNASSIGNED"), (0, u "B"), (0, u "UPPERCASE_LETTER"), (1, u "LOWERCASE_LETTER"), (0, u "TITLECASE_LETTER"), (1, u "MODIFIER_LETTER"), (1, u "OTHER_LETTER"), (1, u "NON_SPACING_MARK"), (1, u "ENCLOSING_MARK"), (1, u "COMBINING_SPACING_MARK"), (1, u "DECIMAL_DIGIT_NUMBER"), (1, u "LETTER_NUMBER"), (1, u "OTHER_NUMBER"), (1, u "SPACE_SEPARATOR"), (1, u "LINE_SEPARATOR"), (1, u "PARAGRAPH_SEPARATOR"), (1, u "CONTROL"), (1, u "FORMAT"), (1, u "PRIVATE_USE"), (1, u "SURROGATE"), (1, u "DASH_PUNCTUATION"), (1, u "START_PUNCTUATION"), (1, u "END_PUNCTUATION"), (1, u "CONNECTOR_PUNCTUATION"), (1, u "OTHER_PUNCTUATION"), (1, u "MATH_SYMBOL"), (1, u "CURRENCY_SYMBOL"), (1, u "MODIFIER_SYMBOL"), (1, u "OTHER_SYMBOL"), (1, u "INITIAL_QUOTE_PUNCTUATION"), (1, u "FINAL_QUOTE_PUNCTUATION"), (1, u "ERROR"), (1, u "DIRECTIONALITY_UNDEFINED"), (0, u "DIRECTIONALITY_LEFT_TO_RIGHT"), (0, u "DIRECTIONALITY_RIGHT_TO_LEFT"), (0, u "DIRECTIONALITY_RIGHT_TO_LEFT_ARABIC"), (0, u "DIRECTIONALITY_EUROPEAN_NUMBER"), (0, u "DIRECTIONALITY_EUROPEAN_NUMBER_SEPARATOR"), (0, u "DIRECTIONALITY_EUROPEAN_NUMBER_TERMINATOR"), (0, u "DIRECTIONALITY_ARABIC_NUMBER"), (0, u "DIRECTIONALITY_COMMON_NUMBER_SEPARATOR"), (0, u "DIRECTIONALITY_NONSPACING_MARK"), (0, u "DIRECTIONALITY_BOUNDARY_NEUTRAL"), (0, u "DIRECTIONALITY_PARAGRAPH_SEPARATOR"), (0, u "DIRECTIONALITY_SEGMENT_SEPARATOR"), (0, u "DIRECTIONALITY_WHITESPACE"), (0, u "DIRECTIONALITY_OTHER_NEUTRALS"), (0, u "DIRECTIONALITY_LEFT_TO_RIGHT_EMBEDDING"), (0, u "DIRECTIONALITY_LEFT_TO_RIGHT_OVERRIDE"), (0, u "DIRECTIONALITY_RIGHT_TO_LEFT_EMBEDDING"), (0, u "DIRECTIONALITY_RIGHT_TO_LEFT_OVERRIDE"), (1, u "DIRECTIONALITY_POP_DIRECTIONAL_FORMAT"), (0, u "DIRECTIONALITY_LEFT_TO_RIGHT_ISOLATE"), (0, u "DIRECTIONALITY_RIGHT_TO_LEFT_ISOLATE"), (0, u "DIRECTIONALITY_FIRST_STRONG_ISOLATE"), (0, u "DIRECTIONALITY_POP_DIRECTIONAL_ISOLATE"), (0, u "MIN_HIGH_SURROGATE"), (0, u "MAX_HIGH_SURROGATE"), (1, u "MIN_LOW_SURROGATE"), (0, u "MAX_LOW_SURROGATE"), (1, u "MIN_SURROGATE"), (0, u "MAX_SURROGATE"), (0, u "MIN_SUPPLEMENTARY_CODE_POINT"), (0, u "MIN_CODE_POINT"), (0, u "MAX_CODE_POINT"), (1, u "serialVersionUID"), (0, u "J"), (2, u "SIZE"), (0, u "BYTES"), (88, .class_ 596), (0, u "java/lang/Character$UnicodeScript"), (0, .class_ 598), (0, u "java/lang/Character$Subset")] 5

def k6c0 : Code := { maxStack := 2, maxLocals := 1, code := jdk_89_method_89_code, exceptionTable := #[], attributes := #[] }
def k6m0 : Method := { name := "isISOControl", desc := "(I)Z", sig := { parameters := [.int], returnType := some .boolean }, accessFlags := 9, code := some k6c0 }
/-- java/lang/Character -/
def k6 : Class := { plain "java/lang/Character" (some 0) with
  accessFlags := 49
  interfaces := #[3, 4, 5]
  cf := some (fileOf pool6 1 #[.nestMembers #[48, 595, 307, 597]] #[{ accessFlags := 9, nameIndex := 268, descriptorIndex := 114, attributes := #[] }] 49 42 #[385, 387, 389] #[{ accessFlags := 25, nameIndex := 391, descriptorIndex := 392, attributes := #[] }, { accessFlags := 25, nameIndex := 395, descriptorIndex := 392, attributes := #[] }, { accessFlags := 25, nameIndex := 397, descriptorIndex := 22, attributes := #[] }, { accessFlags := 25, nameIndex := 399, descriptorIndex := 22, attributes := #[] }, { accessFlags := 25, nameIndex := 383, descriptorIndex := 384, attributes := #[] }, { accessFlags := 25, nameIndex := 403, descriptorIndex := 404, attributes := #[] }, { accessFlags := 25, nameIndex := 405, descriptorIndex := 404, attributes := #[] }, { accessFlags := 25, nameIndex := 407, descriptorIndex := 404, attributes := #[] }, { accessFlags := 25, nameIndex := 408, descriptorIndex := 404, attributes := #[] }, { accessFlags := 25, nameIndex := 410, descriptorIndex := 404, attributes := #[] }, { accessFlags := 25, nameIndex := 412, descriptorIndex := 404, attributes := #[] }, { accessFlags := 25, nameIndex := 414, descriptorIndex := 404, attributes := #[] }, { accessFlags := 25, nameIndex := 416, descriptorIndex := 404, attributes := #[] }, { accessFlags := 25, nameIndex := 418, descriptorIndex := 404, attributes := #[] }, { accessFlags := 25, nameIndex := 420, descriptorIndex := 404, attributes := #[] }, { accessFlags := 25, nameIndex := 422, descriptorIndex := 404, attributes := #[] }, { accessFlags := 25, nameIndex := 424, descriptorIndex := 404, attributes := #[] }, { accessFlags := 25, nameIndex := 426, descriptorIndex := 404, attributes := #[] }, { accessFlags := 25, nameIndex := 428, descriptorIndex := 404, attributes := #[] }, { accessFlags := 25, nameIndex := 430, descriptorIndex := 404, attributes := #[] }, { accessFlags := 25, nameIndex := 432, descriptorIndex := 404, attributes := #[] }, { accessFlags := 25, nameIndex := 434, descriptorIndex := 404, attributes := #[] }, { accessFlags := 25, nameIndex := 436, descriptorIndex := 404, attributes := #[] }, { accessFlags := 25, nameIndex := 438, descriptorIndex := 404, attributes := #[] }, { accessFlags := 25, nameIndex := 440, descriptorIndex := 404, attributes := #[] }, { accessFlags := 25, nameIndex := 442, descriptorIndex := 404, attributes := #[] }, { accessFlags := 25, nameIndex := 444, descriptorIndex := 404, attributes := #[] }, { accessFlags := 25, nameIndex := 446, descriptorIndex := 404, attributes := #[] }, { accessFlags := 25, nameIndex := 448, descriptorIndex := 404, attributes := #[] }, { accessFlags := 25, nameIndex := 450, descriptorIndex := 404, attributes := #[] }, { accessFlags := 25, nameIndex := 452, descriptorIndex := 404, attributes := #[] }, { accessFlags := 25, nameIndex := 454, descriptorIndex := 404, attributes := #[] }, { accessFlags := 25, nameIndex := 456, descriptorIndex := 404, attributes := #[] }, { accessFlags := 25, nameIndex := 458, descriptorIndex := 404, attributes := #[] }, { accessFlags := 25, nameIndex := 460, descriptorIndex := 404, attributes := #[] }, { accessFlags := 24, nameIndex := 462, descriptorIndex := 392, attributes := #[] }, { accessFlags := 25, nameIndex := 464, descriptorIndex := 404, attributes := #[] }, { accessFlags := 25, nameIndex := 465, descriptorIndex := 404, attributes := #[] }, { accessFlags := 25, nameIndex := 466, descriptorIndex := 404, attributes := #[] }, { accessFlags := 25, nameIndex := 467, descriptorIndex := 404, attributes := #[] }, { accessFlags := 25, nameIndex := 468, descriptorIndex := 404, attributes := #[] }, { accessFlags := 25, nameIndex := 469, descriptorIndex := 404, attributes := #[] }, { accessFlags := 25, nameIndex := 470, descriptorIndex := 404, attributes := #[] }, { accessFlags := 25, nameIndex := 471, descriptorIndex := 404, attributes := #[] }, { accessFlags := 25, nameIndex := 472, descriptorIndex := 404, attributes := #[] }, { accessFlags := 25, nameIndex := 473, descriptorIndex := 404, attributes := #[] }, { accessFlags := 25, nameIndex := 474, descriptorIndex := 404, attributes := #[] }, { accessFlags := 25, nameIndex := 475, descriptorIndex := 404, attributes := #[] }, { accessFlags := 25, nameIndex := 476, descriptorIndex := 404, attributes := #[] }, { accessFlags := 25, nameIndex := 477, descriptorIndex := 404, attributes := #[] }, { accessFlags := 25, nameIndex := 478, descriptorIndex := 404, attributes := #[] }, { accessFlags := 25, nameIndex := 479, descriptorIndex := 404, attributes := #[] }, { accessFlags := 25, nameIndex := 480, descriptorIndex := 404, attributes := #[] }, { accessFlags := 25, nameIndex := 481, descriptorIndex := 404, attributes := #[] }, { accessFlags := 25, nameIndex := 482, descriptorIndex := 404, attributes := #[] }, { accessFlags := 25, nameIndex := 484, descriptorIndex := 404, attributes := #[] }, { accessFlags := 25, nameIndex := 485, descriptorIndex := 404, attributes := #[] }, { accessFlags := 25, nameIndex := 486, descriptorIndex := 404, attributes := #[] }, { accessFlags := 25, nameIndex := 487, descriptorIndex := 404, attributes := #[] }, { accessFlags := 25, nameIndex := 488, descriptorIndex := 404, attributes := #[] }, { accessFlags := 25, nameIndex := 489, descriptorIndex := 22, attributes := #[] }, { accessFlags := 25, nameIndex := 490, descriptorIndex := 22, attributes := #[] }, { accessFlags := 25, nameIndex := 492, descriptorIndex := 22, attributes := #[] }, { accessFlags := 25, nameIndex := 493, descriptorIndex := 22, attributes := #[] }, { accessFlags := 25, nameIndex := 495, descriptorIndex := 22, attributes := #[] }, { accessFlags := 25, nameIndex := 496, descriptorIndex := 22, attributes := #[] }, { accessFlags := 25, nameIndex := 497, descriptorIndex := 392, attributes := #[] }, { accessFlags := 25, nameIndex := 498, descriptorIndex := 392, attributes := #[] }, { accessFlags := 25, nameIndex := 499, descriptorIndex := 392, attributes := #[] }, { accessFlags := 18, nameIndex := 21, descriptorIndex := 22, attributes := #[] }, { accessFlags := 26, nameIndex := 501, descriptorIndex := 502, attributes := #[] }, { accessFlags := 25, nameIndex := 505, descriptorIndex := 392, attributes := #[] }, { accessFlags := 25, nameIndex := 506, descriptorIndex := 392, attributes := #[] }, { accessFlags := 4120, nameIndex := 284, descriptorIndex := 285, attributes := #[] }])
  fields := #[{ name := "MIN_RADIX", type := .int, accessFlags := 25, slot := 0, constantValue := 0 }, { name := "MAX_RADIX", type := .int, accessFlags := 25, slot := 1, constantValue := 0 }, { name := "MIN_VALUE", type := .char, accessFlags := 25, slot := 2, constantValue := 0 }, { name := "MAX_VALUE", type := .char, accessFlags := 25, slot := 3, constantValue := 0 }, { name := "TYPE", type := (.object "java/lang/Class"), accessFlags := 25, slot := 4, constantValue := 0 }, { name := "UNASSIGNED", type := .byte, accessFlags := 25, slot := 5, constantValue := 0 }, { name := "UPPERCASE_LETTER", type := .byte, accessFlags := 25, slot := 6, constantValue := 0 }, { name := "LOWERCASE_LETTER", type := .byte, accessFlags := 25, slot := 7, constantValue := 0 }, { name := "TITLECASE_LETTER", type := .byte, accessFlags := 25, slot := 8, constantValue := 0 }, { name := "MODIFIER_LETTER", type := .byte, accessFlags := 25, slot := 9, constantValue := 0 }, { name := "OTHER_LETTER", type := .byte, accessFlags := 25, slot := 10, constantValue := 0 }, { name := "NON_SPACING_MARK", type := .byte, accessFlags := 25, slot := 11, constantValue := 0 }, { name := "ENCLOSING_MARK", type := .byte, accessFlags := 25, slot := 12, constantValue := 0 }, { name := "COMBINING_SPACING_MARK", type := .byte, accessFlags := 25, slot := 13, constantValue := 0 }, { name := "DECIMAL_DIGIT_NUMBER", type := .byte, accessFlags := 25, slot := 14, constantValue := 0 }, { name := "LETTER_NUMBER", type := .byte, accessFlags := 25, slot := 15, constantValue := 0 }, { name := "OTHER_NUMBER", type := .byte, accessFlags := 25, slot := 16, constantValue := 0 }, { name := "SPACE_SEPARATOR", type := .byte, accessFlags := 25, slot := 17, constantValue := 0 }, { name := "LINE_SEPARATOR", type := .byte, accessFlags := 25, slot := 18, constantValue := 0 }, { name := "PARAGRAPH_SEPARATOR", type := .byte, accessFlags := 25, slot := 19, constantValue := 0 }, { name := "CONTROL", type := .byte, accessFlags := 25, slot := 20, constantValue := 0 }, { name := "FORMAT", type := .byte, accessFlags := 25, slot := 21, constantValue := 0 }, { name := "PRIVATE_USE", type := .byte, accessFlags := 25, slot := 22, constantValue := 0 }, { name := "SURROGATE", type := .byte, accessFlags := 25, slot := 23, constantValue := 0 }, { name := "DASH_PUNCTUATION", type := .byte, accessFlags := 25, slot := 24, constantValue := 0 }, { name := "START_PUNCTUATION", type := .byte, accessFlags := 25, slot := 25, constantValue := 0 }, { name := "END_PUNCTUATION", type := .byte, accessFlags := 25, slot := 26, constantValue := 0 }, { name := "CONNECTOR_PUNCTUATION", type := .byte, accessFlags := 25, slot := 27, constantValue := 0 }, { name := "OTHER_PUNCTUATION", type := .byte, accessFlags := 25, slot := 28, constantValue := 0 }, { name := "MATH_SYMBOL", type := .byte, accessFlags := 25, slot := 29, constantValue := 0 }, { name := "CURRENCY_SYMBOL", type := .byte, accessFlags := 25, slot := 30, constantValue := 0 }, { name := "MODIFIER_SYMBOL", type := .byte, accessFlags := 25, slot := 31, constantValue := 0 }, { name := "OTHER_SYMBOL", type := .byte, accessFlags := 25, slot := 32, constantValue := 0 }, { name := "INITIAL_QUOTE_PUNCTUATION", type := .byte, accessFlags := 25, slot := 33, constantValue := 0 }, { name := "FINAL_QUOTE_PUNCTUATION", type := .byte, accessFlags := 25, slot := 34, constantValue := 0 }, { name := "ERROR", type := .int, accessFlags := 24, slot := 35, constantValue := 0 }, { name := "DIRECTIONALITY_UNDEFINED", type := .byte, accessFlags := 25, slot := 36, constantValue := 0 }, { name := "DIRECTIONALITY_LEFT_TO_RIGHT", type := .byte, accessFlags := 25, slot := 37, constantValue := 0 }, { name := "DIRECTIONALITY_RIGHT_TO_LEFT", type := .byte, accessFlags := 25, slot := 38, constantValue := 0 }, { name := "DIRECTIONALITY_RIGHT_TO_LEFT_ARABIC", type := .byte, accessFlags := 25, slot := 39, constantValue := 0 }, { name := "DIRECTIONALITY_EUROPEAN_NUMBER", type := .byte, accessFlags := 25, slot := 40, constantValue := 0 }, { name := "DIRECTIONALITY_EUROPEAN_NUMBER_SEPARATOR", type := .byte, accessFlags := 25, slot := 41, constantValue := 0 }, { name := "DIRECTIONALITY_EUROPEAN_NUMBER_TERMINATOR", type := .byte, accessFlags := 25, slot := 42, constantValue := 0 }, { name := "DIRECTIONALITY_ARABIC_NUMBER", type := .byte, accessFlags := 25, slot := 43, constantValue := 0 }, { name := "DIRECTIONALITY_COMMON_NUMBER_SEPARATOR", type := .byte, accessFlags := 25, slot := 44, constantValue := 0 }, { name := "DIRECTIONALITY_NONSPACING_MARK", type := .byte, accessFlags := 25, slot := 45, constantValue := 0 }, { name := "DIRECTIONALITY_BOUNDARY_NEUTRAL", type := .byte, accessFlags := 25, slot := 46, constantValue := 0 }, { name := "DIRECTIONALITY_PARAGRAPH_SEPARATOR", type := .byte, accessFlags := 25, slot := 47, constantValue := 0 }, { name := "DIRECTIONALITY_SEGMENT_SEPARATOR", type := .byte, accessFlags := 25, slot := 48, constantValue := 0 }, { name := "DIRECTIONALITY_WHITESPACE", type := .byte, accessFlags := 25, slot := 49, constantValue := 0 }, { name := "DIRECTIONALITY_OTHER_NEUTRALS", type := .byte, accessFlags := 25, slot := 50, constantValue := 0 }, { name := "DIRECTIONALITY_LEFT_TO_RIGHT_EMBEDDING", type := .byte, accessFlags := 25, slot := 51, constantValue := 0 }, { name := "DIRECTIONALITY_LEFT_TO_RIGHT_OVERRIDE", type := .byte, accessFlags := 25, slot := 52, constantValue := 0 }, { name := "DIRECTIONALITY_RIGHT_TO_LEFT_EMBEDDING", type := .byte, accessFlags := 25, slot := 53, constantValue := 0 }, { name := "DIRECTIONALITY_RIGHT_TO_LEFT_OVERRIDE", type := .byte, accessFlags := 25, slot := 54, constantValue := 0 }, { name := "DIRECTIONALITY_POP_DIRECTIONAL_FORMAT", type := .byte, accessFlags := 25, slot := 55, constantValue := 0 }, { name := "DIRECTIONALITY_LEFT_TO_RIGHT_ISOLATE", type := .byte, accessFlags := 25, slot := 56, constantValue := 0 }, { name := "DIRECTIONALITY_RIGHT_TO_LEFT_ISOLATE", type := .byte, accessFlags := 25, slot := 57, constantValue := 0 }, { name := "DIRECTIONALITY_FIRST_STRONG_ISOLATE", type := .byte, accessFlags := 25, slot := 58, constantValue := 0 }, { name := "DIRECTIONALITY_POP_DIRECTIONAL_ISOLATE", type := .byte, accessFlags := 25, slot := 59, constantValue := 0 }, { name := "MIN_HIGH_SURROGATE", type := .char, accessFlags := 25, slot := 60, constantValue := 0 }, { name := "MAX_HIGH_SURROGATE", type := .char, accessFlags := 25, slot := 61, constantValue := 0 }, { name := "MIN_LOW_SURROGATE", type := .char, accessFlags := 25, slot := 62, constantValue := 0 }, { name := "MAX_LOW_SURROGATE", type := .char, accessFlags := 25, slot := 63, constantValue := 0 }, { name := "MIN_SURROGATE", type := .char, accessFlags := 25, slot := 64, constantValue := 0 }, { name := "MAX_SURROGATE", type := .char, accessFlags := 25, slot := 65, constantValue := 0 }, { name := "MIN_SUPPLEMENTARY_CODE_POINT", type := .int, accessFlags := 25, slot := 66, constantValue := 0 }, { name := "MIN_CODE_POINT", type := .int, accessFlags := 25, slot := 67, constantValue := 0 }, { name := "MAX_CODE_POINT", type := .int, accessFlags := 25, slot := 68, constantValue := 0 }, { name := "value", type := .char, accessFlags := 18, slot := 0, constantValue := 0 }, { name := "serialVersionUID", type := .long, accessFlags := 26, slot := 69, constantValue := 0 }, { name := "SIZE", type := .int, accessFlags := 25, slot := 70, constantValue := 0 }, { name := "BYTES", type := .int, accessFlags := 25, slot := 71, constantValue := 0 }, { name := "$assertionsDisabled", type := .boolean, accessFlags := 4120, slot := 72, constantValue := 0 }]
  methods := #[k6m0]
  instanceTypes := #[.char]
  staticTypes := #[.int, .int, .char, .char, (.object "java/lang/Class"), .byte, .byte, .byte, .byte, .byte, .byte, .byte, .byte, .byte, .byte, .byte, .byte, .byte, .byte, .byte, .byte, .byte, .byte, .byte, .byte, .byte, .byte, .byte, .byte, .byte, .byte, .byte, .byte, .byte, .byte, .int, .byte, .byte, .byte, .byte, .byte, .byte, .byte, .byte, .byte, .byte, .byte, .byte, .byte, .byte, .byte, .byte, .byte, .byte, .byte, .byte, .byte, .byte, .byte, .byte, .char, .char, .char, .char, .char, .char, .int, .int, .int, .long, .int, .int, .boolean]
  resolved := Array.replicate 604 none
  statics := none }

def pool7 : Array CpInfo := pool [(1, u "java/lang/Cloneable"), (0, .class_ 1), (0, u "java/lang/Object"), (0, .class_ 3)] 3

/-- java/lang/Cloneable -/
def k7 : Class := { plain "java/lang/Cloneable" (some 0) with
  accessFlags := 1537
  interfaces := #[]
  cf := some (fileOf pool7 2 #[] #[] 1537 4 #[] #[])
  fields := #[]
  methods := #[]
  instanceTypes := #[]
  staticTypes := #[]
  resolved := Array.replicate 8 none
  statics := none }

/-- the primitive byte -/
def k8 : Class := { plain "byte" none with kind := .primitive 'B', accessFlags := 0x411 }
/-- [B -/
def k9 : Class := { plain "[B" (some 0) with kind := .array 8 .byte, interfaces := #[7, 3], accessFlags := 1041 }

/-- the primitive int -/
def k10 : Class := { plain "int" none with kind := .primitive 'I', accessFlags := 0x411 }
/-- [I -/
def k11 : Class := { plain "[I" (some 0) with kind := .array 10 .int, interfaces := #[7, 3], accessFlags := 1041 }

def heap : Heap := #[]
def classes : Array Class := #[k0, k1, k2, k3, k4, k5, k6, k7, k8, k9, k10, k11]
def interned : List (Array UInt16 × Addr) := []
def slotsUsed : Nat := 0
def theMethod : MethodId := ⟨1, 1⟩
def args0 : Array Value := #[.int 5, .int 5]
def aboutOver (below : List Frame) : State where
  vm := { classes := classes, interned := interned.toArray }
  heap := heap
  slotsUsed := slotsUsed
  threads := #[{ frames := .invoking theMethod args0 :: below }]
def below0 : List Frame := [.native { method := ⟨0, 0⟩, args := #[] }]
def about1 : State := aboutOver below0
def p0 : Program := .bare "" "" ""
def e0 : Env := launch0.env 0 0 0
theorem w_frames : about1.frames = Frame.invoking theMethod args0 :: below0 := rfl
set_option maxRecDepth 65536 in
theorem w_args : argsFit about1.vm theMethod args0 = true := by decide +kernel
set_option maxRecDepth 65536 in
theorem w_heap : heapFits about1 = true := by decide +kernel
set_option maxRecDepth 65536 in
theorem w_runnable : about1.curStatus? = some .runnable := by decide +kernel
set_option maxRecDepth 65536 in
theorem w_alone : about1.alone = true := by decide +kernel
set_option maxRecDepth 65536 in
theorem w_named : about1.methodNamed? x = some theMethod := by decide +kernel
set_option maxRecDepth 65536 in
theorem w_hears : about1.hears theMethod below0 = true := by decide +kernel
set_option maxRecDepth 65536 in
theorem w_ripe : about1.ripe theMethod args0 below0 = true := by decide +kernel
theorem w_running : about1.status = .running := rfl
set_option maxRecDepth 65536 in
theorem w_room : about1.hasRoom e0.platform room_1 = true :=
  launch0.hasRoom_least _ room_1 (by decide +kernel) (by decide +kernel) (by decide +kernel) (by decide +kernel) (by decide +kernel) (by decide +kernel)
theorem allAtoms_all (ts : List Jvm.Cond) (a : Array Jvm.Value) (st : Jvm.State) : (allAtoms ts).before a st = ts.all (fun c => c.before a st) := by
  induction ts with
  | nil => rfl
  | cons c t ih =>
    show (Jvm.Cond.and c (allAtoms t)).before a st = _
    rw [Jvm.Cond.before_and, ih, List.all_cons]
def words1 : List Jvm.Cond := Jvm.Cond.code x code maxLocals ret :: tables_1
/-- a 'code' word, met by the world's own term for the bytes: nothing is compared byte by byte -/
theorem code_word {y : MethodName} {bytes : ByteArray} {mx : Nat} {rt : Option FieldType} {a : Array Value} {s : State} {m : MethodId} {meth : Method} {c : Code} (h1 : s.methodNamed? y = some m) (h2 : s.vm.method? m = some meth) (h3 : meth.code = some c) (h4 : c.code = bytes)
    (h5 : (c.maxLocals == mx && c.exceptionTable.isEmpty && decide (c.maxStack ≤ mostOperands) && decide (meth.sig.returnType = rt) && !meth.locks && decide (parseMethodDescriptor y.desc = some meth.sig)) = true) : (Jvm.Cond.code y bytes mx rt).before a s = true := by
  simp only [Bool.and_eq_true, beq_iff_eq, Bool.not_eq_true', decide_eq_true_eq] at h5
  obtain ⟨⟨⟨⟨⟨g1, g2⟩, g3⟩, g4⟩, g5⟩, g6⟩ := h5
  simp [Cond.before, Cond.holds, Cond.value, h1, h2, h3, h4, g1, g2, g3, g4, g5, g6]
def isCode : Jvm.Cond → Bool
  | .code _ _ _ _ => true
  | _ => false
theorem all_split {L : List Jvm.Cond} {P : Jvm.Cond → Bool} (h1 : L.all (fun c => isCode c || P c) = true) (h2 : ∀ c ∈ L.filter isCode, P c = true) : L.all P = true := by
  refine List.all_eq_true.mpr fun c hc => ?_
  have h := List.all_eq_true.mp h1 c hc
  rcases Bool.eq_false_or_eq_true (isCode c) with hi | hi
  · exact h2 c (List.mem_filter.mpr ⟨hc, hi⟩)
  · simpa [hi] using h
set_option maxRecDepth 65536 in
theorem w_c0 : (Jvm.Cond.code x code maxLocals ret).before args0 about1 = true := code_word (m := ⟨1, 1⟩) (meth := k1m1) (c := k1c1) (by decide +kernel) rfl rfl rfl (by decide +kernel)
set_option maxRecDepth 65536 in
theorem w_c1 : (Jvm.Cond.code ({ cls := "com/example/archivolt/archivolt/FileNames", name := "isPlain", desc := "(I)Z" } : Jvm.MethodName) prog_7_method_6_code (1 : Nat) (Option.some Jvm.ClassFile.FieldType.boolean)).before args0 about1 = true := code_word (m := ⟨2, 1⟩) (meth := k2m1) (c := k2c1) (by decide +kernel) rfl rfl rfl (by decide +kernel)
set_option maxRecDepth 65536 in
theorem w_c2 : (Jvm.Cond.code ({ cls := "java/lang/Character", name := "isISOControl", desc := "(I)Z" } : Jvm.MethodName) jdk_89_method_89_code (1 : Nat) (Option.some Jvm.ClassFile.FieldType.boolean)).before args0 about1 = true := code_word (m := ⟨6, 0⟩) (meth := k6m0) (c := k6c0) (by decide +kernel) rfl rfl rfl (by decide +kernel)
def codes1 : List Jvm.Cond := [Jvm.Cond.code x code maxLocals ret, Jvm.Cond.code ({ cls := "com/example/archivolt/archivolt/FileNames", name := "isPlain", desc := "(I)Z" } : Jvm.MethodName) prog_7_method_6_code (1 : Nat) (Option.some Jvm.ClassFile.FieldType.boolean), Jvm.Cond.code ({ cls := "java/lang/Character", name := "isISOControl", desc := "(I)Z" } : Jvm.MethodName) jdk_89_method_89_code (1 : Nat) (Option.some Jvm.ClassFile.FieldType.boolean)]
set_option maxRecDepth 65536 in
theorem codes_eq : words1.filter isCode = codes1 := rfl
theorem w_codes : ∀ c ∈ words1.filter isCode, c.before args0 about1 = true := by
  rw [codes_eq]
  intro c hc
  simp only [codes1, List.mem_cons, List.not_mem_nil, or_false] at hc
  rcases hc with rfl | rfl | rfl
  · exact w_c0
  · exact w_c1
  · exact w_c2
set_option maxRecDepth 65536 in
theorem w_t1 : (words1.take 24).all (fun c => isCode c || c.before args0 about1) = true := by decide +kernel
set_option maxRecDepth 65536 in
theorem w_t2 : (words1.drop 24).all (fun c => isCode c || c.before args0 about1) = true := by decide +kernel
theorem w_tables : (allAtoms (Jvm.Cond.code x code maxLocals ret :: tables_1)).before args0 about1 = true := by
  rw [allAtoms_all]
  show words1.all (fun c => c.before args0 about1) = true
  refine all_split ?_ w_codes
  rw [← List.take_append_drop 24 words1, List.all_append, w_t1, w_t2]
  rfl
set_option maxRecDepth 65536 in
theorem w_case : (Jvm.Cond.and given_1 narrow_1).before args0 about1 = true := by decide +kernel
theorem w_applies : (headSpec (Jvm.Cond.code x code maxLocals ret :: tables_1) room_1).applies x e0.platform about1 = true :=
  (Spec.applies_iff w_frames).mpr ⟨w_running, w_runnable, w_alone, w_named, w_hears, w_ripe, w_room, w_tables⟩
theorem atStart : AtStart classFile x code maxLocals ret World_1 tables_1 room_1 Calls_1 rest_1 Pre_1 launch0 p0 e0 about1 theMethod args0 below0 :=
  ⟨lists_1, trivial, launch0.admits_env _ _ _, launch0.least_env, fairChoices_fair.cas, fairChoices_fair.clock, w_frames, w_args, w_heap, w_applies, trivial, trivial, w_case⟩
end start1
theorem witness_1 : WitnessClaimed_1 := ⟨start1.p0, start1.e0, start1.about1, start1.theMethod, start1.args0, start1.below0, start1.atStart⟩
end Jvm.Pilot.@@N@@
