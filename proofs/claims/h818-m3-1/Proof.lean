import JvmDerived
import JvmDerived.Pilot.@@N@@Statement
import JvmDerived.Pilot.@@N@@Code
set_option linter.unusedVariables false
set_option linter.unusedSimpArgs false
namespace Jvm.RoadKit
open Sem ClassFile Op Lib Jvm.Stand Jvm.Free Jvm.LawKit
section Own
variable {p : Program} {l : Launch} {e : Env} {R : Room} {s : State} {m : MethodId} {args : Array Value} {below : List Frame} {meth : Method} {c : Code} {T : State} {locs : List Loc} {cells slots : Nat}
theorem retI (X : Stand p l e R s m args below meth c T locs cells slots) (hx : p.tables.exec = Jvm.exec) {pc : Nat} {Ls : Array Slot} {z : Int32} {rest : List Value} (hret : meth.sig.returnType = some .int) (hd : decode c.code pc = .ok (.ireturn, 1)) {fs : List Frame}
    (hl : ∀ (f : JFrame) (acts : List Action), f.method = m → f.locked = none → f.entered = [] → (doReturn e (T.setTop f) acts (some (.int z))).1 = T.setFrames fs) : Steps p.tables e below (T.setTop (mkF m pc Ls (.int z :: rest))) (T.setFrames fs) := by
  have hm' : T.vm.method? m = some meth := X.method'
  have hn : narrow .int (.int z) = .int z := rfl
  show Steps p.tables e below (T.setTop { method := m, pc := pc, locals := Ls, stack := _ :: rest, locked := none }) _
  jvm_step X.here [X.here.top, hx, hd, hm', hret, hn]
  first | (intro acts; rw [hl _ acts rfl rfl rfl]) | rw [hl _ _ rfl rfl rfl]
  exact Steps.refl _
/-- the run from st comes to an end of which P holds -/
def own_G (tb : Tables) (e : Env) (below : List Frame) (P : Outcome → State → Prop) (st : State) : Prop :=
  ∃ s₂ o, Steps tb e below st s₂ ∧ s₂.status = .running ∧ Ended s₂ below o ∧ P o s₂
theorem own_st {tb : Tables} {P : Outcome → State → Prop} {st st' : State} (h : ∀ t, Steps tb e below st' t → Steps tb e below st t) (k : own_G tb e below P st') : own_G tb e below P st := by
  obtain ⟨s2, o, h1, h2⟩ := k
  exact ⟨s2, o, h _ h1, h2⟩
def own_P (s : State) (Q : Option Value → Heap → List Loc → Prop) (k n : Nat) (o : Outcome) (U' : State) : Prop :=
  ∃ v L, o = .returned v ∧ Q v U'.heap L ∧ FrameEnd s o U' L k n
theorem own_end {Q : Option Value → Heap → List Loc → Prop} {k n : Nat} {st : State} {v : Option Value} (X : Stand p l e R s m args below meth c T locs cells slots) (hlk : meth.locks = false) (hv : meth.sig.returnType = none → v = none)
    (hst : ∀ fs, (∀ (f : JFrame) (acts : List Action), f.method = m → f.locked = none → f.entered = [] → (doReturn e (T.setTop f) acts v).1 = T.setFrames fs) → Steps p.tables e below st (T.setFrames fs))
    (hQ : Q v T.heap locs) (hk : cells ≤ k) (hn : slots ≤ n) : own_G p.tables e below (own_P s Q k n) st := by
  obtain ⟨fs, hr, hrun, hended, hW, hsame⟩ := X.leave hv hlk
  exact ⟨_, _, hst fs hr, hrun, hended, _, _, rfl, hQ, ⟨_, rfl⟩, hW, hsame.mono hk hn⟩
theorem own_retZ {Q : Option Value → Heap → List Loc → Prop} {k n : Nat} (X : Stand p l e R s m args below meth c T locs cells slots) (hx : p.tables.exec = Jvm.exec) (hlk : meth.locks = false) (hret : meth.sig.returnType = some .boolean) {pc : Nat} {Ls : Array Slot} {z : Int32} {rest : List Value}
    (hd : decode c.code pc = .ok (.ireturn, 1)) (hz : nar .boolean z = z) (hQ : Q (some (.int z)) T.heap locs) (hk : cells ≤ k) (hn : slots ≤ n) : own_G p.tables e below (own_P s Q k n) (T.setTop (mkF m pc Ls (.int z :: rest))) :=
  own_end X hlk (fun h => by rw [hret] at h; cases h) (fun fs hr => retN X hx (t := .boolean) hret (by simp) hd (by rw [hz]; exact hr)) hQ hk hn
theorem own_retI {Q : Option Value → Heap → List Loc → Prop} {k n : Nat} (X : Stand p l e R s m args below meth c T locs cells slots) (hx : p.tables.exec = Jvm.exec) (hlk : meth.locks = false) (hret : meth.sig.returnType = some .int) {pc : Nat} {Ls : Array Slot} {z : Int32} {rest : List Value}
    (hd : decode c.code pc = .ok (.ireturn, 1)) (hQ : Q (some (.int z)) T.heap locs) (hk : cells ≤ k) (hn : slots ≤ n) : own_G p.tables e below (own_P s Q k n) (T.setTop (mkF m pc Ls (.int z :: rest))) :=
  own_end X hlk (fun h => by rw [hret] at h; cases h) (fun fs hr => retI X hx hret hd hr) hQ hk hn
theorem own_retJ {Q : Option Value → Heap → List Loc → Prop} {k n : Nat} (X : Stand p l e R s m args below meth c T locs cells slots) (hx : p.tables.exec = Jvm.exec) (hlk : meth.locks = false) (hret : meth.sig.returnType = some .long) {pc : Nat} {Ls : Array Slot} {z : Int64} {rest : List Value}
    (hd : decode c.code pc = .ok (.lreturn, 1)) (hQ : Q (some (.long z)) T.heap locs) (hk : cells ≤ k) (hn : slots ≤ n) : own_G p.tables e below (own_P s Q k n) (T.setTop (mkF m pc Ls (.long z :: rest))) :=
  own_end X hlk (fun h => by rw [hret] at h; cases h) (fun fs hr => retOut X hx hret rfl (Or.inr (Or.inl ⟨rfl, rfl, _, rfl⟩)) hd hr) hQ hk hn
theorem own_retR {Q : Option Value → Heap → List Loc → Prop} {k n : Nat} {t : FieldType} (X : Stand p l e R s m args below meth c T locs cells slots) (hx : p.tables.exec = Jvm.exec) (hlk : meth.locks = false) (hret : meth.sig.returnType = some t) (ht : t.isReference = true) {pc : Nat} {Ls : Array Slot} {w : Value} {rest : List Value} (hw : w.isRef = true) (hnw : narrow t w = w)
    (hd : decode c.code pc = .ok (.areturn, 1)) (hQ : Q (some w) T.heap locs) (hk : cells ≤ k) (hn : slots ≤ n) : own_G p.tables e below (own_P s Q k n) (T.setTop (mkF m pc Ls (w :: rest))) :=
  own_end X hlk (fun h => by rw [hret] at h; cases h) (fun fs hr => retOut X hx hret hnw (Or.inr (Or.inr (Or.inr (Or.inr ⟨rfl, ht, hw⟩)))) hd hr) hQ hk hn
theorem own_retV {Q : Option Value → Heap → List Loc → Prop} {k n : Nat} (X : Stand p l e R s m args below meth c T locs cells slots) (hx : p.tables.exec = Jvm.exec) (hlk : meth.locks = false) (hret : meth.sig.returnType = none) {pc : Nat} {Ls : Array Slot}
    (hd : decode c.code pc = .ok (.return_, 1)) (hQ : Q none T.heap locs) (hk : cells ≤ k) (hn : slots ≤ n) : own_G p.tables e below (own_P s Q k n) (T.setTop (mkF m pc Ls [])) :=
  own_end X hlk (fun _ => rfl) (fun fs hr => X.returnOut hx hret hd hr) hQ hk hn
theorem own_mono {cells' slots' : Nat} (X : Stand p l e R s m args below meth c T locs cells slots) (h1 : cells ≤ cells') (h2 : slots ≤ slots') : Stand p l e R s m args below meth c T locs cells' slots' :=
  ⟨X.admits, X.cas, X.clock, X.frames, X.room, X.hears, X.method, X.code, X.here, X.tail, X.warmed, X.limits, X.bytes, X.same.mono h1 h2⟩
theorem own_fld {Z : State} {h : Heap} {a : Addr} {C n d : String} {v w : Value} (F : Fld Z h a C n d v) (q : v = w) : Fld Z h a C n d w := q ▸ F
end Own
/-- a boolean as the machine holds it -/
def own_b (P : Prop) [Decidable P] : Int32 := if P then 1 else 0
theorem own_bt {P : Prop} [Decidable P] (h : P) : own_b P = 1 := if_pos h
theorem own_bf {P : Prop} [Decidable P] (h : ¬ P) : own_b P = 0 := if_neg h
theorem own_b1 {P : Prop} [Decidable P] {z : Int32} (hz : z = own_b P) (h : P) : ¬ z = 0 := by rw [hz, own_bt h]; decide
theorem own_b0 {P : Prop} [Decidable P] {z : Int32} (hz : z = own_b P) (h : ¬ P) : z = 0 := by rw [hz, own_bf h]
theorem own_nar {P : Prop} [Decidable P] {z : Int32} (hz : z = own_b P) : nar .boolean z = z := by
  rw [hz]; by_cases h : P
  · rw [own_bt h]; decide
  · rw [own_bf h]; decide
theorem own_fitZ {P : Prop} [Decidable P] {z : Int32} (hz : z = own_b P) : fits .boolean (.int z) = true := by
  rw [hz]; by_cases h : P
  · rw [own_bt h]; decide
  · rw [own_bf h]; decide
theorem own_bc {P Q : Prop} [Decidable P] [Decidable Q] (h : P ↔ Q) : own_b P = own_b Q := by
  by_cases q : Q
  · rw [own_bt q, own_bt (h.mpr q)]
  · rw [own_bf q, own_bf (fun r => q (h.mp r))]
theorem own_bi {P Q : Prop} [Decidable P] [Decidable Q] (h : own_b P = own_b Q) : P ↔ Q := by
  by_cases p : P <;> by_cases q : Q <;> simp_all [own_b]
end Jvm.RoadKit
namespace Jvm.Pilot.@@N@@
open Jvm Jvm.ClassFile Sem Op Lib Jvm.Free Jvm.Stand Jvm.LawKit Jvm.RoadKit Bundle Jvm.Pilot.@@N@@.Jvm.D
theorem pn_0 : plainName "com/example/funnel/funnel/relay/ProgressMovedPinLaw" = true := by first | (simp [plainName, overriddenIn]; done) | decide +kernel
theorem d1_0 : decode prog_48_method_1_code 0 = .ok (.aload_n 0, 1) := by decide +kernel
theorem d1_1 : decode prog_48_method_1_code 1 = .ok (.invokespecial 1, 3) := by decide +kernel
theorem d1_4 : decode prog_48_method_1_code 4 = .ok (.aload_n 0, 1) := by decide +kernel
theorem d1_5 : decode prog_48_method_1_code 5 = .ok (.lload_n 1, 1) := by decide +kernel
theorem d1_6 : decode prog_48_method_1_code 6 = .ok (.putfield 7, 3) := by decide +kernel
theorem d1_9 : decode prog_48_method_1_code 9 = .ok (.return_, 1) := by decide +kernel
theorem pn_1 : plainName "com/example/funnel/funnel/relay/Progress" = true := by first | (simp [plainName, overriddenIn]; done) | decide +kernel
theorem d3_0 : decode prog_48_method_2_code 0 = .ok (.iload_n 1, 1) := by decide +kernel
theorem d3_1 : decode prog_48_method_2_code 1 = .ok (.ifCond .eq 20, 3) := by decide +kernel
theorem d3_4 : decode prog_48_method_2_code 4 = .ok (.aload_n 0, 1) := by decide +kernel
theorem d3_5 : decode prog_48_method_2_code 5 = .ok (.getfield 13, 3) := by decide +kernel
theorem d3_8 : decode prog_48_method_2_code 8 = .ok (.ifCond .ne 13, 3) := by decide +kernel
theorem d3_11 : decode prog_48_method_2_code 11 = .ok (.aload_n 0, 1) := by decide +kernel
theorem d3_12 : decode prog_48_method_2_code 12 = .ok (.lload_n 2, 1) := by decide +kernel
theorem d3_13 : decode prog_48_method_2_code 13 = .ok (.putfield 17, 3) := by decide +kernel
theorem d3_16 : decode prog_48_method_2_code 16 = .ok (.aload_n 0, 1) := by decide +kernel
theorem d3_17 : decode prog_48_method_2_code 17 = .ok (.lconst 0, 1) := by decide +kernel
theorem d3_18 : decode prog_48_method_2_code 18 = .ok (.putfield 20, 3) := by decide +kernel
theorem d3_21 : decode prog_48_method_2_code 21 = .ok (.aload_n 0, 1) := by decide +kernel
theorem d3_22 : decode prog_48_method_2_code 22 = .ok (.iload_n 1, 1) := by decide +kernel
theorem d3_23 : decode prog_48_method_2_code 23 = .ok (.putfield 13, 3) := by decide +kernel
theorem d3_26 : decode prog_48_method_2_code 26 = .ok (.return_, 1) := by decide +kernel
theorem pn_3 : plainName "com/example/funnel/funnel/relay/Progress" = true := by first | (simp [plainName, overriddenIn]; done) | decide +kernel
theorem d4_0 : decode prog_48_method_3_code 0 = .ok (.aload_n 0, 1) := by decide +kernel
theorem d4_1 : decode prog_48_method_3_code 1 = .ok (.dup, 1) := by decide +kernel
theorem d4_2 : decode prog_48_method_3_code 2 = .ok (.getfield 20, 3) := by decide +kernel
theorem d4_5 : decode prog_48_method_3_code 5 = .ok (.lload_n 1, 1) := by decide +kernel
theorem d4_6 : decode prog_48_method_3_code 6 = .ok (.ladd, 1) := by decide +kernel
theorem d4_7 : decode prog_48_method_3_code 7 = .ok (.putfield 20, 3) := by decide +kernel
theorem d4_10 : decode prog_48_method_3_code 10 = .ok (.aload_n 0, 1) := by decide +kernel
theorem d4_11 : decode prog_48_method_3_code 11 = .ok (.getfield 20, 3) := by decide +kernel
theorem d4_14 : decode prog_48_method_3_code 14 = .ok (.aload_n 0, 1) := by decide +kernel
theorem d4_15 : decode prog_48_method_3_code 15 = .ok (.getfield 7, 3) := by decide +kernel
theorem d4_18 : decode prog_48_method_3_code 18 = .ok (.lcmp, 1) := by decide +kernel
theorem d4_19 : decode prog_48_method_3_code 19 = .ok (.ifCond .lt 13, 3) := by decide +kernel
theorem d4_22 : decode prog_48_method_3_code 22 = .ok (.aload_n 0, 1) := by decide +kernel
theorem d4_23 : decode prog_48_method_3_code 23 = .ok (.lload_n 3, 1) := by decide +kernel
theorem d4_24 : decode prog_48_method_3_code 24 = .ok (.putfield 17, 3) := by decide +kernel
theorem d4_27 : decode prog_48_method_3_code 27 = .ok (.aload_n 0, 1) := by decide +kernel
theorem d4_28 : decode prog_48_method_3_code 28 = .ok (.lconst 0, 1) := by decide +kernel
theorem d4_29 : decode prog_48_method_3_code 29 = .ok (.putfield 20, 3) := by decide +kernel
theorem d4_32 : decode prog_48_method_3_code 32 = .ok (.return_, 1) := by decide +kernel
theorem pn_4 : plainName "com/example/funnel/funnel/relay/Progress" = true := by first | (simp [plainName, overriddenIn]; done) | decide +kernel
theorem d5_0 : decode prog_48_method_4_code 0 = .ok (.aload_n 0, 1) := by decide +kernel
theorem d5_1 : decode prog_48_method_4_code 1 = .ok (.getfield 13, 3) := by decide +kernel
theorem d5_4 : decode prog_48_method_4_code 4 = .ok (.ifCond .eq 12, 3) := by decide +kernel
theorem d5_7 : decode prog_48_method_4_code 7 = .ok (.aload_n 0, 1) := by decide +kernel
theorem d5_8 : decode prog_48_method_4_code 8 = .ok (.getfield 17, 3) := by decide +kernel
theorem d5_11 : decode prog_48_method_4_code 11 = .ok (.lload_n 1, 1) := by decide +kernel
theorem d5_12 : decode prog_48_method_4_code 12 = .ok (.ladd, 1) := by decide +kernel
theorem d5_13 : decode prog_48_method_4_code 13 = .ok (.goto 6, 3) := by decide +kernel
theorem d5_19 : decode prog_48_method_4_code 19 = .ok (.lreturn, 1) := by decide +kernel
theorem pn_5 : plainName "com/example/funnel/funnel/relay/Progress" = true := by first | (simp [plainName, overriddenIn]; done) | decide +kernel
theorem pd_0 : parseMethodDescriptor "(J)V" = some ⟨[.long], none⟩ := by decide +kernel
theorem pd_1 : parseMethodDescriptor "(ZJ)V" = some ⟨[.boolean, .long], none⟩ := by decide +kernel
theorem pd_2 : parseMethodDescriptor "(JJ)V" = some ⟨[.long, .long], none⟩ := by decide +kernel
theorem pd_3 : parseMethodDescriptor "(J)J" = some ⟨[.long], some .long⟩ := by decide +kernel
theorem ef_1 (m : MethodId) (x0 : Addr) (x1 : Int64) : entryFrame m #[(.ref x0), (.long x1)] 3 = mkF m 0 #[.val (.ref x0), .val (.long x1), .second] [] := by first | (simp [entryFrame, mkF, argsToLocals, Value.category]; done) | rfl
theorem ef_3 (m : MethodId) (x0 : Addr) (x2 : Int64) : entryFrame m #[(.ref x0), (.int (1 : Int32)), (.long x2)] 4 = mkF m 0 #[.val (.ref x0), .val (.int (1 : Int32)), .val (.long x2), .second] [] := by first | (simp [entryFrame, mkF, argsToLocals, Value.category]; done) | rfl
theorem ef_4 (m : MethodId) (x0 : Addr) (x1 : Int64) (x2 : Int64) : entryFrame m #[(.ref x0), (.long x1), (.long x2)] 5 = mkF m 0 #[.val (.ref x0), .val (.long x1), .second, .val (.long x2), .second] [] := by first | (simp [entryFrame, mkF, argsToLocals, Value.category]; done) | rfl
theorem ef_5 (m : MethodId) (x0 : Addr) (x1 : Int64) : entryFrame m #[(.ref x0), (.long x1)] 3 = mkF m 0 #[.val (.ref x0), .val (.long x1), .second] [] := by first | (simp [entryFrame, mkF, argsToLocals, Value.category]; done) | rfl
theorem ef_0 (m : MethodId) (x0 : Int64) (x1 : Int64) (x2 : Int64) (x3 : Int64) (x4 : Int64) (x5 : Int64) : entryFrame m #[(.long x0), (.long x1), (.long x2), (.long x3), (.long x4), (.long x5)] maxLocals = mkF m 0 #[.val (.long x0), .second, .val (.long x1), .second, .val (.long x2), .second, .val (.long x3), .second, .val (.long x4), .second, .val (.long x5), .second, .unset, .unset, .unset, .unset, .unset, .unset, .unset, .unset, .unset, .unset, .unset, .unset, .unset, .unset] [] := by first | (simp [entryFrame, mkF, argsToLocals, Value.category, maxLocals]; done) | rfl
theorem own_1 (a n t0 t1 : Int64) : ((if ((0 : Int64) + a) < n then t0 else t1) + (0 : Int64)) = (if ¬ (a < n) then t1 else t0) := by
  rw [Int64.zero_add, Int64.add_zero]
  by_cases h : a < n
  · rw [if_pos h, if_neg (not_not_intro h)]
  · rw [if_neg h, if_pos h]
theorem own_2 (a b n t0 t1 t2 : Int64) : ((if ((if ((0 : Int64) + a) < n then ((0 : Int64) + a) else (0 : Int64)) + b) < n then (if ((0 : Int64) + a) < n then t0 else t1) else t2) + (0 : Int64)) = (if (if ¬ (a < n) then b else (a + b)) < n then (if ¬ (a < n) then t1 else t0) else t2) := by
  rw [Int64.zero_add, Int64.add_zero]
  by_cases h : a < n
  · rw [if_pos h, if_pos h, if_neg (not_not_intro h), if_neg (not_not_intro h)]
  · rw [if_neg h, if_neg h, if_pos h, if_pos h, Int64.zero_add]
def Q1 (Z : State) (a1 : Addr) (q1 : Int64) (u_leastBytes_a1 : Int64) (u_waiting_a1 : Int32) (u_since_a1 : Int64) (u_bytes_a1 : Int64) (h0 : Heap) (n0 : Nat) (v : Option Value) (h : Heap) (L : List Loc) : Prop := v = none ∧ Fr n0 L ∧ Keep h0 h [a1] ∧ Exa Z h a1 "com/example/funnel/funnel/relay/Progress" ∧ Fld Z h a1 "com/example/funnel/funnel/relay/Progress" "leastBytes" "J" (.long q1) ∧ Fld Z h a1 "com/example/funnel/funnel/relay/Progress" "waiting" "Z" (.int u_waiting_a1) ∧ Fld Z h a1 "com/example/funnel/funnel/relay/Progress" "since" "J" (.long u_since_a1) ∧ Fld Z h a1 "com/example/funnel/funnel/relay/Progress" "bytes" "J" (.long u_bytes_a1)
set_option maxRecDepth 65536 in
set_option maxHeartbeats 40000000 in
theorem rm1 (l : Launch) (Z : State) (a0 : Array Value) (hw : ∀ d ∈ tables_1, d.before a0 Z = true) (ws : List Jvm.Cond) (a1 : Addr) (q1 : Int64) (u_leastBytes_a1 : Int64) (u_waiting_a1 : Int32) (u_since_a1 : Int64) (u_bytes_a1 : Int64) (h0 : Heap) (n0 : Nat) (Z0 : n0 ≤ h0.size) (F_leastBytes_a1 : Fld Z h0 a1 "com/example/funnel/funnel/relay/Progress" "leastBytes" "J" (.long u_leastBytes_a1)) (F_waiting_a1 : Fld Z h0 a1 "com/example/funnel/funnel/relay/Progress" "waiting" "Z" (.int u_waiting_a1)) (F_since_a1 : Fld Z h0 a1 "com/example/funnel/funnel/relay/Progress" "since" "J" (.long u_since_a1)) (F_bytes_a1 : Fld Z h0 a1 "com/example/funnel/funnel/relay/Progress" "bytes" "J" (.long u_bytes_a1)) (E_a1 : Exa Z h0 a1 "com/example/funnel/funnel/relay/Progress") (ge_a1 : n0 ≤ a1) :
    MetFree l (⟨"com/example/funnel/funnel/relay/Progress", "<init>", "(J)V"⟩ : MethodName) (head1 (Jvm.Cond.code (⟨"com/example/funnel/funnel/relay/Progress", "<init>", "(J)V"⟩ : MethodName) prog_48_method_1_code 3 none :: ws) ({ frames := 1, cells := 0, slots := 0, locals := 12 } : Room)) (fun a U => a = #[(.ref a1), (.long q1)] ∧ Z.Warmed39 U.vm ∧ U.heap = h0) (fun _ _ _ _ _ => True) (fun _ U o U' => ∃ v L, o = .returned v ∧ Q1 Z a1 q1 u_leastBytes_a1 u_waiting_a1 u_since_a1 u_bytes_a1 h0 n0 v U'.heap L ∧ FrameEnd U o U' L ({ frames := 1, cells := 0, slots := 0, locals := 12 } : Room).cells ({ frames := 1, cells := 0, slots := 0, locals := 12 } : Room).slots) := by
  refine MetFree.of_bodySF (plainFor_of_name pn_1) hisR ?_
  intro p e s m args below meth c s₁ Bd hml0 hP hK
  obtain ⟨rfl, hZ, hh⟩ := hP
  have hx := Bd.exec
  have hby := Bd.bytes
  have hlk := BodyLoose.notSynchronized Bd
  have hml : c.maxLocals = 3 := hml0
  have hown : s.vm.findClass "com/example/funnel/funnel/relay/Progress" = some m.cls := findClass_of_methodNamed Bd.named
  have hnm := (name_of_methodNamed Bd.named Bd.method).1
  have X0 : Stand p l e ({ frames := 1, cells := 0, slots := 0, locals := 12 } : Room) s m #[(.ref a1), (.long q1)] below meth c s₁ [] 0 0 := Stand.of_body Bd
  have e0 : s₁.heap = h0 := by rw [← hh, Bd.state]; rfl
  have N0 := Fr.nil n0
  have K0 := Keep.refl h0 [a1]
  show own_G p.tables e below (own_P s (Q1 Z a1 q1 u_leastBytes_a1 u_waiting_a1 u_since_a1 u_bytes_a1 h0 n0) 0 0) (s₁.setTop (entryFrame m #[(.ref a1), (.long q1)] 3))
  refine own_st (fun t k => castTop (ef_1 m a1 q1) k) ?_
  show own_G p.tables e below _ (s₁.setTop (mkF m 0 #[.val (.ref a1), .val (.long q1), .second] []))
  refine own_st (fun _ k => XS.aloadN X0.here hx rfl (hb hby d1_0) rfl rfl k) ?_
  show own_G p.tables e below _ (s₁.setTop (mkF m 1 #[.val (.ref a1), .val (.long q1), .second] [(.ref a1)]))
  obtain ⟨T1, X1, e1, st1⟩ := initO X0 hx hZ hown (hw _ (List.mem_of_getElem? (i := 7) rfl)) (hw _ (List.mem_of_getElem? (i := 8) rfl)) (hw _ (List.mem_of_getElem? (i := 9) rfl)) e0 (g := (mkF m 1 #[.val (.ref a1), .val (.long q1), .second] [(.ref a1)])) rfl (by rw [hml]; rfl) rfl (hb hby d1_1) (by decide) (W := 0) (by show 2 * 0 + _ ≤ _; exact Nat.le_of_eq rfl) (by decide)
  refine own_st st1 ?_
  show own_G p.tables e below _ (T1.setTop (mkF m 4 #[.val (.ref a1), .val (.long q1), .second] []))
  refine own_st (fun _ k => XS.aloadN X1.here hx rfl (hb hby d1_4) rfl rfl k) ?_
  show own_G p.tables e below _ (T1.setTop (mkF m 5 #[.val (.ref a1), .val (.long q1), .second] [(.ref a1)]))
  refine own_st (fun _ k => XS.lloadN X1.here hx rfl (hb hby d1_5) rfl k) ?_
  show own_G p.tables e below _ (T1.setTop (mkF m 6 #[.val (.ref a1), .val (.long q1), .second] [(.long q1), (.ref a1)]))
  obtain ⟨T2, h2, X2, e2, W2, st2⟩ := putF X1 hx hZ hown (host := "") (Or.inl (hw _ (List.mem_of_getElem? (i := 10) rfl))) Via.refl e1 F_leastBytes_a1 E_a1 (Or.inr ⟨(hw _ (List.mem_of_getElem? (i := 11) rfl)), rfl, hnm⟩) (hw _ (List.mem_of_getElem? (i := 2) rfl)) (ty := .long) (by decide) rfl rfl (g := (mkF m 6 #[.val (.ref a1), .val (.long q1), .second] [(.long q1), (.ref a1)])) rfl rfl (hb hby d1_6)
  have N2 := Fr.snoc X2 N0 ge_a1
  have E3 := E_a1.wr W2
  have F4 := F_leastBytes_a1.same W2
  have F5 := F_waiting_a1.other W2 (Or.inr (slot_ne (Or.inl (hw _ (List.mem_of_getElem? (i := 18) rfl))) (Or.inr (hw _ (List.mem_of_getElem? (i := 11) rfl))) (by decide) (t := .boolean) (t' := .long) (by decide) (by decide)))
  have F6 := F_since_a1.other W2 (Or.inr (slot_ne (Or.inl (hw _ (List.mem_of_getElem? (i := 20) rfl))) (Or.inr (hw _ (List.mem_of_getElem? (i := 11) rfl))) (by decide) (t := .long) (t' := .long) (by decide) (by decide)))
  have F7 := F_bytes_a1.other W2 (Or.inr (slot_ne (Or.inl (hw _ (List.mem_of_getElem? (i := 22) rfl))) (Or.inr (hw _ (List.mem_of_getElem? (i := 11) rfl))) (by decide) (t := .long) (t' := .long) (by decide) (by decide)))
  have Z8 := Nat.le_trans Z0 (Keep.of_wr W2).1
  have K9 := K0.wr W2 (Or.inl (List.mem_of_getElem? (i := 0) rfl))
  refine own_st st2 ?_
  show own_G p.tables e below _ (T2.setTop (mkF m 9 #[.val (.ref a1), .val (.long q1), .second] []))
  exact own_retV X2 hx hlk Bd.returns (hb hby d1_9) (by rw [e2]; exact ⟨rfl, N2, K9, E3, F4, F5, F6, F7⟩) (by decide) (by decide)
def Q3 (Z : State) (a1 : Addr) (q1 : Int64) (u_leastBytes_a1 : Int64) (u_waiting_a1 : Int32) (u_since_a1 : Int64) (u_bytes_a1 : Int64) (h0 : Heap) (n0 : Nat) (v : Option Value) (h : Heap) (L : List Loc) : Prop := v = none ∧ Fr n0 L ∧ Keep h0 h [a1] ∧ Exa Z h a1 "com/example/funnel/funnel/relay/Progress" ∧ Fld Z h a1 "com/example/funnel/funnel/relay/Progress" "leastBytes" "J" (.long u_leastBytes_a1) ∧ Fld Z h a1 "com/example/funnel/funnel/relay/Progress" "waiting" "Z" (.int (1 : Int32)) ∧ Fld Z h a1 "com/example/funnel/funnel/relay/Progress" "since" "J" (.long q1) ∧ Fld Z h a1 "com/example/funnel/funnel/relay/Progress" "bytes" "J" (.long (0 : Int64))
set_option maxRecDepth 65536 in
set_option maxHeartbeats 40000000 in
theorem rm3 (l : Launch) (Z : State) (a0 : Array Value) (hw : ∀ d ∈ tables_1, d.before a0 Z = true) (ws : List Jvm.Cond) (a1 : Addr) (q1 : Int64) (u_leastBytes_a1 : Int64) (u_waiting_a1 : Int32) (u_since_a1 : Int64) (u_bytes_a1 : Int64) (h0 : Heap) (n0 : Nat) (Z0 : n0 ≤ h0.size) (F_leastBytes_a1 : Fld Z h0 a1 "com/example/funnel/funnel/relay/Progress" "leastBytes" "J" (.long u_leastBytes_a1)) (F_waiting_a1 : Fld Z h0 a1 "com/example/funnel/funnel/relay/Progress" "waiting" "Z" (.int u_waiting_a1)) (F_since_a1 : Fld Z h0 a1 "com/example/funnel/funnel/relay/Progress" "since" "J" (.long u_since_a1)) (F_bytes_a1 : Fld Z h0 a1 "com/example/funnel/funnel/relay/Progress" "bytes" "J" (.long u_bytes_a1)) (E_a1 : Exa Z h0 a1 "com/example/funnel/funnel/relay/Progress") (hu : u_waiting_a1 = (0 : Int32)) (ge_a1 : n0 ≤ a1) :
    MetFree l (⟨"com/example/funnel/funnel/relay/Progress", "waiting", "(ZJ)V"⟩ : MethodName) (head1 (Jvm.Cond.code (⟨"com/example/funnel/funnel/relay/Progress", "waiting", "(ZJ)V"⟩ : MethodName) prog_48_method_2_code 4 none :: ws) ({ frames := 0, cells := 0, slots := 0, locals := 0 } : Room)) (fun a U => a = #[(.ref a1), (.int (1 : Int32)), (.long q1)] ∧ Z.Warmed39 U.vm ∧ U.heap = h0) (fun _ _ _ _ _ => True) (fun _ U o U' => ∃ v L, o = .returned v ∧ Q3 Z a1 q1 u_leastBytes_a1 u_waiting_a1 u_since_a1 u_bytes_a1 h0 n0 v U'.heap L ∧ FrameEnd U o U' L ({ frames := 0, cells := 0, slots := 0, locals := 0 } : Room).cells ({ frames := 0, cells := 0, slots := 0, locals := 0 } : Room).slots) := by
  refine MetFree.of_bodySF (plainFor_of_name pn_3) hisR ?_
  intro p e s m args below meth c s₁ Bd hml0 hP hK
  obtain ⟨rfl, hZ, hh⟩ := hP
  have hx := Bd.exec
  have hby := Bd.bytes
  have hlk := BodyLoose.notSynchronized Bd
  have hml : c.maxLocals = 4 := hml0
  have hown : s.vm.findClass "com/example/funnel/funnel/relay/Progress" = some m.cls := findClass_of_methodNamed Bd.named
  have hnm := (name_of_methodNamed Bd.named Bd.method).1
  have X0 : Stand p l e ({ frames := 0, cells := 0, slots := 0, locals := 0 } : Room) s m #[(.ref a1), (.int (1 : Int32)), (.long q1)] below meth c s₁ [] 0 0 := Stand.of_body Bd
  have e0 : s₁.heap = h0 := by rw [← hh, Bd.state]; rfl
  have N0 := Fr.nil n0
  have K0 := Keep.refl h0 [a1]
  show own_G p.tables e below (own_P s (Q3 Z a1 q1 u_leastBytes_a1 u_waiting_a1 u_since_a1 u_bytes_a1 h0 n0) 0 0) (s₁.setTop (entryFrame m #[(.ref a1), (.int (1 : Int32)), (.long q1)] 4))
  refine own_st (fun t k => castTop (ef_3 m a1 q1) k) ?_
  show own_G p.tables e below _ (s₁.setTop (mkF m 0 #[.val (.ref a1), .val (.int (1 : Int32)), .val (.long q1), .second] []))
  refine own_st (fun _ k => XS.iloadN X0.here hx rfl (hb hby d3_0) rfl k) ?_
  show own_G p.tables e below _ (s₁.setTop (mkF m 1 #[.val (.ref a1), .val (.int (1 : Int32)), .val (.long q1), .second] [(.int (1 : Int32))]))
  refine own_st (fun _ k => XS.ifNo X0.here hx rfl (hb hby d3_1) rfl (by decide) k) ?_
  show own_G p.tables e below _ (s₁.setTop (mkF m 4 #[.val (.ref a1), .val (.int (1 : Int32)), .val (.long q1), .second] []))
  refine own_st (fun _ k => XS.aloadN X0.here hx rfl (hb hby d3_4) rfl rfl k) ?_
  show own_G p.tables e below _ (s₁.setTop (mkF m 5 #[.val (.ref a1), .val (.int (1 : Int32)), .val (.long q1), .second] [(.ref a1)]))
  obtain ⟨T1, X1, e1, st1⟩ := getF X0 hx hZ hown (host := "") (Or.inl (hw _ (List.mem_of_getElem? (i := 17) rfl))) Via.refl e0 F_waiting_a1 (g := (mkF m 5 #[.val (.ref a1), .val (.int (1 : Int32)), .val (.long q1), .second] [(.ref a1)])) rfl rfl (hb hby d3_5)
  refine own_st st1 ?_
  show own_G p.tables e below _ (T1.setTop (mkF m 8 #[.val (.ref a1), .val (.int (1 : Int32)), .val (.long q1), .second] [(.int u_waiting_a1)]))
  have hf2 : u_waiting_a1 = (0 : Int32) := hu
  refine own_st (fun _ k => XS.ifNo X1.here hx rfl (hb hby d3_8) rfl ((if0 _ _).trans (teq hf2).2) k) ?_
  show own_G p.tables e below _ (T1.setTop (mkF m 11 #[.val (.ref a1), .val (.int (1 : Int32)), .val (.long q1), .second] []))
  refine own_st (fun _ k => XS.aloadN X1.here hx rfl (hb hby d3_11) rfl rfl k) ?_
  show own_G p.tables e below _ (T1.setTop (mkF m 12 #[.val (.ref a1), .val (.int (1 : Int32)), .val (.long q1), .second] [(.ref a1)]))
  refine own_st (fun _ k => XS.lloadN X1.here hx rfl (hb hby d3_12) rfl k) ?_
  show own_G p.tables e below _ (T1.setTop (mkF m 13 #[.val (.ref a1), .val (.int (1 : Int32)), .val (.long q1), .second] [(.long q1), (.ref a1)]))
  obtain ⟨T3, h3, X3, e3, W3, st3⟩ := putF X1 hx hZ hown (host := "") (Or.inl (hw _ (List.mem_of_getElem? (i := 19) rfl))) Via.refl e1 F_since_a1 E_a1 (Or.inl (hw _ (List.mem_of_getElem? (i := 20) rfl))) (hw _ (List.mem_of_getElem? (i := 2) rfl)) (ty := .long) (by decide) rfl rfl (g := (mkF m 13 #[.val (.ref a1), .val (.int (1 : Int32)), .val (.long q1), .second] [(.long q1), (.ref a1)])) rfl rfl (hb hby d3_13)
  have N3 := Fr.snoc X3 N0 ge_a1
  have E4 := E_a1.wr W3
  have F5 := F_leastBytes_a1.other W3 (Or.inr (slot_ne (Or.inr (hw _ (List.mem_of_getElem? (i := 11) rfl))) (Or.inl (hw _ (List.mem_of_getElem? (i := 20) rfl))) (by decide) (t := .long) (t' := .long) (by decide) (by decide)))
  have F6 := F_waiting_a1.other W3 (Or.inr (slot_ne (Or.inl (hw _ (List.mem_of_getElem? (i := 18) rfl))) (Or.inl (hw _ (List.mem_of_getElem? (i := 20) rfl))) (by decide) (t := .boolean) (t' := .long) (by decide) (by decide)))
  have F7 := F_since_a1.same W3
  have F8 := F_bytes_a1.other W3 (Or.inr (slot_ne (Or.inl (hw _ (List.mem_of_getElem? (i := 22) rfl))) (Or.inl (hw _ (List.mem_of_getElem? (i := 20) rfl))) (by decide) (t := .long) (t' := .long) (by decide) (by decide)))
  have Z9 := Nat.le_trans Z0 (Keep.of_wr W3).1
  have K10 := K0.wr W3 (Or.inl (List.mem_of_getElem? (i := 0) rfl))
  refine own_st st3 ?_
  show own_G p.tables e below _ (T3.setTop (mkF m 16 #[.val (.ref a1), .val (.int (1 : Int32)), .val (.long q1), .second] []))
  refine own_st (fun _ k => XS.aloadN X3.here hx rfl (hb hby d3_16) rfl rfl k) ?_
  show own_G p.tables e below _ (T3.setTop (mkF m 17 #[.val (.ref a1), .val (.int (1 : Int32)), .val (.long q1), .second] [(.ref a1)]))
  refine own_st (fun _ k => XS.lconst X3.here hx rfl (hb hby d3_17) k) ?_
  show own_G p.tables e below _ (T3.setTop (mkF m 18 #[.val (.ref a1), .val (.int (1 : Int32)), .val (.long q1), .second] [(.long (0 : Int64)), (.ref a1)]))
  obtain ⟨T11, h11, X11, e11, W11, st11⟩ := putF X3 hx hZ hown (host := "") (Or.inl (hw _ (List.mem_of_getElem? (i := 21) rfl))) Via.refl e3 F8 E4 (Or.inl (hw _ (List.mem_of_getElem? (i := 22) rfl))) (hw _ (List.mem_of_getElem? (i := 2) rfl)) (ty := .long) (by decide) rfl rfl (g := (mkF m 18 #[.val (.ref a1), .val (.int (1 : Int32)), .val (.long q1), .second] [(.long (0 : Int64)), (.ref a1)])) rfl rfl (hb hby d3_18)
  have N11 := Fr.snoc X11 N3 ge_a1
  have E12 := E4.wr W11
  have F13 := F5.other W11 (Or.inr (slot_ne (Or.inr (hw _ (List.mem_of_getElem? (i := 11) rfl))) (Or.inl (hw _ (List.mem_of_getElem? (i := 22) rfl))) (by decide) (t := .long) (t' := .long) (by decide) (by decide)))
  have F14 := F6.other W11 (Or.inr (slot_ne (Or.inl (hw _ (List.mem_of_getElem? (i := 18) rfl))) (Or.inl (hw _ (List.mem_of_getElem? (i := 22) rfl))) (by decide) (t := .boolean) (t' := .long) (by decide) (by decide)))
  have F15 := F7.other W11 (Or.inr (slot_ne (Or.inl (hw _ (List.mem_of_getElem? (i := 20) rfl))) (Or.inl (hw _ (List.mem_of_getElem? (i := 22) rfl))) (by decide) (t := .long) (t' := .long) (by decide) (by decide)))
  have F16 := F8.same W11
  have Z17 := Nat.le_trans Z9 (Keep.of_wr W11).1
  have K18 := K10.wr W11 (Or.inl (List.mem_of_getElem? (i := 0) rfl))
  refine own_st st11 ?_
  show own_G p.tables e below _ (T11.setTop (mkF m 21 #[.val (.ref a1), .val (.int (1 : Int32)), .val (.long q1), .second] []))
  refine own_st (fun _ k => XS.aloadN X11.here hx rfl (hb hby d3_21) rfl rfl k) ?_
  show own_G p.tables e below _ (T11.setTop (mkF m 22 #[.val (.ref a1), .val (.int (1 : Int32)), .val (.long q1), .second] [(.ref a1)]))
  refine own_st (fun _ k => XS.iloadN X11.here hx rfl (hb hby d3_22) rfl k) ?_
  show own_G p.tables e below _ (T11.setTop (mkF m 23 #[.val (.ref a1), .val (.int (1 : Int32)), .val (.long q1), .second] [(.int (1 : Int32)), (.ref a1)]))
  obtain ⟨T19, h19, X19, e19, W19, st19⟩ := putF X11 hx hZ hown (host := "") (Or.inl (hw _ (List.mem_of_getElem? (i := 17) rfl))) Via.refl e11 F14 E12 (Or.inl (hw _ (List.mem_of_getElem? (i := 18) rfl))) (hw _ (List.mem_of_getElem? (i := 2) rfl)) (ty := .boolean) (by decide) rfl rfl (g := (mkF m 23 #[.val (.ref a1), .val (.int (1 : Int32)), .val (.long q1), .second] [(.int (1 : Int32)), (.ref a1)])) rfl rfl (hb hby d3_23)
  have N19 := Fr.snoc X19 N11 ge_a1
  have E20 := E12.wr W19
  have F21 := F13.other W19 (Or.inr (slot_ne (Or.inr (hw _ (List.mem_of_getElem? (i := 11) rfl))) (Or.inl (hw _ (List.mem_of_getElem? (i := 18) rfl))) (by decide) (t := .long) (t' := .boolean) (by decide) (by decide)))
  have F22 := F14.same W19
  have F23 := F15.other W19 (Or.inr (slot_ne (Or.inl (hw _ (List.mem_of_getElem? (i := 20) rfl))) (Or.inl (hw _ (List.mem_of_getElem? (i := 18) rfl))) (by decide) (t := .long) (t' := .boolean) (by decide) (by decide)))
  have F24 := F16.other W19 (Or.inr (slot_ne (Or.inl (hw _ (List.mem_of_getElem? (i := 22) rfl))) (Or.inl (hw _ (List.mem_of_getElem? (i := 18) rfl))) (by decide) (t := .long) (t' := .boolean) (by decide) (by decide)))
  have Z25 := Nat.le_trans Z17 (Keep.of_wr W19).1
  have K26 := K18.wr W19 (Or.inl (List.mem_of_getElem? (i := 0) rfl))
  refine own_st st19 ?_
  show own_G p.tables e below _ (T19.setTop (mkF m 26 #[.val (.ref a1), .val (.int (1 : Int32)), .val (.long q1), .second] []))
  exact own_retV X19 hx hlk Bd.returns (hb hby d3_26) (by rw [e19]; exact ⟨rfl, N19, K26, E20, F21, F22, F23, F24⟩) (by decide) (by decide)
def Q4 (Z : State) (a1 : Addr) (q1 : Int64) (q2 : Int64) (u_leastBytes_a1 : Int64) (u_waiting_a1 : Int32) (u_since_a1 : Int64) (u_bytes_a1 : Int64) (h0 : Heap) (n0 : Nat) (v : Option Value) (h : Heap) (L : List Loc) : Prop := v = none ∧ Fr n0 L ∧ Keep h0 h [a1] ∧ Exa Z h a1 "com/example/funnel/funnel/relay/Progress" ∧ Fld Z h a1 "com/example/funnel/funnel/relay/Progress" "leastBytes" "J" (.long u_leastBytes_a1) ∧ Fld Z h a1 "com/example/funnel/funnel/relay/Progress" "waiting" "Z" (.int u_waiting_a1) ∧ Fld Z h a1 "com/example/funnel/funnel/relay/Progress" "since" "J" (.long (if (u_bytes_a1 + q1) < u_leastBytes_a1 then u_since_a1 else q2)) ∧ Fld Z h a1 "com/example/funnel/funnel/relay/Progress" "bytes" "J" (.long (if (u_bytes_a1 + q1) < u_leastBytes_a1 then (u_bytes_a1 + q1) else (0 : Int64)))
set_option maxRecDepth 65536 in
set_option maxHeartbeats 40000000 in
theorem rm4 (l : Launch) (Z : State) (a0 : Array Value) (hw : ∀ d ∈ tables_1, d.before a0 Z = true) (ws : List Jvm.Cond) (a1 : Addr) (q1 : Int64) (q2 : Int64) (u_leastBytes_a1 : Int64) (u_waiting_a1 : Int32) (u_since_a1 : Int64) (u_bytes_a1 : Int64) (h0 : Heap) (n0 : Nat) (Z0 : n0 ≤ h0.size) (F_leastBytes_a1 : Fld Z h0 a1 "com/example/funnel/funnel/relay/Progress" "leastBytes" "J" (.long u_leastBytes_a1)) (F_waiting_a1 : Fld Z h0 a1 "com/example/funnel/funnel/relay/Progress" "waiting" "Z" (.int u_waiting_a1)) (F_since_a1 : Fld Z h0 a1 "com/example/funnel/funnel/relay/Progress" "since" "J" (.long u_since_a1)) (F_bytes_a1 : Fld Z h0 a1 "com/example/funnel/funnel/relay/Progress" "bytes" "J" (.long u_bytes_a1)) (E_a1 : Exa Z h0 a1 "com/example/funnel/funnel/relay/Progress") (ge_a1 : n0 ≤ a1) :
    MetFree l (⟨"com/example/funnel/funnel/relay/Progress", "moved", "(JJ)V"⟩ : MethodName) (head1 (Jvm.Cond.code (⟨"com/example/funnel/funnel/relay/Progress", "moved", "(JJ)V"⟩ : MethodName) prog_48_method_3_code 5 none :: ws) ({ frames := 0, cells := 0, slots := 0, locals := 0 } : Room)) (fun a U => a = #[(.ref a1), (.long q1), (.long q2)] ∧ Z.Warmed39 U.vm ∧ U.heap = h0) (fun _ _ _ _ _ => True) (fun _ U o U' => ∃ v L, o = .returned v ∧ Q4 Z a1 q1 q2 u_leastBytes_a1 u_waiting_a1 u_since_a1 u_bytes_a1 h0 n0 v U'.heap L ∧ FrameEnd U o U' L ({ frames := 0, cells := 0, slots := 0, locals := 0 } : Room).cells ({ frames := 0, cells := 0, slots := 0, locals := 0 } : Room).slots) := by
  refine MetFree.of_bodySF (plainFor_of_name pn_4) hisR ?_
  intro p e s m args below meth c s₁ Bd hml0 hP hK
  obtain ⟨rfl, hZ, hh⟩ := hP
  have hx := Bd.exec
  have hby := Bd.bytes
  have hlk := BodyLoose.notSynchronized Bd
  have hml : c.maxLocals = 5 := hml0
  have hown : s.vm.findClass "com/example/funnel/funnel/relay/Progress" = some m.cls := findClass_of_methodNamed Bd.named
  have hnm := (name_of_methodNamed Bd.named Bd.method).1
  have X0 : Stand p l e ({ frames := 0, cells := 0, slots := 0, locals := 0 } : Room) s m #[(.ref a1), (.long q1), (.long q2)] below meth c s₁ [] 0 0 := Stand.of_body Bd
  have e0 : s₁.heap = h0 := by rw [← hh, Bd.state]; rfl
  have N0 := Fr.nil n0
  have K0 := Keep.refl h0 [a1]
  show own_G p.tables e below (own_P s (Q4 Z a1 q1 q2 u_leastBytes_a1 u_waiting_a1 u_since_a1 u_bytes_a1 h0 n0) 0 0) (s₁.setTop (entryFrame m #[(.ref a1), (.long q1), (.long q2)] 5))
  refine own_st (fun t k => castTop (ef_4 m a1 q1 q2) k) ?_
  show own_G p.tables e below _ (s₁.setTop (mkF m 0 #[.val (.ref a1), .val (.long q1), .second, .val (.long q2), .second] []))
  refine own_st (fun _ k => XS.aloadN X0.here hx rfl (hb hby d4_0) rfl rfl k) ?_
  show own_G p.tables e below _ (s₁.setTop (mkF m 1 #[.val (.ref a1), .val (.long q1), .second, .val (.long q2), .second] [(.ref a1)]))
  refine own_st (fun _ k => XS.dup X0.here hx rfl (hb hby d4_1) rfl rfl k) ?_
  show own_G p.tables e below _ (s₁.setTop (mkF m 2 #[.val (.ref a1), .val (.long q1), .second, .val (.long q2), .second] [(.ref a1), (.ref a1)]))
  obtain ⟨T1, X1, e1, st1⟩ := getF X0 hx hZ hown (host := "") (Or.inl (hw _ (List.mem_of_getElem? (i := 21) rfl))) Via.refl e0 F_bytes_a1 (g := (mkF m 2 #[.val (.ref a1), .val (.long q1), .second, .val (.long q2), .second] [(.ref a1), (.ref a1)])) rfl rfl (hb hby d4_2)
  refine own_st st1 ?_
  show own_G p.tables e below _ (T1.setTop (mkF m 5 #[.val (.ref a1), .val (.long q1), .second, .val (.long q2), .second] [(.long u_bytes_a1), (.ref a1)]))
  refine own_st (fun _ k => XS.lloadN X1.here hx rfl (hb hby d4_5) rfl k) ?_
  show own_G p.tables e below _ (T1.setTop (mkF m 6 #[.val (.ref a1), .val (.long q1), .second, .val (.long q2), .second] [(.long q1), (.long u_bytes_a1), (.ref a1)]))
  refine own_st (fun _ k => XS.ladd X1.here hx rfl (hb hby d4_6) rfl k) ?_
  show own_G p.tables e below _ (T1.setTop (mkF m 7 #[.val (.ref a1), .val (.long q1), .second, .val (.long q2), .second] [(.long (u_bytes_a1 + q1)), (.ref a1)]))
  obtain ⟨T2, h2, X2, e2, W2, st2⟩ := putF X1 hx hZ hown (host := "") (Or.inl (hw _ (List.mem_of_getElem? (i := 21) rfl))) Via.refl e1 F_bytes_a1 E_a1 (Or.inl (hw _ (List.mem_of_getElem? (i := 22) rfl))) (hw _ (List.mem_of_getElem? (i := 2) rfl)) (ty := .long) (by decide) rfl rfl (g := (mkF m 7 #[.val (.ref a1), .val (.long q1), .second, .val (.long q2), .second] [(.long (u_bytes_a1 + q1)), (.ref a1)])) rfl rfl (hb hby d4_7)
  have N2 := Fr.snoc X2 N0 ge_a1
  have E3 := E_a1.wr W2
  have F4 := F_leastBytes_a1.other W2 (Or.inr (slot_ne (Or.inr (hw _ (List.mem_of_getElem? (i := 11) rfl))) (Or.inl (hw _ (List.mem_of_getElem? (i := 22) rfl))) (by decide) (t := .long) (t' := .long) (by decide) (by decide)))
  have F5 := F_waiting_a1.other W2 (Or.inr (slot_ne (Or.inl (hw _ (List.mem_of_getElem? (i := 18) rfl))) (Or.inl (hw _ (List.mem_of_getElem? (i := 22) rfl))) (by decide) (t := .boolean) (t' := .long) (by decide) (by decide)))
  have F6 := F_since_a1.other W2 (Or.inr (slot_ne (Or.inl (hw _ (List.mem_of_getElem? (i := 20) rfl))) (Or.inl (hw _ (List.mem_of_getElem? (i := 22) rfl))) (by decide) (t := .long) (t' := .long) (by decide) (by decide)))
  have F7 := F_bytes_a1.same W2
  have Z8 := Nat.le_trans Z0 (Keep.of_wr W2).1
  have K9 := K0.wr W2 (Or.inl (List.mem_of_getElem? (i := 0) rfl))
  refine own_st st2 ?_
  show own_G p.tables e below _ (T2.setTop (mkF m 10 #[.val (.ref a1), .val (.long q1), .second, .val (.long q2), .second] []))
  refine own_st (fun _ k => XS.aloadN X2.here hx rfl (hb hby d4_10) rfl rfl k) ?_
  show own_G p.tables e below _ (T2.setTop (mkF m 11 #[.val (.ref a1), .val (.long q1), .second, .val (.long q2), .second] [(.ref a1)]))
  obtain ⟨T10, X10, e10, st10⟩ := getF X2 hx hZ hown (host := "") (Or.inl (hw _ (List.mem_of_getElem? (i := 21) rfl))) Via.refl e2 F7 (g := (mkF m 11 #[.val (.ref a1), .val (.long q1), .second, .val (.long q2), .second] [(.ref a1)])) rfl rfl (hb hby d4_11)
  refine own_st st10 ?_
  show own_G p.tables e below _ (T10.setTop (mkF m 14 #[.val (.ref a1), .val (.long q1), .second, .val (.long q2), .second] [(.long (u_bytes_a1 + q1))]))
  refine own_st (fun _ k => XS.aloadN X10.here hx rfl (hb hby d4_14) rfl rfl k) ?_
  show own_G p.tables e below _ (T10.setTop (mkF m 15 #[.val (.ref a1), .val (.long q1), .second, .val (.long q2), .second] [(.ref a1), (.long (u_bytes_a1 + q1))]))
  obtain ⟨T11, X11, e11, st11⟩ := getF X10 hx hZ hown (host := "") (Or.inl (hw _ (List.mem_of_getElem? (i := 10) rfl))) Via.refl e10 F4 (g := (mkF m 15 #[.val (.ref a1), .val (.long q1), .second, .val (.long q2), .second] [(.ref a1), (.long (u_bytes_a1 + q1))])) rfl rfl (hb hby d4_15)
  refine own_st st11 ?_
  show own_G p.tables e below _ (T11.setTop (mkF m 18 #[.val (.ref a1), .val (.long q1), .second, .val (.long q2), .second] [(.long u_leastBytes_a1), (.long (u_bytes_a1 + q1))]))
  refine own_st (fun _ k => XS.lcmp X11.here hx rfl (hb hby d4_18) rfl k) ?_
  show own_G p.tables e below _ (T11.setTop (mkF m 19 #[.val (.ref a1), .val (.long q1), .second, .val (.long q2), .second] [(.int (lcmpW (u_bytes_a1 + q1) u_leastBytes_a1))]))
  have J32_13 : ∀ (z20 : Int64) (hz20 : z20 = (if (u_bytes_a1 + q1) < u_leastBytes_a1 then u_since_a1 else q2)) (z22 : Int64) (hz22 : z22 = (if (u_bytes_a1 + q1) < u_leastBytes_a1 then (u_bytes_a1 + q1) else (0 : Int64))) (T14 : State) (L14 : List Loc) (X14 : Stand p l e ({ frames := 0, cells := 0, slots := 0, locals := 0 } : Room) s m #[(.ref a1), (.long q1), (.long q2)] below meth c T14 L14 0 0) (N14 : Fr n0 L14) (Z15 : n0 ≤ T14.heap.size) (K16 : Keep h0 T14.heap [a1]) (E17 : Exa Z T14.heap a1 "com/example/funnel/funnel/relay/Progress") (F18 : Fld Z T14.heap a1 "com/example/funnel/funnel/relay/Progress" "leastBytes" "J" (.long u_leastBytes_a1)) (F19 : Fld Z T14.heap a1 "com/example/funnel/funnel/relay/Progress" "waiting" "Z" (.int u_waiting_a1)) (F21 : Fld Z T14.heap a1 "com/example/funnel/funnel/relay/Progress" "since" "J" (.long z20)) (F23 : Fld Z T14.heap a1 "com/example/funnel/funnel/relay/Progress" "bytes" "J" (.long z22)), own_G p.tables e below (own_P s (Q4 Z a1 q1 q2 u_leastBytes_a1 u_waiting_a1 u_since_a1 u_bytes_a1 h0 n0) 0 0) (T14.setTop (mkF m 32 #[.val (.ref a1), .val (.long q1), .second, .val (.long q2), .second] [])) := by
    intro z20 hz20 z22 hz22 T14 L14 X14 N14 Z15 K16 E17 F18 F19 F21 F23
    exact own_retV X14 hx hlk Bd.returns (hb hby d4_32) ⟨rfl, N14, K16, E17, (own_fld F18 (congrArg Value.long (by subst hz22; subst hz20; exact rfl))), (own_fld F19 (congrArg Value.int (by subst hz22; subst hz20; exact rfl))), (own_fld F21 (congrArg Value.long (by subst hz22; subst hz20; exact rfl))), (own_fld F23 (congrArg Value.long (by subst hz22; subst hz20; exact rfl)))⟩ (by decide) (by decide)
  by_cases hc19_12 : (u_bytes_a1 + q1) < u_leastBytes_a1
  · refine own_st (fun _ k => XS.ifYes X11.here hx rfl (pc0 := 19) (pc' := 32) rfl (hb hby d4_19) rfl ((if0 _ _).trans (tlt ((lw_lt (u_bytes_a1 + q1) u_leastBytes_a1).mpr hc19_12)).1) (by decide) (by decide) k) ?_
    show own_G p.tables e below _ (T11.setTop (mkF m 32 #[.val (.ref a1), .val (.long q1), .second, .val (.long q2), .second] []))
    exact J32_13 u_since_a1 ((if_pos hc19_12).symm) (u_bytes_a1 + q1) ((if_pos hc19_12).symm) _ _ X11 N2 (by rw [e11]; exact Z8) (by rw [e11]; exact K9) (by rw [e11]; exact E3) (by rw [e11]; exact F4) (by rw [e11]; exact F5) (by rw [e11]; exact F6) (by rw [e11]; exact F7)
  · refine own_st (fun _ k => XS.ifNo X11.here hx rfl (hb hby d4_19) rfl ((if0 _ _).trans (flt (fun q => hc19_12 ((lw_lt (u_bytes_a1 + q1) u_leastBytes_a1).mp q))).1) k) ?_
    show own_G p.tables e below _ (T11.setTop (mkF m 22 #[.val (.ref a1), .val (.long q1), .second, .val (.long q2), .second] []))
    refine own_st (fun _ k => XS.aloadN X11.here hx rfl (hb hby d4_22) rfl rfl k) ?_
    show own_G p.tables e below _ (T11.setTop (mkF m 23 #[.val (.ref a1), .val (.long q1), .second, .val (.long q2), .second] [(.ref a1)]))
    refine own_st (fun _ k => XS.lloadN X11.here hx rfl (hb hby d4_23) rfl k) ?_
    show own_G p.tables e below _ (T11.setTop (mkF m 24 #[.val (.ref a1), .val (.long q1), .second, .val (.long q2), .second] [(.long q2), (.ref a1)]))
    obtain ⟨T24, h24, X24, e24, W24, st24⟩ := putF X11 hx hZ hown (host := "") (Or.inl (hw _ (List.mem_of_getElem? (i := 19) rfl))) Via.refl e11 F6 E3 (Or.inl (hw _ (List.mem_of_getElem? (i := 20) rfl))) (hw _ (List.mem_of_getElem? (i := 2) rfl)) (ty := .long) (by decide) rfl rfl (g := (mkF m 24 #[.val (.ref a1), .val (.long q1), .second, .val (.long q2), .second] [(.long q2), (.ref a1)])) rfl rfl (hb hby d4_24)
    have N24 := Fr.snoc X24 N2 ge_a1
    have E25 := E3.wr W24
    have F26 := F4.other W24 (Or.inr (slot_ne (Or.inr (hw _ (List.mem_of_getElem? (i := 11) rfl))) (Or.inl (hw _ (List.mem_of_getElem? (i := 20) rfl))) (by decide) (t := .long) (t' := .long) (by decide) (by decide)))
    have F27 := F5.other W24 (Or.inr (slot_ne (Or.inl (hw _ (List.mem_of_getElem? (i := 18) rfl))) (Or.inl (hw _ (List.mem_of_getElem? (i := 20) rfl))) (by decide) (t := .boolean) (t' := .long) (by decide) (by decide)))
    have F28 := F6.same W24
    have F29 := F7.other W24 (Or.inr (slot_ne (Or.inl (hw _ (List.mem_of_getElem? (i := 22) rfl))) (Or.inl (hw _ (List.mem_of_getElem? (i := 20) rfl))) (by decide) (t := .long) (t' := .long) (by decide) (by decide)))
    have Z30 := Nat.le_trans Z8 (Keep.of_wr W24).1
    have K31 := K9.wr W24 (Or.inl (List.mem_of_getElem? (i := 0) rfl))
    refine own_st st24 ?_
    show own_G p.tables e below _ (T24.setTop (mkF m 27 #[.val (.ref a1), .val (.long q1), .second, .val (.long q2), .second] []))
    refine own_st (fun _ k => XS.aloadN X24.here hx rfl (hb hby d4_27) rfl rfl k) ?_
    show own_G p.tables e below _ (T24.setTop (mkF m 28 #[.val (.ref a1), .val (.long q1), .second, .val (.long q2), .second] [(.ref a1)]))
    refine own_st (fun _ k => XS.lconst X24.here hx rfl (hb hby d4_28) k) ?_
    show own_G p.tables e below _ (T24.setTop (mkF m 29 #[.val (.ref a1), .val (.long q1), .second, .val (.long q2), .second] [(.long (0 : Int64)), (.ref a1)]))
    obtain ⟨T32, h32, X32, e32, W32, st32⟩ := putF X24 hx hZ hown (host := "") (Or.inl (hw _ (List.mem_of_getElem? (i := 21) rfl))) Via.refl e24 F29 E25 (Or.inl (hw _ (List.mem_of_getElem? (i := 22) rfl))) (hw _ (List.mem_of_getElem? (i := 2) rfl)) (ty := .long) (by decide) rfl rfl (g := (mkF m 29 #[.val (.ref a1), .val (.long q1), .second, .val (.long q2), .second] [(.long (0 : Int64)), (.ref a1)])) rfl rfl (hb hby d4_29)
    have N32 := Fr.snoc X32 N24 ge_a1
    have E33 := E25.wr W32
    have F34 := F26.other W32 (Or.inr (slot_ne (Or.inr (hw _ (List.mem_of_getElem? (i := 11) rfl))) (Or.inl (hw _ (List.mem_of_getElem? (i := 22) rfl))) (by decide) (t := .long) (t' := .long) (by decide) (by decide)))
    have F35 := F27.other W32 (Or.inr (slot_ne (Or.inl (hw _ (List.mem_of_getElem? (i := 18) rfl))) (Or.inl (hw _ (List.mem_of_getElem? (i := 22) rfl))) (by decide) (t := .boolean) (t' := .long) (by decide) (by decide)))
    have F36 := F28.other W32 (Or.inr (slot_ne (Or.inl (hw _ (List.mem_of_getElem? (i := 20) rfl))) (Or.inl (hw _ (List.mem_of_getElem? (i := 22) rfl))) (by decide) (t := .long) (t' := .long) (by decide) (by decide)))
    have F37 := F29.same W32
    have Z38 := Nat.le_trans Z30 (Keep.of_wr W32).1
    have K39 := K31.wr W32 (Or.inl (List.mem_of_getElem? (i := 0) rfl))
    refine own_st st32 ?_
    show own_G p.tables e below _ (T32.setTop (mkF m 32 #[.val (.ref a1), .val (.long q1), .second, .val (.long q2), .second] []))
    exact J32_13 q2 ((if_neg hc19_12).symm) (0 : Int64) ((if_neg hc19_12).symm) _ _ X32 N32 (by rw [e32]; exact Z38) (by rw [e32]; exact K39) (by rw [e32]; exact E33) (by rw [e32]; exact F34) (by rw [e32]; exact F35) (by rw [e32]; exact F36) (by rw [e32]; exact F37)
def Q5 (Z : State) (a1 : Addr) (q1 : Int64) (u_leastBytes_a1 : Int64) (u_waiting_a1 : Int32) (u_since_a1 : Int64) (u_bytes_a1 : Int64) (h0 : Heap) (n0 : Nat) (v : Option Value) (h : Heap) (L : List Loc) : Prop := (∃ z : Int64, v = some (.long z) ∧ z = (u_since_a1 + q1)) ∧ Fr n0 L ∧ h = h0
set_option maxRecDepth 65536 in
set_option maxHeartbeats 40000000 in
theorem rm5 (l : Launch) (Z : State) (a0 : Array Value) (hw : ∀ d ∈ tables_1, d.before a0 Z = true) (ws : List Jvm.Cond) (a1 : Addr) (q1 : Int64) (u_leastBytes_a1 : Int64) (u_waiting_a1 : Int32) (u_since_a1 : Int64) (u_bytes_a1 : Int64) (h0 : Heap) (n0 : Nat) (Z0 : n0 ≤ h0.size) (F_leastBytes_a1 : Fld Z h0 a1 "com/example/funnel/funnel/relay/Progress" "leastBytes" "J" (.long u_leastBytes_a1)) (F_waiting_a1 : Fld Z h0 a1 "com/example/funnel/funnel/relay/Progress" "waiting" "Z" (.int u_waiting_a1)) (F_since_a1 : Fld Z h0 a1 "com/example/funnel/funnel/relay/Progress" "since" "J" (.long u_since_a1)) (F_bytes_a1 : Fld Z h0 a1 "com/example/funnel/funnel/relay/Progress" "bytes" "J" (.long u_bytes_a1)) (E_a1 : Exa Z h0 a1 "com/example/funnel/funnel/relay/Progress") (hu : ¬ (u_waiting_a1 = (0 : Int32))) :
    MetFree l (⟨"com/example/funnel/funnel/relay/Progress", "due", "(J)J"⟩ : MethodName) (head1 (Jvm.Cond.code (⟨"com/example/funnel/funnel/relay/Progress", "due", "(J)J"⟩ : MethodName) prog_48_method_4_code 3 (some .long) :: ws) ({ frames := 0, cells := 0, slots := 0, locals := 0 } : Room)) (fun a U => a = #[(.ref a1), (.long q1)] ∧ Z.Warmed39 U.vm ∧ U.heap = h0) (fun _ _ _ _ _ => True) (fun _ U o U' => ∃ v L, o = .returned v ∧ Q5 Z a1 q1 u_leastBytes_a1 u_waiting_a1 u_since_a1 u_bytes_a1 h0 n0 v U'.heap L ∧ FrameEnd U o U' L ({ frames := 0, cells := 0, slots := 0, locals := 0 } : Room).cells ({ frames := 0, cells := 0, slots := 0, locals := 0 } : Room).slots) := by
  refine MetFree.of_bodySF (plainFor_of_name pn_5) hisR ?_
  intro p e s m args below meth c s₁ Bd hml0 hP hK
  obtain ⟨rfl, hZ, hh⟩ := hP
  have hx := Bd.exec
  have hby := Bd.bytes
  have hlk := BodyLoose.notSynchronized Bd
  have hml : c.maxLocals = 3 := hml0
  have hown : s.vm.findClass "com/example/funnel/funnel/relay/Progress" = some m.cls := findClass_of_methodNamed Bd.named
  have hnm := (name_of_methodNamed Bd.named Bd.method).1
  have X0 : Stand p l e ({ frames := 0, cells := 0, slots := 0, locals := 0 } : Room) s m #[(.ref a1), (.long q1)] below meth c s₁ [] 0 0 := Stand.of_body Bd
  have e0 : s₁.heap = h0 := by rw [← hh, Bd.state]; rfl
  have N0 := Fr.nil n0
  have K0 := Keep.refl h0 []
  show own_G p.tables e below (own_P s (Q5 Z a1 q1 u_leastBytes_a1 u_waiting_a1 u_since_a1 u_bytes_a1 h0 n0) 0 0) (s₁.setTop (entryFrame m #[(.ref a1), (.long q1)] 3))
  refine own_st (fun t k => castTop (ef_5 m a1 q1) k) ?_
  show own_G p.tables e below _ (s₁.setTop (mkF m 0 #[.val (.ref a1), .val (.long q1), .second] []))
  refine own_st (fun _ k => XS.aloadN X0.here hx rfl (hb hby d5_0) rfl rfl k) ?_
  show own_G p.tables e below _ (s₁.setTop (mkF m 1 #[.val (.ref a1), .val (.long q1), .second] [(.ref a1)]))
  obtain ⟨T1, X1, e1, st1⟩ := getF X0 hx hZ hown (host := "") (Or.inl (hw _ (List.mem_of_getElem? (i := 17) rfl))) Via.refl e0 F_waiting_a1 (g := (mkF m 1 #[.val (.ref a1), .val (.long q1), .second] [(.ref a1)])) rfl rfl (hb hby d5_1)
  refine own_st st1 ?_
  show own_G p.tables e below _ (T1.setTop (mkF m 4 #[.val (.ref a1), .val (.long q1), .second] [(.int u_waiting_a1)]))
  have hf2 : ¬ (u_waiting_a1 = (0 : Int32)) := hu
  refine own_st (fun _ k => XS.ifNo X1.here hx rfl (hb hby d5_4) rfl ((if0 _ _).trans (feq hf2).1) k) ?_
  show own_G p.tables e below _ (T1.setTop (mkF m 7 #[.val (.ref a1), .val (.long q1), .second] []))
  refine own_st (fun _ k => XS.aloadN X1.here hx rfl (hb hby d5_7) rfl rfl k) ?_
  show own_G p.tables e below _ (T1.setTop (mkF m 8 #[.val (.ref a1), .val (.long q1), .second] [(.ref a1)]))
  obtain ⟨T3, X3, e3, st3⟩ := getF X1 hx hZ hown (host := "") (Or.inl (hw _ (List.mem_of_getElem? (i := 19) rfl))) Via.refl e1 F_since_a1 (g := (mkF m 8 #[.val (.ref a1), .val (.long q1), .second] [(.ref a1)])) rfl rfl (hb hby d5_8)
  refine own_st st3 ?_
  show own_G p.tables e below _ (T3.setTop (mkF m 11 #[.val (.ref a1), .val (.long q1), .second] [(.long u_since_a1)]))
  refine own_st (fun _ k => XS.lloadN X3.here hx rfl (hb hby d5_11) rfl k) ?_
  show own_G p.tables e below _ (T3.setTop (mkF m 12 #[.val (.ref a1), .val (.long q1), .second] [(.long q1), (.long u_since_a1)]))
  refine own_st (fun _ k => XS.ladd X3.here hx rfl (hb hby d5_12) rfl k) ?_
  show own_G p.tables e below _ (T3.setTop (mkF m 13 #[.val (.ref a1), .val (.long q1), .second] [(.long (u_since_a1 + q1))]))
  refine own_st (fun _ k => XS.goto X3.here hx rfl (pc0 := 13) (pc' := 19) rfl (hb hby d5_13) (by decide) (by decide) k) ?_
  show own_G p.tables e below _ (T3.setTop (mkF m 19 #[.val (.ref a1), .val (.long q1), .second] [(.long (u_since_a1 + q1))]))
  exact own_retJ X3 hx hlk Bd.returns (hb hby d5_19) (by rw [e3]; exact ⟨⟨_, rfl, rfl⟩, N0, rfl⟩) (by decide) (by decide)
def Q0 (n0 : Nat) (v : Option Value) (h : Heap) (L : List Loc) : Prop := v = some (.int 1) ∧ Fr n0 L
set_option maxRecDepth 65536 in
set_option maxHeartbeats 40000000 in
theorem rm0 (l : Launch) (Z : State) (a0 : Array Value) (hw : ∀ d ∈ tables_1, d.before a0 Z = true) (ws : List Jvm.Cond) (i0 : Int64) (i1 : Int64) (i2 : Int64) (i3 : Int64) (i4 : Int64) (i5 : Int64) (h0 : Heap) (n0 : Nat) (Z0 : n0 ≤ h0.size) :
    MetFree l x (head1 (Jvm.Cond.code x code maxLocals ret :: ws) room_1) (fun a U => a = #[(.long i0), (.long i1), (.long i2), (.long i3), (.long i4), (.long i5)] ∧ Z.Warmed39 U.vm ∧ U.heap = h0) (fun _ _ _ _ _ => True) (fun _ U o U' => ∃ v L, o = .returned v ∧ Q0 n0 v U'.heap L ∧ FrameEnd U o U' L 16 128) := by
  refine MetFree.of_bodySF (plainFor_of_name pn_0) hisR ?_
  intro p e s m args below meth c s₁ Bd hml0 hP hK
  obtain ⟨rfl, hZ, hh⟩ := hP
  have hx := Bd.exec
  have hby := Bd.bytes
  have hlk := BodyLoose.notSynchronized Bd
  have hml : c.maxLocals = 26 := hml0
  have hown : s.vm.findClass "com/example/funnel/funnel/relay/ProgressMovedPinLaw" = some m.cls := findClass_of_methodNamed Bd.named
  have hnm := (name_of_methodNamed Bd.named Bd.method).1
  have X0 : Stand p l e room_1 s m #[(.long i0), (.long i1), (.long i2), (.long i3), (.long i4), (.long i5)] below meth c s₁ [] 0 0 := Stand.of_body Bd
  have e0 : s₁.heap = h0 := by rw [← hh, Bd.state]; rfl
  have N0 := Fr.nil n0
  have K0 := Keep.refl h0 []
  show own_G p.tables e below (own_P s (Q0 n0) 16 128) (s₁.setTop (entryFrame m #[(.long i0), (.long i1), (.long i2), (.long i3), (.long i4), (.long i5)] maxLocals))
  refine own_st (fun t k => castTop (ef_0 m i0 i1 i2 i3 i4 i5) k) ?_
  show own_G p.tables e below _ (s₁.setTop (mkF m 0 #[.val (.long i0), .second, .val (.long i1), .second, .val (.long i2), .second, .val (.long i3), .second, .val (.long i4), .second, .val (.long i5), .second, .unset, .unset, .unset, .unset, .unset, .unset, .unset, .unset, .unset, .unset, .unset, .unset, .unset, .unset] []))
  refine own_st (fun _ k => XS.lloadN X0.here hx rfl (hb hby at_0) rfl k) ?_
  show own_G p.tables e below _ (s₁.setTop (mkF m 1 #[.val (.long i0), .second, .val (.long i1), .second, .val (.long i2), .second, .val (.long i3), .second, .val (.long i4), .second, .val (.long i5), .second, .unset, .unset, .unset, .unset, .unset, .unset, .unset, .unset, .unset, .unset, .unset, .unset, .unset, .unset] [(.long i1)]))
  refine own_st (X0.ldc2Long hx hown (mvT hZ (hw _ (List.mem_of_getElem? (i := 0) rfl))) (g := (mkF m 1 #[.val (.long i0), .second, .val (.long i1), .second, .val (.long i2), .second, .val (.long i3), .second, .val (.long i4), .second, .val (.long i5), .second, .unset, .unset, .unset, .unset, .unset, .unset, .unset, .unset, .unset, .unset, .unset, .unset, .unset, .unset] [(.long i1)])) rfl (hb hby at_1)) ?_
  show own_G p.tables e below _ (s₁.setTop (mkF m 4 #[.val (.long i0), .second, .val (.long i1), .second, .val (.long i2), .second, .val (.long i3), .second, .val (.long i4), .second, .val (.long i5), .second, .unset, .unset, .unset, .unset, .unset, .unset, .unset, .unset, .unset, .unset, .unset, .unset, .unset, .unset] [(.long (4611686018427387903 : Int64)), (.long i1)]))
  refine own_st (fun _ k => XS.land X0.here hx rfl (hb hby at_4) rfl k) ?_
  show own_G p.tables e below _ (s₁.setTop (mkF m 5 #[.val (.long i0), .second, .val (.long i1), .second, .val (.long i2), .second, .val (.long i3), .second, .val (.long i4), .second, .val (.long i5), .second, .unset, .unset, .unset, .unset, .unset, .unset, .unset, .unset, .unset, .unset, .unset, .unset, .unset, .unset] [(.long (i1 &&& (4611686018427387903 : Int64)))]))
  refine own_st (fun _ k => XS.lstore X0.here hx rfl (hb hby at_5) rfl (l' := #[.val (.long i0), .second, .val (.long i1), .second, .val (.long i2), .second, .val (.long i3), .second, .val (.long i4), .second, .val (.long i5), .second, .val (.long (i1 &&& (4611686018427387903 : Int64))), .second, .unset, .unset, .unset, .unset, .unset, .unset, .unset, .unset, .unset, .unset, .unset, .unset]) rfl k) ?_
  show own_G p.tables e below _ (s₁.setTop (mkF m 7 #[.val (.long i0), .second, .val (.long i1), .second, .val (.long i2), .second, .val (.long i3), .second, .val (.long i4), .second, .val (.long i5), .second, .val (.long (i1 &&& (4611686018427387903 : Int64))), .second, .unset, .unset, .unset, .unset, .unset, .unset, .unset, .unset, .unset, .unset, .unset, .unset] []))
  refine own_st (fun _ k => XS.lload X0.here hx rfl (hb hby at_7) rfl k) ?_
  show own_G p.tables e below _ (s₁.setTop (mkF m 9 #[.val (.long i0), .second, .val (.long i1), .second, .val (.long i2), .second, .val (.long i3), .second, .val (.long i4), .second, .val (.long i5), .second, .val (.long (i1 &&& (4611686018427387903 : Int64))), .second, .unset, .unset, .unset, .unset, .unset, .unset, .unset, .unset, .unset, .unset, .unset, .unset] [(.long i2)]))
  refine own_st (X0.ldc2Long hx hown (mvT hZ (hw _ (List.mem_of_getElem? (i := 0) rfl))) (g := (mkF m 9 #[.val (.long i0), .second, .val (.long i1), .second, .val (.long i2), .second, .val (.long i3), .second, .val (.long i4), .second, .val (.long i5), .second, .val (.long (i1 &&& (4611686018427387903 : Int64))), .second, .unset, .unset, .unset, .unset, .unset, .unset, .unset, .unset, .unset, .unset, .unset, .unset] [(.long i2)])) rfl (hb hby at_9)) ?_
  show own_G p.tables e below _ (s₁.setTop (mkF m 12 #[.val (.long i0), .second, .val (.long i1), .second, .val (.long i2), .second, .val (.long i3), .second, .val (.long i4), .second, .val (.long i5), .second, .val (.long (i1 &&& (4611686018427387903 : Int64))), .second, .unset, .unset, .unset, .unset, .unset, .unset, .unset, .unset, .unset, .unset, .unset, .unset] [(.long (4611686018427387903 : Int64)), (.long i2)]))
  refine own_st (fun _ k => XS.land X0.here hx rfl (hb hby at_12) rfl k) ?_
  show own_G p.tables e below _ (s₁.setTop (mkF m 13 #[.val (.long i0), .second, .val (.long i1), .second, .val (.long i2), .second, .val (.long i3), .second, .val (.long i4), .second, .val (.long i5), .second, .val (.long (i1 &&& (4611686018427387903 : Int64))), .second, .unset, .unset, .unset, .unset, .unset, .unset, .unset, .unset, .unset, .unset, .unset, .unset] [(.long (i2 &&& (4611686018427387903 : Int64)))]))
  refine own_st (fun _ k => XS.lstore X0.here hx rfl (hb hby at_13) rfl (l' := #[.val (.long i0), .second, .val (.long i1), .second, .val (.long i2), .second, .val (.long i3), .second, .val (.long i4), .second, .val (.long i5), .second, .val (.long (i1 &&& (4611686018427387903 : Int64))), .second, .val (.long (i2 &&& (4611686018427387903 : Int64))), .second, .unset, .unset, .unset, .unset, .unset, .unset, .unset, .unset, .unset, .unset]) rfl k) ?_
  show own_G p.tables e below _ (s₁.setTop (mkF m 15 #[.val (.long i0), .second, .val (.long i1), .second, .val (.long i2), .second, .val (.long i3), .second, .val (.long i4), .second, .val (.long i5), .second, .val (.long (i1 &&& (4611686018427387903 : Int64))), .second, .val (.long (i2 &&& (4611686018427387903 : Int64))), .second, .unset, .unset, .unset, .unset, .unset, .unset, .unset, .unset, .unset, .unset] []))
  obtain ⟨T1, h1, X1, e1, E1, A1, D1, -, st1⟩ := newO X0 hx hZ hown (hw _ (List.mem_of_getElem? (i := 1) rfl)) (hw _ (List.mem_of_getElem? (i := 2) rfl)) (hw _ (List.mem_of_getElem? (i := 3) rfl)) e0 (g := (mkF m 15 #[.val (.long i0), .second, .val (.long i1), .second, .val (.long i2), .second, .val (.long i3), .second, .val (.long i4), .second, .val (.long i5), .second, .val (.long (i1 &&& (4611686018427387903 : Int64))), .second, .val (.long (i2 &&& (4611686018427387903 : Int64))), .second, .unset, .unset, .unset, .unset, .unset, .unset, .unset, .unset, .unset, .unset] [])) rfl (hb hby at_15) (by decide) (by decide)
  obtain ⟨b1, g1⟩ : ∃ z, z = h0.size := ⟨_, rfl⟩
  rw [← g1] at A1 D1 st1
  have ge_b1 : n0 ≤ b1 := Nat.le_trans Z0 (Nat.le_of_eq g1.symm)
  have Z2 := Nat.le_trans Z0 E1.1
  have F3 : Fld Z h1 b1 "com/example/funnel/funnel/relay/Progress" "leastBytes" "J" (.long (0 : Int64)) := D1 (Or.inr (hw _ (List.mem_of_getElem? (i := 11) rfl))) (ty := .long) (by decide)
  have F4 : Fld Z h1 b1 "com/example/funnel/funnel/relay/Progress" "waiting" "Z" (.int (0 : Int32)) := D1 (Or.inl (hw _ (List.mem_of_getElem? (i := 18) rfl))) (ty := .boolean) (by decide)
  have F5 : Fld Z h1 b1 "com/example/funnel/funnel/relay/Progress" "since" "J" (.long (0 : Int64)) := D1 (Or.inl (hw _ (List.mem_of_getElem? (i := 20) rfl))) (ty := .long) (by decide)
  have F6 : Fld Z h1 b1 "com/example/funnel/funnel/relay/Progress" "bytes" "J" (.long (0 : Int64)) := D1 (Or.inl (hw _ (List.mem_of_getElem? (i := 22) rfl))) (ty := .long) (by decide)
  refine own_st st1 ?_
  show own_G p.tables e below _ (T1.setTop (mkF m 18 #[.val (.long i0), .second, .val (.long i1), .second, .val (.long i2), .second, .val (.long i3), .second, .val (.long i4), .second, .val (.long i5), .second, .val (.long (i1 &&& (4611686018427387903 : Int64))), .second, .val (.long (i2 &&& (4611686018427387903 : Int64))), .second, .unset, .unset, .unset, .unset, .unset, .unset, .unset, .unset, .unset, .unset] [(.ref b1)]))
  refine own_st (fun _ k => XS.dup X1.here hx rfl (hb hby at_18) rfl rfl k) ?_
  show own_G p.tables e below _ (T1.setTop (mkF m 19 #[.val (.long i0), .second, .val (.long i1), .second, .val (.long i2), .second, .val (.long i3), .second, .val (.long i4), .second, .val (.long i5), .second, .val (.long (i1 &&& (4611686018427387903 : Int64))), .second, .val (.long (i2 &&& (4611686018427387903 : Int64))), .second, .unset, .unset, .unset, .unset, .unset, .unset, .unset, .unset, .unset, .unset] [(.ref b1), (.ref b1)]))
  refine own_st (fun _ k => XS.lloadN X1.here hx rfl (hb hby at_19) rfl k) ?_
  show own_G p.tables e below _ (T1.setTop (mkF m 20 #[.val (.long i0), .second, .val (.long i1), .second, .val (.long i2), .second, .val (.long i3), .second, .val (.long i4), .second, .val (.long i5), .second, .val (.long (i1 &&& (4611686018427387903 : Int64))), .second, .val (.long (i2 &&& (4611686018427387903 : Int64))), .second, .unset, .unset, .unset, .unset, .unset, .unset, .unset, .unset, .unset, .unset] [(.long i0), (.ref b1), (.ref b1)]))
  obtain ⟨_, _, ⟨T7, L7, k7, n7⟩, -, X7, ⟨Lc7, hQ7, l7, y7, z7⟩, st7⟩ := X1.specialBack hx (y := (⟨"com/example/funnel/funnel/relay/Progress", "<init>", "(J)V"⟩ : MethodName)) rfl hown (mvT hZ (hw _ (List.mem_of_getElem? (i := 4) rfl))) (mvT hZ (hw _ (List.mem_of_getElem? (i := 5) rfl))) (mvT hZ (hw _ (List.mem_of_getElem? (i := 6) rfl))) (by decide) (backOf (W := 1) (rm1 l Z a0 hw [] b1 i0 (0 : Int64) (0 : Int32) (0 : Int64) (0 : Int64) h1 n0 Z2 F3 F4 F5 F6 A1 ge_b1) hZ (hw _ (List.mem_of_getElem? (i := 6) rfl)) (hw _ (List.mem_of_getElem? (i := 3) rfl)) (by decide) (by decide)) (g := (mkF m 20 #[.val (.long i0), .second, .val (.long i1), .second, .val (.long i2), .second, .val (.long i3), .second, .val (.long i4), .second, .val (.long i5), .second, .val (.long (i1 &&& (4611686018427387903 : Int64))), .second, .val (.long (i2 &&& (4611686018427387903 : Int64))), .second, .unset, .unset, .unset, .unset, .unset, .unset, .unset, .unset, .unset, .unset] [(.long i0), (.ref b1), (.ref b1)])) rfl (by rw [hml]; rfl) (Steps.refl _) (a := b1) (argsL := [(.long i0)]) (rest := [(.ref b1)]) (lenOf pd_0 rfl) rfl (by show 2 * 0 + _ ≤ _; exact Nat.le_of_eq rfl) (hb hby at_20) (fun _ _ => ⟨rfl, e1, (by decide : 1 + 0 ≤ _), (by decide : 4 + 0 ≤ _)⟩)
  dsimp only [Pt.U, Pt.locs, Pt.cells, Pt.slots] at X7 l7 y7 z7 st7 hQ7
  subst l7 y7 z7
  obtain ⟨rfl, N7q, K7q, E8, F9, F10, F11, F12⟩ := hQ7
  have N7 := Fr.app N0 N7q
  have Z14 := Nat.le_trans Z2 K7q.1
  refine own_st (fun _ k => st7.trans k) ?_
  show own_G p.tables e below _ (T7.setTop (mkF m 23 #[.val (.long i0), .second, .val (.long i1), .second, .val (.long i2), .second, .val (.long i3), .second, .val (.long i4), .second, .val (.long i5), .second, .val (.long (i1 &&& (4611686018427387903 : Int64))), .second, .val (.long (i2 &&& (4611686018427387903 : Int64))), .second, .unset, .unset, .unset, .unset, .unset, .unset, .unset, .unset, .unset, .unset] [(.ref b1)]))
  refine own_st (fun _ k => XS.astore X7.here hx rfl (hb hby at_23) rfl rfl (l' := #[.val (.long i0), .second, .val (.long i1), .second, .val (.long i2), .second, .val (.long i3), .second, .val (.long i4), .second, .val (.long i5), .second, .val (.long (i1 &&& (4611686018427387903 : Int64))), .second, .val (.long (i2 &&& (4611686018427387903 : Int64))), .second, .val (.ref b1), .unset, .unset, .unset, .unset, .unset, .unset, .unset, .unset, .unset]) rfl k) ?_
  show own_G p.tables e below _ (T7.setTop (mkF m 25 #[.val (.long i0), .second, .val (.long i1), .second, .val (.long i2), .second, .val (.long i3), .second, .val (.long i4), .second, .val (.long i5), .second, .val (.long (i1 &&& (4611686018427387903 : Int64))), .second, .val (.long (i2 &&& (4611686018427387903 : Int64))), .second, .val (.ref b1), .unset, .unset, .unset, .unset, .unset, .unset, .unset, .unset, .unset] []))
  refine own_st (fun _ k => XS.aload X7.here hx rfl (hb hby at_25) rfl rfl k) ?_
  show own_G p.tables e below _ (T7.setTop (mkF m 27 #[.val (.long i0), .second, .val (.long i1), .second, .val (.long i2), .second, .val (.long i3), .second, .val (.long i4), .second, .val (.long i5), .second, .val (.long (i1 &&& (4611686018427387903 : Int64))), .second, .val (.long (i2 &&& (4611686018427387903 : Int64))), .second, .val (.ref b1), .unset, .unset, .unset, .unset, .unset, .unset, .unset, .unset, .unset] [(.ref b1)]))
  refine own_st (fun _ k => XS.iconst X7.here hx rfl (hb hby at_27) k) ?_
  show own_G p.tables e below _ (T7.setTop (mkF m 28 #[.val (.long i0), .second, .val (.long i1), .second, .val (.long i2), .second, .val (.long i3), .second, .val (.long i4), .second, .val (.long i5), .second, .val (.long (i1 &&& (4611686018427387903 : Int64))), .second, .val (.long (i2 &&& (4611686018427387903 : Int64))), .second, .val (.ref b1), .unset, .unset, .unset, .unset, .unset, .unset, .unset, .unset, .unset] [(.int (1 : Int32)), (.ref b1)]))
  refine own_st (fun _ k => XS.lload X7.here hx rfl (hb hby at_28) rfl k) ?_
  show own_G p.tables e below _ (T7.setTop (mkF m 30 #[.val (.long i0), .second, .val (.long i1), .second, .val (.long i2), .second, .val (.long i3), .second, .val (.long i4), .second, .val (.long i5), .second, .val (.long (i1 &&& (4611686018427387903 : Int64))), .second, .val (.long (i2 &&& (4611686018427387903 : Int64))), .second, .val (.ref b1), .unset, .unset, .unset, .unset, .unset, .unset, .unset, .unset, .unset] [(.long i3), (.int (1 : Int32)), (.ref b1)]))
  obtain ⟨cq19, kq19, q19a, q19b, q19c⟩ := isOf hZ rfl E8
  obtain ⟨_, _, ⟨T19, L19, k19, n19⟩, -, X19, ⟨Lc19, hQ19, l19, y19, z19⟩, st19⟩ := X7.virtualBack hx (y := (⟨"com/example/funnel/funnel/relay/Progress", "waiting", "(ZJ)V"⟩ : MethodName)) (z := (⟨"com/example/funnel/funnel/relay/Progress", "waiting", "(ZJ)V"⟩ : MethodName)) hown (mvT hZ (hw _ (List.mem_of_getElem? (i := 12) rfl))) (mvT hZ (hw _ (List.mem_of_getElem? (i := 13) rfl))) (notFace_of_selects (args := #[]) (mvT hZ (hw _ (List.mem_of_getElem? (i := 15) rfl)))) (mvT hZ (hw _ (List.mem_of_getElem? (i := 15) rfl))) (mvT hZ (hw _ (List.mem_of_getElem? (i := 14) rfl))) (by decide) (backOf (W := 0) (rm3 l Z a0 hw [] b1 i3 i0 (0 : Int32) (0 : Int64) (0 : Int64) T7.heap n0 Z14 F9 F10 F11 F12 E8 rfl ge_b1) hZ (hw _ (List.mem_of_getElem? (i := 16) rfl)) (hw _ (List.mem_of_getElem? (i := 3) rfl)) (by decide) (by decide)) q19a q19c (g := (mkF m 30 #[.val (.long i0), .second, .val (.long i1), .second, .val (.long i2), .second, .val (.long i3), .second, .val (.long i4), .second, .val (.long i5), .second, .val (.long (i1 &&& (4611686018427387903 : Int64))), .second, .val (.long (i2 &&& (4611686018427387903 : Int64))), .second, .val (.ref b1), .unset, .unset, .unset, .unset, .unset, .unset, .unset, .unset, .unset] [(.long i3), (.int (1 : Int32)), (.ref b1)])) rfl (by rw [hml]; rfl) (Steps.refl _) (argsL := [(.int (1 : Int32)), (.long i3)]) (rest := []) (lenOf pd_1 rfl) rfl (by show 2 * 0 + _ ≤ _; exact Nat.le_of_eq rfl) (hb hby at_30) (fun _ _ => ⟨rfl, rfl, (by decide : 1 + 0 ≤ _), (by decide : 4 + 0 ≤ _)⟩)
  dsimp only [Pt.U, Pt.locs, Pt.cells, Pt.slots] at X19 l19 y19 z19 st19 hQ19
  subst l19 y19 z19
  obtain ⟨rfl, N19q, K19q, E20, F21, F22, F23, F24⟩ := hQ19
  have N19 := Fr.app N7 N19q
  have Z26 := Nat.le_trans Z14 K19q.1
  refine own_st (fun _ k => st19.trans k) ?_
  show own_G p.tables e below _ (T19.setTop (mkF m 33 #[.val (.long i0), .second, .val (.long i1), .second, .val (.long i2), .second, .val (.long i3), .second, .val (.long i4), .second, .val (.long i5), .second, .val (.long (i1 &&& (4611686018427387903 : Int64))), .second, .val (.long (i2 &&& (4611686018427387903 : Int64))), .second, .val (.ref b1), .unset, .unset, .unset, .unset, .unset, .unset, .unset, .unset, .unset] []))
  refine own_st (fun _ k => XS.aload X19.here hx rfl (hb hby at_33) rfl rfl k) ?_
  show own_G p.tables e below _ (T19.setTop (mkF m 35 #[.val (.long i0), .second, .val (.long i1), .second, .val (.long i2), .second, .val (.long i3), .second, .val (.long i4), .second, .val (.long i5), .second, .val (.long (i1 &&& (4611686018427387903 : Int64))), .second, .val (.long (i2 &&& (4611686018427387903 : Int64))), .second, .val (.ref b1), .unset, .unset, .unset, .unset, .unset, .unset, .unset, .unset, .unset] [(.ref b1)]))
  refine own_st (fun _ k => XS.lload X19.here hx rfl (hb hby at_35) rfl k) ?_
  show own_G p.tables e below _ (T19.setTop (mkF m 37 #[.val (.long i0), .second, .val (.long i1), .second, .val (.long i2), .second, .val (.long i3), .second, .val (.long i4), .second, .val (.long i5), .second, .val (.long (i1 &&& (4611686018427387903 : Int64))), .second, .val (.long (i2 &&& (4611686018427387903 : Int64))), .second, .val (.ref b1), .unset, .unset, .unset, .unset, .unset, .unset, .unset, .unset, .unset] [(.long (i1 &&& (4611686018427387903 : Int64))), (.ref b1)]))
  refine own_st (fun _ k => XS.lload X19.here hx rfl (hb hby at_37) rfl k) ?_
  show own_G p.tables e below _ (T19.setTop (mkF m 39 #[.val (.long i0), .second, .val (.long i1), .second, .val (.long i2), .second, .val (.long i3), .second, .val (.long i4), .second, .val (.long i5), .second, .val (.long (i1 &&& (4611686018427387903 : Int64))), .second, .val (.long (i2 &&& (4611686018427387903 : Int64))), .second, .val (.ref b1), .unset, .unset, .unset, .unset, .unset, .unset, .unset, .unset, .unset] [(.long i4), (.long (i1 &&& (4611686018427387903 : Int64))), (.ref b1)]))
  obtain ⟨cq29, kq29, q29a, q29b, q29c⟩ := isOf hZ rfl E20
  obtain ⟨_, _, ⟨T29, L29, k29, n29⟩, -, X29, ⟨Lc29, hQ29, l29, y29, z29⟩, st29⟩ := X19.virtualBack hx (y := (⟨"com/example/funnel/funnel/relay/Progress", "moved", "(JJ)V"⟩ : MethodName)) (z := (⟨"com/example/funnel/funnel/relay/Progress", "moved", "(JJ)V"⟩ : MethodName)) hown (mvT hZ (hw _ (List.mem_of_getElem? (i := 23) rfl))) (mvT hZ (hw _ (List.mem_of_getElem? (i := 24) rfl))) (notFace_of_selects (args := #[]) (mvT hZ (hw _ (List.mem_of_getElem? (i := 26) rfl)))) (mvT hZ (hw _ (List.mem_of_getElem? (i := 26) rfl))) (mvT hZ (hw _ (List.mem_of_getElem? (i := 25) rfl))) (by decide) (backOf (W := 0) (rm4 l Z a0 hw [] b1 (i1 &&& (4611686018427387903 : Int64)) i4 i0 (1 : Int32) i3 (0 : Int64) T19.heap n0 Z26 F21 F22 F23 F24 E20 ge_b1) hZ (hw _ (List.mem_of_getElem? (i := 27) rfl)) (hw _ (List.mem_of_getElem? (i := 3) rfl)) (by decide) (by decide)) q29a q29c (g := (mkF m 39 #[.val (.long i0), .second, .val (.long i1), .second, .val (.long i2), .second, .val (.long i3), .second, .val (.long i4), .second, .val (.long i5), .second, .val (.long (i1 &&& (4611686018427387903 : Int64))), .second, .val (.long (i2 &&& (4611686018427387903 : Int64))), .second, .val (.ref b1), .unset, .unset, .unset, .unset, .unset, .unset, .unset, .unset, .unset] [(.long i4), (.long (i1 &&& (4611686018427387903 : Int64))), (.ref b1)])) rfl (by rw [hml]; rfl) (Steps.refl _) (argsL := [(.long (i1 &&& (4611686018427387903 : Int64))), (.long i4)]) (rest := []) (lenOf pd_2 rfl) rfl (by show 2 * 0 + _ ≤ _; exact Nat.le_of_eq rfl) (hb hby at_39) (fun _ _ => ⟨rfl, rfl, (by decide : 1 + 0 ≤ _), (by decide : 4 + 0 ≤ _)⟩)
  dsimp only [Pt.U, Pt.locs, Pt.cells, Pt.slots] at X29 l29 y29 z29 st29 hQ29
  subst l29 y29 z29
  obtain ⟨rfl, N29q, K29q, E30, F31, F32, F33, F34⟩ := hQ29
  have N29 := Fr.app N19 N29q
  have Z36 := Nat.le_trans Z26 K29q.1
  obtain ⟨v39, hv39⟩ : ∃ z : Int64, z = (if ((0 : Int64) + (i1 &&& (4611686018427387903 : Int64))) < i0 then i3 else i4) := ⟨_, rfl⟩
  rw [← hv39] at F33
  obtain ⟨v40, hv40⟩ : ∃ z : Int64, z = (if ((0 : Int64) + (i1 &&& (4611686018427387903 : Int64))) < i0 then ((0 : Int64) + (i1 &&& (4611686018427387903 : Int64))) else (0 : Int64)) := ⟨_, rfl⟩
  rw [← hv40] at F34
  refine own_st (fun _ k => st29.trans k) ?_
  show own_G p.tables e below _ (T29.setTop (mkF m 42 #[.val (.long i0), .second, .val (.long i1), .second, .val (.long i2), .second, .val (.long i3), .second, .val (.long i4), .second, .val (.long i5), .second, .val (.long (i1 &&& (4611686018427387903 : Int64))), .second, .val (.long (i2 &&& (4611686018427387903 : Int64))), .second, .val (.ref b1), .unset, .unset, .unset, .unset, .unset, .unset, .unset, .unset, .unset] []))
  refine own_st (fun _ k => XS.lload X29.here hx rfl (hb hby at_42) rfl k) ?_
  show own_G p.tables e below _ (T29.setTop (mkF m 44 #[.val (.long i0), .second, .val (.long i1), .second, .val (.long i2), .second, .val (.long i3), .second, .val (.long i4), .second, .val (.long i5), .second, .val (.long (i1 &&& (4611686018427387903 : Int64))), .second, .val (.long (i2 &&& (4611686018427387903 : Int64))), .second, .val (.ref b1), .unset, .unset, .unset, .unset, .unset, .unset, .unset, .unset, .unset] [(.long (i1 &&& (4611686018427387903 : Int64)))]))
  refine own_st (fun _ k => XS.lloadN X29.here hx rfl (hb hby at_44) rfl k) ?_
  show own_G p.tables e below _ (T29.setTop (mkF m 45 #[.val (.long i0), .second, .val (.long i1), .second, .val (.long i2), .second, .val (.long i3), .second, .val (.long i4), .second, .val (.long i5), .second, .val (.long (i1 &&& (4611686018427387903 : Int64))), .second, .val (.long (i2 &&& (4611686018427387903 : Int64))), .second, .val (.ref b1), .unset, .unset, .unset, .unset, .unset, .unset, .unset, .unset, .unset] [(.long i0), (.long (i1 &&& (4611686018427387903 : Int64)))]))
  refine own_st (fun _ k => XS.lcmp X29.here hx rfl (hb hby at_45) rfl k) ?_
  show own_G p.tables e below _ (T29.setTop (mkF m 46 #[.val (.long i0), .second, .val (.long i1), .second, .val (.long i2), .second, .val (.long i3), .second, .val (.long i4), .second, .val (.long i5), .second, .val (.long (i1 &&& (4611686018427387903 : Int64))), .second, .val (.long (i2 &&& (4611686018427387903 : Int64))), .second, .val (.ref b1), .unset, .unset, .unset, .unset, .unset, .unset, .unset, .unset, .unset] [(.int (lcmpW (i1 &&& (4611686018427387903 : Int64)) i0))]))
  have J54_42 : ∀ (z43 : Int32) (hz43 : z43 = (own_b (¬ ((i1 &&& (4611686018427387903 : Int64)) < i0)))), own_G p.tables e below (own_P s (Q0 n0) 16 128) (T29.setTop (mkF m 54 #[.val (.long i0), .second, .val (.long i1), .second, .val (.long i2), .second, .val (.long i3), .second, .val (.long i4), .second, .val (.long i5), .second, .val (.long (i1 &&& (4611686018427387903 : Int64))), .second, .val (.long (i2 &&& (4611686018427387903 : Int64))), .second, .val (.ref b1), .unset, .unset, .unset, .unset, .unset, .unset, .unset, .unset, .unset] [(.int z43)])) := by
    intro z43 hz43
    refine own_st (fun _ k => XS.istore X29.here hx rfl (hb hby at_54) rfl (l' := #[.val (.long i0), .second, .val (.long i1), .second, .val (.long i2), .second, .val (.long i3), .second, .val (.long i4), .second, .val (.long i5), .second, .val (.long (i1 &&& (4611686018427387903 : Int64))), .second, .val (.long (i2 &&& (4611686018427387903 : Int64))), .second, .val (.ref b1), .val (.int z43), .unset, .unset, .unset, .unset, .unset, .unset, .unset, .unset]) rfl k) ?_
    show own_G p.tables e below _ (T29.setTop (mkF m 56 #[.val (.long i0), .second, .val (.long i1), .second, .val (.long i2), .second, .val (.long i3), .second, .val (.long i4), .second, .val (.long i5), .second, .val (.long (i1 &&& (4611686018427387903 : Int64))), .second, .val (.long (i2 &&& (4611686018427387903 : Int64))), .second, .val (.ref b1), .val (.int z43), .unset, .unset, .unset, .unset, .unset, .unset, .unset, .unset] []))
    refine own_st (fun _ k => XS.iload X29.here hx rfl (hb hby at_56) rfl k) ?_
    show own_G p.tables e below _ (T29.setTop (mkF m 58 #[.val (.long i0), .second, .val (.long i1), .second, .val (.long i2), .second, .val (.long i3), .second, .val (.long i4), .second, .val (.long i5), .second, .val (.long (i1 &&& (4611686018427387903 : Int64))), .second, .val (.long (i2 &&& (4611686018427387903 : Int64))), .second, .val (.ref b1), .val (.int z43), .unset, .unset, .unset, .unset, .unset, .unset, .unset, .unset] [(.int z43)]))
    have J68_45 : ∀ (z46 : Int64) (hz46 : z46 = (if ¬ ((i1 &&& (4611686018427387903 : Int64)) < i0) then i4 else i3)), own_G p.tables e below (own_P s (Q0 n0) 16 128) (T29.setTop (mkF m 68 #[.val (.long i0), .second, .val (.long i1), .second, .val (.long i2), .second, .val (.long i3), .second, .val (.long i4), .second, .val (.long i5), .second, .val (.long (i1 &&& (4611686018427387903 : Int64))), .second, .val (.long (i2 &&& (4611686018427387903 : Int64))), .second, .val (.ref b1), .val (.int z43), .unset, .unset, .unset, .unset, .unset, .unset, .unset, .unset] [(.long z46)])) := by
      intro z46 hz46
      refine own_st (fun _ k => XS.lstore X29.here hx rfl (hb hby at_68) rfl (l' := #[.val (.long i0), .second, .val (.long i1), .second, .val (.long i2), .second, .val (.long i3), .second, .val (.long i4), .second, .val (.long i5), .second, .val (.long (i1 &&& (4611686018427387903 : Int64))), .second, .val (.long (i2 &&& (4611686018427387903 : Int64))), .second, .val (.ref b1), .val (.int z43), .val (.long z46), .second, .unset, .unset, .unset, .unset, .unset, .unset]) rfl k) ?_
      show own_G p.tables e below _ (T29.setTop (mkF m 70 #[.val (.long i0), .second, .val (.long i1), .second, .val (.long i2), .second, .val (.long i3), .second, .val (.long i4), .second, .val (.long i5), .second, .val (.long (i1 &&& (4611686018427387903 : Int64))), .second, .val (.long (i2 &&& (4611686018427387903 : Int64))), .second, .val (.ref b1), .val (.int z43), .val (.long z46), .second, .unset, .unset, .unset, .unset, .unset, .unset] []))
      refine own_st (fun _ k => XS.aload X29.here hx rfl (hb hby at_70) rfl rfl k) ?_
      show own_G p.tables e below _ (T29.setTop (mkF m 72 #[.val (.long i0), .second, .val (.long i1), .second, .val (.long i2), .second, .val (.long i3), .second, .val (.long i4), .second, .val (.long i5), .second, .val (.long (i1 &&& (4611686018427387903 : Int64))), .second, .val (.long (i2 &&& (4611686018427387903 : Int64))), .second, .val (.ref b1), .val (.int z43), .val (.long z46), .second, .unset, .unset, .unset, .unset, .unset, .unset] [(.ref b1)]))
      refine own_st (fun _ k => XS.lconst X29.here hx rfl (hb hby at_72) k) ?_
      show own_G p.tables e below _ (T29.setTop (mkF m 73 #[.val (.long i0), .second, .val (.long i1), .second, .val (.long i2), .second, .val (.long i3), .second, .val (.long i4), .second, .val (.long i5), .second, .val (.long (i1 &&& (4611686018427387903 : Int64))), .second, .val (.long (i2 &&& (4611686018427387903 : Int64))), .second, .val (.ref b1), .val (.int z43), .val (.long z46), .second, .unset, .unset, .unset, .unset, .unset, .unset] [(.long (0 : Int64)), (.ref b1)]))
      obtain ⟨cq47, kq47, q47a, q47b, q47c⟩ := isOf hZ rfl E30
      obtain ⟨_, _, ⟨T47, L47, k47, n47⟩, -, X47, ⟨Lc47, hQ47, l47, y47, z47⟩, st47⟩ := X29.virtualBack hx (y := (⟨"com/example/funnel/funnel/relay/Progress", "due", "(J)J"⟩ : MethodName)) (z := (⟨"com/example/funnel/funnel/relay/Progress", "due", "(J)J"⟩ : MethodName)) hown (mvT hZ (hw _ (List.mem_of_getElem? (i := 28) rfl))) (mvT hZ (hw _ (List.mem_of_getElem? (i := 29) rfl))) (notFace_of_selects (args := #[]) (mvT hZ (hw _ (List.mem_of_getElem? (i := 31) rfl)))) (mvT hZ (hw _ (List.mem_of_getElem? (i := 31) rfl))) (mvT hZ (hw _ (List.mem_of_getElem? (i := 30) rfl))) (by decide) (backOf (W := 0) (rm5 l Z a0 hw [] b1 (0 : Int64) i0 (1 : Int32) v39 v40 T29.heap n0 Z36 F31 F32 F33 F34 E30 (by decide)) hZ (hw _ (List.mem_of_getElem? (i := 32) rfl)) (hw _ (List.mem_of_getElem? (i := 3) rfl)) (by decide) (by decide)) q47a q47c (g := (mkF m 73 #[.val (.long i0), .second, .val (.long i1), .second, .val (.long i2), .second, .val (.long i3), .second, .val (.long i4), .second, .val (.long i5), .second, .val (.long (i1 &&& (4611686018427387903 : Int64))), .second, .val (.long (i2 &&& (4611686018427387903 : Int64))), .second, .val (.ref b1), .val (.int z43), .val (.long z46), .second, .unset, .unset, .unset, .unset, .unset, .unset] [(.long (0 : Int64)), (.ref b1)])) rfl (by rw [hml]; rfl) (Steps.refl _) (argsL := [(.long (0 : Int64))]) (rest := []) (lenOf pd_3 rfl) rfl (by show 2 * 0 + _ ≤ _; exact Nat.le_of_eq rfl) (hb hby at_73) (fun _ _ => ⟨rfl, rfl, (by decide : 1 + 0 ≤ _), (by decide : 4 + 0 ≤ _)⟩)
      dsimp only [Pt.U, Pt.locs, Pt.cells, Pt.slots] at X47 l47 y47 z47 st47 hQ47
      subst l47 y47 z47
      obtain ⟨⟨r47, rfl, hr47⟩, N47q, e47⟩ := hQ47
      have N47 := Fr.app N29 N47q
      refine own_st (fun _ k => st47.trans k) ?_
      show own_G p.tables e below _ (T47.setTop (mkF m 76 #[.val (.long i0), .second, .val (.long i1), .second, .val (.long i2), .second, .val (.long i3), .second, .val (.long i4), .second, .val (.long i5), .second, .val (.long (i1 &&& (4611686018427387903 : Int64))), .second, .val (.long (i2 &&& (4611686018427387903 : Int64))), .second, .val (.ref b1), .val (.int z43), .val (.long z46), .second, .unset, .unset, .unset, .unset, .unset, .unset] [(.long r47)]))
      refine own_st (fun _ k => XS.lload X47.here hx rfl (hb hby at_76) rfl k) ?_
      show own_G p.tables e below _ (T47.setTop (mkF m 78 #[.val (.long i0), .second, .val (.long i1), .second, .val (.long i2), .second, .val (.long i3), .second, .val (.long i4), .second, .val (.long i5), .second, .val (.long (i1 &&& (4611686018427387903 : Int64))), .second, .val (.long (i2 &&& (4611686018427387903 : Int64))), .second, .val (.ref b1), .val (.int z43), .val (.long z46), .second, .unset, .unset, .unset, .unset, .unset, .unset] [(.long z46), (.long r47)]))
      refine own_st (fun _ k => XS.lcmp X47.here hx rfl (hb hby at_78) rfl k) ?_
      show own_G p.tables e below _ (T47.setTop (mkF m 79 #[.val (.long i0), .second, .val (.long i1), .second, .val (.long i2), .second, .val (.long i3), .second, .val (.long i4), .second, .val (.long i5), .second, .val (.long (i1 &&& (4611686018427387903 : Int64))), .second, .val (.long (i2 &&& (4611686018427387903 : Int64))), .second, .val (.ref b1), .val (.int z43), .val (.long z46), .second, .unset, .unset, .unset, .unset, .unset, .unset] [(.int (lcmpW r47 z46))]))
      have hf48 : r47 = z46 := by subst_vars; exact own_1 _ _ _ _
      refine own_st (fun _ k => XS.ifNo X47.here hx rfl (hb hby at_79) rfl ((if0 _ _).trans (teq ((lw_eq r47 z46).mpr hf48)).2) k) ?_
      show own_G p.tables e below _ (T47.setTop (mkF m 82 #[.val (.long i0), .second, .val (.long i1), .second, .val (.long i2), .second, .val (.long i3), .second, .val (.long i4), .second, .val (.long i5), .second, .val (.long (i1 &&& (4611686018427387903 : Int64))), .second, .val (.long (i2 &&& (4611686018427387903 : Int64))), .second, .val (.ref b1), .val (.int z43), .val (.long z46), .second, .unset, .unset, .unset, .unset, .unset, .unset] []))
      refine own_st (fun _ k => XS.iconst X47.here hx rfl (hb hby at_82) k) ?_
      show own_G p.tables e below _ (T47.setTop (mkF m 83 #[.val (.long i0), .second, .val (.long i1), .second, .val (.long i2), .second, .val (.long i3), .second, .val (.long i4), .second, .val (.long i5), .second, .val (.long (i1 &&& (4611686018427387903 : Int64))), .second, .val (.long (i2 &&& (4611686018427387903 : Int64))), .second, .val (.ref b1), .val (.int z43), .val (.long z46), .second, .unset, .unset, .unset, .unset, .unset, .unset] [(.int (1 : Int32))]))
      refine own_st (fun _ k => XS.goto X47.here hx rfl (pc0 := 83) (pc' := 87) rfl (hb hby at_83) (by decide) (by decide) k) ?_
      show own_G p.tables e below _ (T47.setTop (mkF m 87 #[.val (.long i0), .second, .val (.long i1), .second, .val (.long i2), .second, .val (.long i3), .second, .val (.long i4), .second, .val (.long i5), .second, .val (.long (i1 &&& (4611686018427387903 : Int64))), .second, .val (.long (i2 &&& (4611686018427387903 : Int64))), .second, .val (.ref b1), .val (.int z43), .val (.long z46), .second, .unset, .unset, .unset, .unset, .unset, .unset] [(.int (1 : Int32))]))
      refine own_st (fun _ k => XS.istore X47.here hx rfl (hb hby at_87) rfl (l' := #[.val (.long i0), .second, .val (.long i1), .second, .val (.long i2), .second, .val (.long i3), .second, .val (.long i4), .second, .val (.long i5), .second, .val (.long (i1 &&& (4611686018427387903 : Int64))), .second, .val (.long (i2 &&& (4611686018427387903 : Int64))), .second, .val (.ref b1), .val (.int z43), .val (.long z46), .second, .val (.int (1 : Int32)), .unset, .unset, .unset, .unset, .unset]) rfl k) ?_
      show own_G p.tables e below _ (T47.setTop (mkF m 89 #[.val (.long i0), .second, .val (.long i1), .second, .val (.long i2), .second, .val (.long i3), .second, .val (.long i4), .second, .val (.long i5), .second, .val (.long (i1 &&& (4611686018427387903 : Int64))), .second, .val (.long (i2 &&& (4611686018427387903 : Int64))), .second, .val (.ref b1), .val (.int z43), .val (.long z46), .second, .val (.int (1 : Int32)), .unset, .unset, .unset, .unset, .unset] []))
      refine own_st (fun _ k => XS.aload X47.here hx rfl (hb hby at_89) rfl rfl k) ?_
      show own_G p.tables e below _ (T47.setTop (mkF m 91 #[.val (.long i0), .second, .val (.long i1), .second, .val (.long i2), .second, .val (.long i3), .second, .val (.long i4), .second, .val (.long i5), .second, .val (.long (i1 &&& (4611686018427387903 : Int64))), .second, .val (.long (i2 &&& (4611686018427387903 : Int64))), .second, .val (.ref b1), .val (.int z43), .val (.long z46), .second, .val (.int (1 : Int32)), .unset, .unset, .unset, .unset, .unset] [(.ref b1)]))
      refine own_st (fun _ k => XS.lload X47.here hx rfl (hb hby at_91) rfl k) ?_
      show own_G p.tables e below _ (T47.setTop (mkF m 93 #[.val (.long i0), .second, .val (.long i1), .second, .val (.long i2), .second, .val (.long i3), .second, .val (.long i4), .second, .val (.long i5), .second, .val (.long (i1 &&& (4611686018427387903 : Int64))), .second, .val (.long (i2 &&& (4611686018427387903 : Int64))), .second, .val (.ref b1), .val (.int z43), .val (.long z46), .second, .val (.int (1 : Int32)), .unset, .unset, .unset, .unset, .unset] [(.long (i2 &&& (4611686018427387903 : Int64))), (.ref b1)]))
      refine own_st (fun _ k => XS.lload X47.here hx rfl (hb hby at_93) rfl k) ?_
      show own_G p.tables e below _ (T47.setTop (mkF m 95 #[.val (.long i0), .second, .val (.long i1), .second, .val (.long i2), .second, .val (.long i3), .second, .val (.long i4), .second, .val (.long i5), .second, .val (.long (i1 &&& (4611686018427387903 : Int64))), .second, .val (.long (i2 &&& (4611686018427387903 : Int64))), .second, .val (.ref b1), .val (.int z43), .val (.long z46), .second, .val (.int (1 : Int32)), .unset, .unset, .unset, .unset, .unset] [(.long i5), (.long (i2 &&& (4611686018427387903 : Int64))), (.ref b1)]))
      obtain ⟨cq49, kq49, q49a, q49b, q49c⟩ := isOf hZ e47 E30
      obtain ⟨_, _, ⟨T49, L49, k49, n49⟩, -, X49, ⟨Lc49, hQ49, l49, y49, z49⟩, st49⟩ := X47.virtualBack hx (y := (⟨"com/example/funnel/funnel/relay/Progress", "moved", "(JJ)V"⟩ : MethodName)) (z := (⟨"com/example/funnel/funnel/relay/Progress", "moved", "(JJ)V"⟩ : MethodName)) hown (mvT hZ (hw _ (List.mem_of_getElem? (i := 23) rfl))) (mvT hZ (hw _ (List.mem_of_getElem? (i := 24) rfl))) (notFace_of_selects (args := #[]) (mvT hZ (hw _ (List.mem_of_getElem? (i := 26) rfl)))) (mvT hZ (hw _ (List.mem_of_getElem? (i := 26) rfl))) (mvT hZ (hw _ (List.mem_of_getElem? (i := 25) rfl))) (by decide) (backOf (W := 0) (rm4 l Z a0 hw [] b1 (i2 &&& (4611686018427387903 : Int64)) i5 i0 (1 : Int32) v39 v40 T29.heap n0 Z36 F31 F32 F33 F34 E30 ge_b1) hZ (hw _ (List.mem_of_getElem? (i := 27) rfl)) (hw _ (List.mem_of_getElem? (i := 3) rfl)) (by decide) (by decide)) q49a q49c (g := (mkF m 95 #[.val (.long i0), .second, .val (.long i1), .second, .val (.long i2), .second, .val (.long i3), .second, .val (.long i4), .second, .val (.long i5), .second, .val (.long (i1 &&& (4611686018427387903 : Int64))), .second, .val (.long (i2 &&& (4611686018427387903 : Int64))), .second, .val (.ref b1), .val (.int z43), .val (.long z46), .second, .val (.int (1 : Int32)), .unset, .unset, .unset, .unset, .unset] [(.long i5), (.long (i2 &&& (4611686018427387903 : Int64))), (.ref b1)])) rfl (by rw [hml]; rfl) (Steps.refl _) (argsL := [(.long (i2 &&& (4611686018427387903 : Int64))), (.long i5)]) (rest := []) (lenOf pd_2 rfl) rfl (by show 2 * 0 + _ ≤ _; exact Nat.le_of_eq rfl) (hb hby at_95) (fun _ _ => ⟨rfl, e47, (by decide : 1 + 0 ≤ _), (by decide : 4 + 0 ≤ _)⟩)
      dsimp only [Pt.U, Pt.locs, Pt.cells, Pt.slots] at X49 l49 y49 z49 st49 hQ49
      subst l49 y49 z49
      obtain ⟨rfl, N49q, K49q, E50, F51, F52, F53, F54⟩ := hQ49
      have N49 := Fr.app N47 N49q
      have Z56 := Nat.le_trans Z36 K49q.1
      obtain ⟨v59, hv59⟩ : ∃ z : Int64, z = (if (v40 + (i2 &&& (4611686018427387903 : Int64))) < i0 then v39 else i5) := ⟨_, rfl⟩
      rw [← hv59] at F53
      obtain ⟨v60, hv60⟩ : ∃ z : Int64, z = (if (v40 + (i2 &&& (4611686018427387903 : Int64))) < i0 then (v40 + (i2 &&& (4611686018427387903 : Int64))) else (0 : Int64)) := ⟨_, rfl⟩
      rw [← hv60] at F54
      refine own_st (fun _ k => st49.trans k) ?_
      show own_G p.tables e below _ (T49.setTop (mkF m 98 #[.val (.long i0), .second, .val (.long i1), .second, .val (.long i2), .second, .val (.long i3), .second, .val (.long i4), .second, .val (.long i5), .second, .val (.long (i1 &&& (4611686018427387903 : Int64))), .second, .val (.long (i2 &&& (4611686018427387903 : Int64))), .second, .val (.ref b1), .val (.int z43), .val (.long z46), .second, .val (.int (1 : Int32)), .unset, .unset, .unset, .unset, .unset] []))
      refine own_st (fun _ k => XS.iload X49.here hx rfl (hb hby at_98) rfl k) ?_
      show own_G p.tables e below _ (T49.setTop (mkF m 100 #[.val (.long i0), .second, .val (.long i1), .second, .val (.long i2), .second, .val (.long i3), .second, .val (.long i4), .second, .val (.long i5), .second, .val (.long (i1 &&& (4611686018427387903 : Int64))), .second, .val (.long (i2 &&& (4611686018427387903 : Int64))), .second, .val (.ref b1), .val (.int z43), .val (.long z46), .second, .val (.int (1 : Int32)), .unset, .unset, .unset, .unset, .unset] [(.int z43)]))
      have J113_62 : ∀ (z63 : Int64) (hz63 : z63 = (if ¬ ((i1 &&& (4611686018427387903 : Int64)) < i0) then (i2 &&& (4611686018427387903 : Int64)) else ((i1 &&& (4611686018427387903 : Int64)) + (i2 &&& (4611686018427387903 : Int64))))), own_G p.tables e below (own_P s (Q0 n0) 16 128) (T49.setTop (mkF m 113 #[.val (.long i0), .second, .val (.long i1), .second, .val (.long i2), .second, .val (.long i3), .second, .val (.long i4), .second, .val (.long i5), .second, .val (.long (i1 &&& (4611686018427387903 : Int64))), .second, .val (.long (i2 &&& (4611686018427387903 : Int64))), .second, .val (.ref b1), .val (.int z43), .val (.long z46), .second, .val (.int (1 : Int32)), .unset, .unset, .unset, .unset, .unset] [(.long z63)])) := by
        intro z63 hz63
        refine own_st (fun _ k => XS.lstore X49.here hx rfl (hb hby at_113) rfl (l' := #[.val (.long i0), .second, .val (.long i1), .second, .val (.long i2), .second, .val (.long i3), .second, .val (.long i4), .second, .val (.long i5), .second, .val (.long (i1 &&& (4611686018427387903 : Int64))), .second, .val (.long (i2 &&& (4611686018427387903 : Int64))), .second, .val (.ref b1), .val (.int z43), .val (.long z46), .second, .val (.int (1 : Int32)), .val (.long z63), .second, .unset, .unset, .unset]) rfl k) ?_
        show own_G p.tables e below _ (T49.setTop (mkF m 115 #[.val (.long i0), .second, .val (.long i1), .second, .val (.long i2), .second, .val (.long i3), .second, .val (.long i4), .second, .val (.long i5), .second, .val (.long (i1 &&& (4611686018427387903 : Int64))), .second, .val (.long (i2 &&& (4611686018427387903 : Int64))), .second, .val (.ref b1), .val (.int z43), .val (.long z46), .second, .val (.int (1 : Int32)), .val (.long z63), .second, .unset, .unset, .unset] []))
        refine own_st (fun _ k => XS.lload X49.here hx rfl (hb hby at_115) rfl k) ?_
        show own_G p.tables e below _ (T49.setTop (mkF m 117 #[.val (.long i0), .second, .val (.long i1), .second, .val (.long i2), .second, .val (.long i3), .second, .val (.long i4), .second, .val (.long i5), .second, .val (.long (i1 &&& (4611686018427387903 : Int64))), .second, .val (.long (i2 &&& (4611686018427387903 : Int64))), .second, .val (.ref b1), .val (.int z43), .val (.long z46), .second, .val (.int (1 : Int32)), .val (.long z63), .second, .unset, .unset, .unset] [(.long z63)]))
        refine own_st (fun _ k => XS.lloadN X49.here hx rfl (hb hby at_117) rfl k) ?_
        show own_G p.tables e below _ (T49.setTop (mkF m 118 #[.val (.long i0), .second, .val (.long i1), .second, .val (.long i2), .second, .val (.long i3), .second, .val (.long i4), .second, .val (.long i5), .second, .val (.long (i1 &&& (4611686018427387903 : Int64))), .second, .val (.long (i2 &&& (4611686018427387903 : Int64))), .second, .val (.ref b1), .val (.int z43), .val (.long z46), .second, .val (.int (1 : Int32)), .val (.long z63), .second, .unset, .unset, .unset] [(.long i0), (.long z63)]))
        refine own_st (fun _ k => XS.lcmp X49.here hx rfl (hb hby at_118) rfl k) ?_
        show own_G p.tables e below _ (T49.setTop (mkF m 119 #[.val (.long i0), .second, .val (.long i1), .second, .val (.long i2), .second, .val (.long i3), .second, .val (.long i4), .second, .val (.long i5), .second, .val (.long (i1 &&& (4611686018427387903 : Int64))), .second, .val (.long (i2 &&& (4611686018427387903 : Int64))), .second, .val (.ref b1), .val (.int z43), .val (.long z46), .second, .val (.int (1 : Int32)), .val (.long z63), .second, .unset, .unset, .unset] [(.int (lcmpW z63 i0))]))
        have J129_65 : ∀ (z66 : Int64) (hz66 : z66 = (if z63 < i0 then z46 else i5)), own_G p.tables e below (own_P s (Q0 n0) 16 128) (T49.setTop (mkF m 129 #[.val (.long i0), .second, .val (.long i1), .second, .val (.long i2), .second, .val (.long i3), .second, .val (.long i4), .second, .val (.long i5), .second, .val (.long (i1 &&& (4611686018427387903 : Int64))), .second, .val (.long (i2 &&& (4611686018427387903 : Int64))), .second, .val (.ref b1), .val (.int z43), .val (.long z46), .second, .val (.int (1 : Int32)), .val (.long z63), .second, .unset, .unset, .unset] [(.long z66)])) := by
          intro z66 hz66
          refine own_st (fun _ k => XS.lstore X49.here hx rfl (hb hby at_129) rfl (l' := #[.val (.long i0), .second, .val (.long i1), .second, .val (.long i2), .second, .val (.long i3), .second, .val (.long i4), .second, .val (.long i5), .second, .val (.long (i1 &&& (4611686018427387903 : Int64))), .second, .val (.long (i2 &&& (4611686018427387903 : Int64))), .second, .val (.ref b1), .val (.int z43), .val (.long z46), .second, .val (.int (1 : Int32)), .val (.long z63), .second, .val (.long z66), .second, .unset]) rfl k) ?_
          show own_G p.tables e below _ (T49.setTop (mkF m 131 #[.val (.long i0), .second, .val (.long i1), .second, .val (.long i2), .second, .val (.long i3), .second, .val (.long i4), .second, .val (.long i5), .second, .val (.long (i1 &&& (4611686018427387903 : Int64))), .second, .val (.long (i2 &&& (4611686018427387903 : Int64))), .second, .val (.ref b1), .val (.int z43), .val (.long z46), .second, .val (.int (1 : Int32)), .val (.long z63), .second, .val (.long z66), .second, .unset] []))
          refine own_st (fun _ k => XS.aload X49.here hx rfl (hb hby at_131) rfl rfl k) ?_
          show own_G p.tables e below _ (T49.setTop (mkF m 133 #[.val (.long i0), .second, .val (.long i1), .second, .val (.long i2), .second, .val (.long i3), .second, .val (.long i4), .second, .val (.long i5), .second, .val (.long (i1 &&& (4611686018427387903 : Int64))), .second, .val (.long (i2 &&& (4611686018427387903 : Int64))), .second, .val (.ref b1), .val (.int z43), .val (.long z46), .second, .val (.int (1 : Int32)), .val (.long z63), .second, .val (.long z66), .second, .unset] [(.ref b1)]))
          refine own_st (fun _ k => XS.lconst X49.here hx rfl (hb hby at_133) k) ?_
          show own_G p.tables e below _ (T49.setTop (mkF m 134 #[.val (.long i0), .second, .val (.long i1), .second, .val (.long i2), .second, .val (.long i3), .second, .val (.long i4), .second, .val (.long i5), .second, .val (.long (i1 &&& (4611686018427387903 : Int64))), .second, .val (.long (i2 &&& (4611686018427387903 : Int64))), .second, .val (.ref b1), .val (.int z43), .val (.long z46), .second, .val (.int (1 : Int32)), .val (.long z63), .second, .val (.long z66), .second, .unset] [(.long (0 : Int64)), (.ref b1)]))
          obtain ⟨cq67, kq67, q67a, q67b, q67c⟩ := isOf hZ rfl E50
          obtain ⟨_, _, ⟨T67, L67, k67, n67⟩, -, X67, ⟨Lc67, hQ67, l67, y67, z67⟩, st67⟩ := X49.virtualBack hx (y := (⟨"com/example/funnel/funnel/relay/Progress", "due", "(J)J"⟩ : MethodName)) (z := (⟨"com/example/funnel/funnel/relay/Progress", "due", "(J)J"⟩ : MethodName)) hown (mvT hZ (hw _ (List.mem_of_getElem? (i := 28) rfl))) (mvT hZ (hw _ (List.mem_of_getElem? (i := 29) rfl))) (notFace_of_selects (args := #[]) (mvT hZ (hw _ (List.mem_of_getElem? (i := 31) rfl)))) (mvT hZ (hw _ (List.mem_of_getElem? (i := 31) rfl))) (mvT hZ (hw _ (List.mem_of_getElem? (i := 30) rfl))) (by decide) (backOf (W := 0) (rm5 l Z a0 hw [] b1 (0 : Int64) i0 (1 : Int32) v59 v60 T49.heap n0 Z56 F51 F52 F53 F54 E50 (by decide)) hZ (hw _ (List.mem_of_getElem? (i := 32) rfl)) (hw _ (List.mem_of_getElem? (i := 3) rfl)) (by decide) (by decide)) q67a q67c (g := (mkF m 134 #[.val (.long i0), .second, .val (.long i1), .second, .val (.long i2), .second, .val (.long i3), .second, .val (.long i4), .second, .val (.long i5), .second, .val (.long (i1 &&& (4611686018427387903 : Int64))), .second, .val (.long (i2 &&& (4611686018427387903 : Int64))), .second, .val (.ref b1), .val (.int z43), .val (.long z46), .second, .val (.int (1 : Int32)), .val (.long z63), .second, .val (.long z66), .second, .unset] [(.long (0 : Int64)), (.ref b1)])) rfl (by rw [hml]; rfl) (Steps.refl _) (argsL := [(.long (0 : Int64))]) (rest := []) (lenOf pd_3 rfl) rfl (by show 2 * 0 + _ ≤ _; exact Nat.le_of_eq rfl) (hb hby at_134) (fun _ _ => ⟨rfl, rfl, (by decide : 1 + 0 ≤ _), (by decide : 4 + 0 ≤ _)⟩)
          dsimp only [Pt.U, Pt.locs, Pt.cells, Pt.slots] at X67 l67 y67 z67 st67 hQ67
          subst l67 y67 z67
          obtain ⟨⟨r67, rfl, hr67⟩, N67q, e67⟩ := hQ67
          have N67 := Fr.app N49 N67q
          refine own_st (fun _ k => st67.trans k) ?_
          show own_G p.tables e below _ (T67.setTop (mkF m 137 #[.val (.long i0), .second, .val (.long i1), .second, .val (.long i2), .second, .val (.long i3), .second, .val (.long i4), .second, .val (.long i5), .second, .val (.long (i1 &&& (4611686018427387903 : Int64))), .second, .val (.long (i2 &&& (4611686018427387903 : Int64))), .second, .val (.ref b1), .val (.int z43), .val (.long z46), .second, .val (.int (1 : Int32)), .val (.long z63), .second, .val (.long z66), .second, .unset] [(.long r67)]))
          refine own_st (fun _ k => XS.lload X67.here hx rfl (hb hby at_137) rfl k) ?_
          show own_G p.tables e below _ (T67.setTop (mkF m 139 #[.val (.long i0), .second, .val (.long i1), .second, .val (.long i2), .second, .val (.long i3), .second, .val (.long i4), .second, .val (.long i5), .second, .val (.long (i1 &&& (4611686018427387903 : Int64))), .second, .val (.long (i2 &&& (4611686018427387903 : Int64))), .second, .val (.ref b1), .val (.int z43), .val (.long z46), .second, .val (.int (1 : Int32)), .val (.long z63), .second, .val (.long z66), .second, .unset] [(.long z66), (.long r67)]))
          refine own_st (fun _ k => XS.lcmp X67.here hx rfl (hb hby at_139) rfl k) ?_
          show own_G p.tables e below _ (T67.setTop (mkF m 140 #[.val (.long i0), .second, .val (.long i1), .second, .val (.long i2), .second, .val (.long i3), .second, .val (.long i4), .second, .val (.long i5), .second, .val (.long (i1 &&& (4611686018427387903 : Int64))), .second, .val (.long (i2 &&& (4611686018427387903 : Int64))), .second, .val (.ref b1), .val (.int z43), .val (.long z46), .second, .val (.int (1 : Int32)), .val (.long z63), .second, .val (.long z66), .second, .unset] [(.int (lcmpW r67 z66))]))
          have hf68 : r67 = z66 := by subst_vars; exact own_2 _ _ _ _ _ _
          refine own_st (fun _ k => XS.ifNo X67.here hx rfl (hb hby at_140) rfl ((if0 _ _).trans (teq ((lw_eq r67 z66).mpr hf68)).2) k) ?_
          show own_G p.tables e below _ (T67.setTop (mkF m 143 #[.val (.long i0), .second, .val (.long i1), .second, .val (.long i2), .second, .val (.long i3), .second, .val (.long i4), .second, .val (.long i5), .second, .val (.long (i1 &&& (4611686018427387903 : Int64))), .second, .val (.long (i2 &&& (4611686018427387903 : Int64))), .second, .val (.ref b1), .val (.int z43), .val (.long z46), .second, .val (.int (1 : Int32)), .val (.long z63), .second, .val (.long z66), .second, .unset] []))
          refine own_st (fun _ k => XS.iconst X67.here hx rfl (hb hby at_143) k) ?_
          show own_G p.tables e below _ (T67.setTop (mkF m 144 #[.val (.long i0), .second, .val (.long i1), .second, .val (.long i2), .second, .val (.long i3), .second, .val (.long i4), .second, .val (.long i5), .second, .val (.long (i1 &&& (4611686018427387903 : Int64))), .second, .val (.long (i2 &&& (4611686018427387903 : Int64))), .second, .val (.ref b1), .val (.int z43), .val (.long z46), .second, .val (.int (1 : Int32)), .val (.long z63), .second, .val (.long z66), .second, .unset] [(.int (1 : Int32))]))
          refine own_st (fun _ k => XS.goto X67.here hx rfl (pc0 := 144) (pc' := 148) rfl (hb hby at_144) (by decide) (by decide) k) ?_
          show own_G p.tables e below _ (T67.setTop (mkF m 148 #[.val (.long i0), .second, .val (.long i1), .second, .val (.long i2), .second, .val (.long i3), .second, .val (.long i4), .second, .val (.long i5), .second, .val (.long (i1 &&& (4611686018427387903 : Int64))), .second, .val (.long (i2 &&& (4611686018427387903 : Int64))), .second, .val (.ref b1), .val (.int z43), .val (.long z46), .second, .val (.int (1 : Int32)), .val (.long z63), .second, .val (.long z66), .second, .unset] [(.int (1 : Int32))]))
          refine own_st (fun _ k => XS.istore X67.here hx rfl (hb hby at_148) rfl (l' := #[.val (.long i0), .second, .val (.long i1), .second, .val (.long i2), .second, .val (.long i3), .second, .val (.long i4), .second, .val (.long i5), .second, .val (.long (i1 &&& (4611686018427387903 : Int64))), .second, .val (.long (i2 &&& (4611686018427387903 : Int64))), .second, .val (.ref b1), .val (.int z43), .val (.long z46), .second, .val (.int (1 : Int32)), .val (.long z63), .second, .val (.long z66), .second, .val (.int (1 : Int32))]) rfl k) ?_
          show own_G p.tables e below _ (T67.setTop (mkF m 150 #[.val (.long i0), .second, .val (.long i1), .second, .val (.long i2), .second, .val (.long i3), .second, .val (.long i4), .second, .val (.long i5), .second, .val (.long (i1 &&& (4611686018427387903 : Int64))), .second, .val (.long (i2 &&& (4611686018427387903 : Int64))), .second, .val (.ref b1), .val (.int z43), .val (.long z46), .second, .val (.int (1 : Int32)), .val (.long z63), .second, .val (.long z66), .second, .val (.int (1 : Int32))] []))
          refine own_st (fun _ k => XS.iload X67.here hx rfl (hb hby at_150) rfl k) ?_
          show own_G p.tables e below _ (T67.setTop (mkF m 152 #[.val (.long i0), .second, .val (.long i1), .second, .val (.long i2), .second, .val (.long i3), .second, .val (.long i4), .second, .val (.long i5), .second, .val (.long (i1 &&& (4611686018427387903 : Int64))), .second, .val (.long (i2 &&& (4611686018427387903 : Int64))), .second, .val (.ref b1), .val (.int z43), .val (.long z46), .second, .val (.int (1 : Int32)), .val (.long z63), .second, .val (.long z66), .second, .val (.int (1 : Int32))] [(.int (1 : Int32))]))
          refine own_st (fun _ k => XS.ifNo X67.here hx rfl (hb hby at_152) rfl (by decide) k) ?_
          show own_G p.tables e below _ (T67.setTop (mkF m 155 #[.val (.long i0), .second, .val (.long i1), .second, .val (.long i2), .second, .val (.long i3), .second, .val (.long i4), .second, .val (.long i5), .second, .val (.long (i1 &&& (4611686018427387903 : Int64))), .second, .val (.long (i2 &&& (4611686018427387903 : Int64))), .second, .val (.ref b1), .val (.int z43), .val (.long z46), .second, .val (.int (1 : Int32)), .val (.long z63), .second, .val (.long z66), .second, .val (.int (1 : Int32))] []))
          refine own_st (fun _ k => XS.iload X67.here hx rfl (hb hby at_155) rfl k) ?_
          show own_G p.tables e below _ (T67.setTop (mkF m 157 #[.val (.long i0), .second, .val (.long i1), .second, .val (.long i2), .second, .val (.long i3), .second, .val (.long i4), .second, .val (.long i5), .second, .val (.long (i1 &&& (4611686018427387903 : Int64))), .second, .val (.long (i2 &&& (4611686018427387903 : Int64))), .second, .val (.ref b1), .val (.int z43), .val (.long z46), .second, .val (.int (1 : Int32)), .val (.long z63), .second, .val (.long z66), .second, .val (.int (1 : Int32))] [(.int (1 : Int32))]))
          refine own_st (fun _ k => XS.ifNo X67.here hx rfl (hb hby at_157) rfl (by decide) k) ?_
          show own_G p.tables e below _ (T67.setTop (mkF m 160 #[.val (.long i0), .second, .val (.long i1), .second, .val (.long i2), .second, .val (.long i3), .second, .val (.long i4), .second, .val (.long i5), .second, .val (.long (i1 &&& (4611686018427387903 : Int64))), .second, .val (.long (i2 &&& (4611686018427387903 : Int64))), .second, .val (.ref b1), .val (.int z43), .val (.long z46), .second, .val (.int (1 : Int32)), .val (.long z63), .second, .val (.long z66), .second, .val (.int (1 : Int32))] []))
          refine own_st (fun _ k => XS.iconst X67.here hx rfl (hb hby at_160) k) ?_
          show own_G p.tables e below _ (T67.setTop (mkF m 161 #[.val (.long i0), .second, .val (.long i1), .second, .val (.long i2), .second, .val (.long i3), .second, .val (.long i4), .second, .val (.long i5), .second, .val (.long (i1 &&& (4611686018427387903 : Int64))), .second, .val (.long (i2 &&& (4611686018427387903 : Int64))), .second, .val (.ref b1), .val (.int z43), .val (.long z46), .second, .val (.int (1 : Int32)), .val (.long z63), .second, .val (.long z66), .second, .val (.int (1 : Int32))] [(.int (1 : Int32))]))
          refine own_st (fun _ k => XS.goto X67.here hx rfl (pc0 := 161) (pc' := 165) rfl (hb hby at_161) (by decide) (by decide) k) ?_
          show own_G p.tables e below _ (T67.setTop (mkF m 165 #[.val (.long i0), .second, .val (.long i1), .second, .val (.long i2), .second, .val (.long i3), .second, .val (.long i4), .second, .val (.long i5), .second, .val (.long (i1 &&& (4611686018427387903 : Int64))), .second, .val (.long (i2 &&& (4611686018427387903 : Int64))), .second, .val (.ref b1), .val (.int z43), .val (.long z46), .second, .val (.int (1 : Int32)), .val (.long z63), .second, .val (.long z66), .second, .val (.int (1 : Int32))] [(.int (1 : Int32))]))
          exact own_retZ X67 hx hlk Bd.returns (hb hby at_165) (by decide) ⟨rfl, N67⟩ (by decide) (by decide)
        by_cases hc119_64 : z63 < i0
        · refine own_st (fun _ k => XS.ifYes X49.here hx rfl (pc0 := 119) (pc' := 127) rfl (hb hby at_119) rfl ((if0 _ _).trans (tlt ((lw_lt z63 i0).mpr hc119_64)).1) (by decide) (by decide) k) ?_
          show own_G p.tables e below _ (T49.setTop (mkF m 127 #[.val (.long i0), .second, .val (.long i1), .second, .val (.long i2), .second, .val (.long i3), .second, .val (.long i4), .second, .val (.long i5), .second, .val (.long (i1 &&& (4611686018427387903 : Int64))), .second, .val (.long (i2 &&& (4611686018427387903 : Int64))), .second, .val (.ref b1), .val (.int z43), .val (.long z46), .second, .val (.int (1 : Int32)), .val (.long z63), .second, .unset, .unset, .unset] []))
          refine own_st (fun _ k => XS.lload X49.here hx rfl (hb hby at_127) rfl k) ?_
          show own_G p.tables e below _ (T49.setTop (mkF m 129 #[.val (.long i0), .second, .val (.long i1), .second, .val (.long i2), .second, .val (.long i3), .second, .val (.long i4), .second, .val (.long i5), .second, .val (.long (i1 &&& (4611686018427387903 : Int64))), .second, .val (.long (i2 &&& (4611686018427387903 : Int64))), .second, .val (.ref b1), .val (.int z43), .val (.long z46), .second, .val (.int (1 : Int32)), .val (.long z63), .second, .unset, .unset, .unset] [(.long z46)]))
          exact J129_65 z46 ((if_pos hc119_64).symm)
        · refine own_st (fun _ k => XS.ifNo X49.here hx rfl (hb hby at_119) rfl ((if0 _ _).trans (flt (fun q => hc119_64 ((lw_lt z63 i0).mp q))).1) k) ?_
          show own_G p.tables e below _ (T49.setTop (mkF m 122 #[.val (.long i0), .second, .val (.long i1), .second, .val (.long i2), .second, .val (.long i3), .second, .val (.long i4), .second, .val (.long i5), .second, .val (.long (i1 &&& (4611686018427387903 : Int64))), .second, .val (.long (i2 &&& (4611686018427387903 : Int64))), .second, .val (.ref b1), .val (.int z43), .val (.long z46), .second, .val (.int (1 : Int32)), .val (.long z63), .second, .unset, .unset, .unset] []))
          refine own_st (fun _ k => XS.lload X49.here hx rfl (hb hby at_122) rfl k) ?_
          show own_G p.tables e below _ (T49.setTop (mkF m 124 #[.val (.long i0), .second, .val (.long i1), .second, .val (.long i2), .second, .val (.long i3), .second, .val (.long i4), .second, .val (.long i5), .second, .val (.long (i1 &&& (4611686018427387903 : Int64))), .second, .val (.long (i2 &&& (4611686018427387903 : Int64))), .second, .val (.ref b1), .val (.int z43), .val (.long z46), .second, .val (.int (1 : Int32)), .val (.long z63), .second, .unset, .unset, .unset] [(.long i5)]))
          refine own_st (fun _ k => XS.goto X49.here hx rfl (pc0 := 124) (pc' := 129) rfl (hb hby at_124) (by decide) (by decide) k) ?_
          show own_G p.tables e below _ (T49.setTop (mkF m 129 #[.val (.long i0), .second, .val (.long i1), .second, .val (.long i2), .second, .val (.long i3), .second, .val (.long i4), .second, .val (.long i5), .second, .val (.long (i1 &&& (4611686018427387903 : Int64))), .second, .val (.long (i2 &&& (4611686018427387903 : Int64))), .second, .val (.ref b1), .val (.int z43), .val (.long z46), .second, .val (.int (1 : Int32)), .val (.long z63), .second, .unset, .unset, .unset] [(.long i5)]))
          exact J129_65 i5 ((if_neg hc119_64).symm)
      by_cases hc100_61 : ¬ ((i1 &&& (4611686018427387903 : Int64)) < i0)
      · refine own_st (fun _ k => XS.ifNo X49.here hx rfl (hb hby at_100) rfl ((if0 _ _).trans (feq (own_b1 hz43 hc100_61)).1) k) ?_
        show own_G p.tables e below _ (T49.setTop (mkF m 103 #[.val (.long i0), .second, .val (.long i1), .second, .val (.long i2), .second, .val (.long i3), .second, .val (.long i4), .second, .val (.long i5), .second, .val (.long (i1 &&& (4611686018427387903 : Int64))), .second, .val (.long (i2 &&& (4611686018427387903 : Int64))), .second, .val (.ref b1), .val (.int z43), .val (.long z46), .second, .val (.int (1 : Int32)), .unset, .unset, .unset, .unset, .unset] []))
        refine own_st (fun _ k => XS.lload X49.here hx rfl (hb hby at_103) rfl k) ?_
        show own_G p.tables e below _ (T49.setTop (mkF m 105 #[.val (.long i0), .second, .val (.long i1), .second, .val (.long i2), .second, .val (.long i3), .second, .val (.long i4), .second, .val (.long i5), .second, .val (.long (i1 &&& (4611686018427387903 : Int64))), .second, .val (.long (i2 &&& (4611686018427387903 : Int64))), .second, .val (.ref b1), .val (.int z43), .val (.long z46), .second, .val (.int (1 : Int32)), .unset, .unset, .unset, .unset, .unset] [(.long (i2 &&& (4611686018427387903 : Int64)))]))
        refine own_st (fun _ k => XS.goto X49.here hx rfl (pc0 := 105) (pc' := 113) rfl (hb hby at_105) (by decide) (by decide) k) ?_
        show own_G p.tables e below _ (T49.setTop (mkF m 113 #[.val (.long i0), .second, .val (.long i1), .second, .val (.long i2), .second, .val (.long i3), .second, .val (.long i4), .second, .val (.long i5), .second, .val (.long (i1 &&& (4611686018427387903 : Int64))), .second, .val (.long (i2 &&& (4611686018427387903 : Int64))), .second, .val (.ref b1), .val (.int z43), .val (.long z46), .second, .val (.int (1 : Int32)), .unset, .unset, .unset, .unset, .unset] [(.long (i2 &&& (4611686018427387903 : Int64)))]))
        exact J113_62 (i2 &&& (4611686018427387903 : Int64)) ((if_pos hc100_61).symm)
      · refine own_st (fun _ k => XS.ifYes X49.here hx rfl (pc0 := 100) (pc' := 108) rfl (hb hby at_100) rfl ((if0 _ _).trans (teq (own_b0 hz43 hc100_61)).1) (by decide) (by decide) k) ?_
        show own_G p.tables e below _ (T49.setTop (mkF m 108 #[.val (.long i0), .second, .val (.long i1), .second, .val (.long i2), .second, .val (.long i3), .second, .val (.long i4), .second, .val (.long i5), .second, .val (.long (i1 &&& (4611686018427387903 : Int64))), .second, .val (.long (i2 &&& (4611686018427387903 : Int64))), .second, .val (.ref b1), .val (.int z43), .val (.long z46), .second, .val (.int (1 : Int32)), .unset, .unset, .unset, .unset, .unset] []))
        refine own_st (fun _ k => XS.lload X49.here hx rfl (hb hby at_108) rfl k) ?_
        show own_G p.tables e below _ (T49.setTop (mkF m 110 #[.val (.long i0), .second, .val (.long i1), .second, .val (.long i2), .second, .val (.long i3), .second, .val (.long i4), .second, .val (.long i5), .second, .val (.long (i1 &&& (4611686018427387903 : Int64))), .second, .val (.long (i2 &&& (4611686018427387903 : Int64))), .second, .val (.ref b1), .val (.int z43), .val (.long z46), .second, .val (.int (1 : Int32)), .unset, .unset, .unset, .unset, .unset] [(.long (i1 &&& (4611686018427387903 : Int64)))]))
        refine own_st (fun _ k => XS.lload X49.here hx rfl (hb hby at_110) rfl k) ?_
        show own_G p.tables e below _ (T49.setTop (mkF m 112 #[.val (.long i0), .second, .val (.long i1), .second, .val (.long i2), .second, .val (.long i3), .second, .val (.long i4), .second, .val (.long i5), .second, .val (.long (i1 &&& (4611686018427387903 : Int64))), .second, .val (.long (i2 &&& (4611686018427387903 : Int64))), .second, .val (.ref b1), .val (.int z43), .val (.long z46), .second, .val (.int (1 : Int32)), .unset, .unset, .unset, .unset, .unset] [(.long (i2 &&& (4611686018427387903 : Int64))), (.long (i1 &&& (4611686018427387903 : Int64)))]))
        refine own_st (fun _ k => XS.ladd X49.here hx rfl (hb hby at_112) rfl k) ?_
        show own_G p.tables e below _ (T49.setTop (mkF m 113 #[.val (.long i0), .second, .val (.long i1), .second, .val (.long i2), .second, .val (.long i3), .second, .val (.long i4), .second, .val (.long i5), .second, .val (.long (i1 &&& (4611686018427387903 : Int64))), .second, .val (.long (i2 &&& (4611686018427387903 : Int64))), .second, .val (.ref b1), .val (.int z43), .val (.long z46), .second, .val (.int (1 : Int32)), .unset, .unset, .unset, .unset, .unset] [(.long ((i1 &&& (4611686018427387903 : Int64)) + (i2 &&& (4611686018427387903 : Int64))))]))
        exact J113_62 ((i1 &&& (4611686018427387903 : Int64)) + (i2 &&& (4611686018427387903 : Int64))) ((if_neg hc100_61).symm)
    by_cases hc58_44 : ¬ ((i1 &&& (4611686018427387903 : Int64)) < i0)
    · refine own_st (fun _ k => XS.ifNo X29.here hx rfl (hb hby at_58) rfl ((if0 _ _).trans (feq (own_b1 hz43 hc58_44)).1) k) ?_
      show own_G p.tables e below _ (T29.setTop (mkF m 61 #[.val (.long i0), .second, .val (.long i1), .second, .val (.long i2), .second, .val (.long i3), .second, .val (.long i4), .second, .val (.long i5), .second, .val (.long (i1 &&& (4611686018427387903 : Int64))), .second, .val (.long (i2 &&& (4611686018427387903 : Int64))), .second, .val (.ref b1), .val (.int z43), .unset, .unset, .unset, .unset, .unset, .unset, .unset, .unset] []))
      refine own_st (fun _ k => XS.lload X29.here hx rfl (hb hby at_61) rfl k) ?_
      show own_G p.tables e below _ (T29.setTop (mkF m 63 #[.val (.long i0), .second, .val (.long i1), .second, .val (.long i2), .second, .val (.long i3), .second, .val (.long i4), .second, .val (.long i5), .second, .val (.long (i1 &&& (4611686018427387903 : Int64))), .second, .val (.long (i2 &&& (4611686018427387903 : Int64))), .second, .val (.ref b1), .val (.int z43), .unset, .unset, .unset, .unset, .unset, .unset, .unset, .unset] [(.long i4)]))
      refine own_st (fun _ k => XS.goto X29.here hx rfl (pc0 := 63) (pc' := 68) rfl (hb hby at_63) (by decide) (by decide) k) ?_
      show own_G p.tables e below _ (T29.setTop (mkF m 68 #[.val (.long i0), .second, .val (.long i1), .second, .val (.long i2), .second, .val (.long i3), .second, .val (.long i4), .second, .val (.long i5), .second, .val (.long (i1 &&& (4611686018427387903 : Int64))), .second, .val (.long (i2 &&& (4611686018427387903 : Int64))), .second, .val (.ref b1), .val (.int z43), .unset, .unset, .unset, .unset, .unset, .unset, .unset, .unset] [(.long i4)]))
      exact J68_45 i4 ((if_pos hc58_44).symm)
    · refine own_st (fun _ k => XS.ifYes X29.here hx rfl (pc0 := 58) (pc' := 66) rfl (hb hby at_58) rfl ((if0 _ _).trans (teq (own_b0 hz43 hc58_44)).1) (by decide) (by decide) k) ?_
      show own_G p.tables e below _ (T29.setTop (mkF m 66 #[.val (.long i0), .second, .val (.long i1), .second, .val (.long i2), .second, .val (.long i3), .second, .val (.long i4), .second, .val (.long i5), .second, .val (.long (i1 &&& (4611686018427387903 : Int64))), .second, .val (.long (i2 &&& (4611686018427387903 : Int64))), .second, .val (.ref b1), .val (.int z43), .unset, .unset, .unset, .unset, .unset, .unset, .unset, .unset] []))
      refine own_st (fun _ k => XS.lload X29.here hx rfl (hb hby at_66) rfl k) ?_
      show own_G p.tables e below _ (T29.setTop (mkF m 68 #[.val (.long i0), .second, .val (.long i1), .second, .val (.long i2), .second, .val (.long i3), .second, .val (.long i4), .second, .val (.long i5), .second, .val (.long (i1 &&& (4611686018427387903 : Int64))), .second, .val (.long (i2 &&& (4611686018427387903 : Int64))), .second, .val (.ref b1), .val (.int z43), .unset, .unset, .unset, .unset, .unset, .unset, .unset, .unset] [(.long i3)]))
      exact J68_45 i3 ((if_neg hc58_44).symm)
  by_cases hc46_41 : (i1 &&& (4611686018427387903 : Int64)) < i0
  · refine own_st (fun _ k => XS.ifYes X29.here hx rfl (pc0 := 46) (pc' := 53) rfl (hb hby at_46) rfl ((if0 _ _).trans (tlt ((lw_lt (i1 &&& (4611686018427387903 : Int64)) i0).mpr hc46_41)).1) (by decide) (by decide) k) ?_
    show own_G p.tables e below _ (T29.setTop (mkF m 53 #[.val (.long i0), .second, .val (.long i1), .second, .val (.long i2), .second, .val (.long i3), .second, .val (.long i4), .second, .val (.long i5), .second, .val (.long (i1 &&& (4611686018427387903 : Int64))), .second, .val (.long (i2 &&& (4611686018427387903 : Int64))), .second, .val (.ref b1), .unset, .unset, .unset, .unset, .unset, .unset, .unset, .unset, .unset] []))
    refine own_st (fun _ k => XS.iconst X29.here hx rfl (hb hby at_53) k) ?_
    show own_G p.tables e below _ (T29.setTop (mkF m 54 #[.val (.long i0), .second, .val (.long i1), .second, .val (.long i2), .second, .val (.long i3), .second, .val (.long i4), .second, .val (.long i5), .second, .val (.long (i1 &&& (4611686018427387903 : Int64))), .second, .val (.long (i2 &&& (4611686018427387903 : Int64))), .second, .val (.ref b1), .unset, .unset, .unset, .unset, .unset, .unset, .unset, .unset, .unset] [(.int (0 : Int32))]))
    exact J54_42 (0 : Int32) ((own_bf (fun q => q hc46_41)).symm)
  · refine own_st (fun _ k => XS.ifNo X29.here hx rfl (hb hby at_46) rfl ((if0 _ _).trans (flt (fun q => hc46_41 ((lw_lt (i1 &&& (4611686018427387903 : Int64)) i0).mp q))).1) k) ?_
    show own_G p.tables e below _ (T29.setTop (mkF m 49 #[.val (.long i0), .second, .val (.long i1), .second, .val (.long i2), .second, .val (.long i3), .second, .val (.long i4), .second, .val (.long i5), .second, .val (.long (i1 &&& (4611686018427387903 : Int64))), .second, .val (.long (i2 &&& (4611686018427387903 : Int64))), .second, .val (.ref b1), .unset, .unset, .unset, .unset, .unset, .unset, .unset, .unset, .unset] []))
    refine own_st (fun _ k => XS.iconst X29.here hx rfl (hb hby at_49) k) ?_
    show own_G p.tables e below _ (T29.setTop (mkF m 50 #[.val (.long i0), .second, .val (.long i1), .second, .val (.long i2), .second, .val (.long i3), .second, .val (.long i4), .second, .val (.long i5), .second, .val (.long (i1 &&& (4611686018427387903 : Int64))), .second, .val (.long (i2 &&& (4611686018427387903 : Int64))), .second, .val (.ref b1), .unset, .unset, .unset, .unset, .unset, .unset, .unset, .unset, .unset] [(.int (1 : Int32))]))
    refine own_st (fun _ k => XS.goto X29.here hx rfl (pc0 := 50) (pc' := 54) rfl (hb hby at_50) (by decide) (by decide) k) ?_
    show own_G p.tables e below _ (T29.setTop (mkF m 54 #[.val (.long i0), .second, .val (.long i1), .second, .val (.long i2), .second, .val (.long i3), .second, .val (.long i4), .second, .val (.long i5), .second, .val (.long (i1 &&& (4611686018427387903 : Int64))), .second, .val (.long (i2 &&& (4611686018427387903 : Int64))), .second, .val (.ref b1), .unset, .unset, .unset, .unset, .unset, .unset, .unset, .unset, .unset] [(.int (1 : Int32))]))
    exact J54_42 (1 : Int32) ((own_bt hc46_41).symm)
set_option maxRecDepth 65536 in
set_option maxHeartbeats 40000000 in
theorem comes_1 {Post : Tables → Env → Array Value → State → Outcome → State → Prop} (hpost : ∀ tb e args s v u, (limb_1_1.after args s (.returned v) u = true ∧ limb_1_2.after args s (.returned v) u = true ∧ True) → FrameEnd s (.returned v) u (Jvm.fieldLocs frame_1_writes args s ++ Jvm.arrayLocs frame_1_arrays args s ++ Jvm.staticLocs frame_1_statics s) 16 128 → Post tb e args s (.returned v) u) :
    ArmFor flags0 classFile x code maxLocals ret World_1 tables_1 room_1 Calls_1 rest_1 Pre_1 Post := by
  intro l hfl _ _ p e ha hc hk s m args below hf hA hF happ hP
  obtain ⟨hcalls, hrest, hpre⟩ := hP
  obtain ⟨-, -, -, hnamed, -, -, -, hat⟩ := (Spec.applies_iff hf).mp happ
  obtain ⟨hg, hn⟩ := and_e (Cond.before_iff.mp (show (Jvm.Cond.and given_1 narrow_1).before args s = true from hpre))
  obtain ⟨gc, g0⟩ := and_e hg
  obtain ⟨ga0, g1⟩ := and_e g0
  obtain ⟨ga1, g2⟩ := and_e g1
  obtain ⟨ga2, g3⟩ := and_e g2
  obtain ⟨ga3, g4⟩ := and_e g3
  obtain ⟨ga4, g5⟩ := and_e g4
  obtain ⟨w0, w1, w2, w3, w4, w5, rfl⟩ : ∃ w0 w1 w2 w3 w4 w5 : Value, args = #[w0, w1, w2, w3, w4, w5] := by
    have hs : args.size = 6 := by simpa [Cond.value, given_1] using gc
    obtain ⟨L⟩ := args
    match L, hs with
    | [w0, w1, w2, w3, w4, w5], _ => exact ⟨w0, w1, w2, w3, w4, w5, rfl⟩
  have hw := fun d (hd : d ∈ tables_1) => atoms_spec (ws := Jvm.Cond.code x code maxLocals ret :: tables_1) hat d (List.mem_cons_of_mem _ hd)
  have hfit : Fit s := fun {y c} hc i hi => by
    obtain ⟨ha, rfl⟩ := Array.getElem?_eq_some_iff.mp hc
    have q := List.all_eq_true.mp ((Array.all_eq_true_iff_forall_mem.mp hF) _ (Array.getElem_mem ha)) i (List.mem_range.mpr hi)
    simpa [Array.getElem?_eq_getElem hi] using q
  obtain ⟨i0, ei0⟩ := isL_v ga0
  obtain rfl : w0 = (.long i0) := Option.some.inj ei0
  obtain ⟨i1, ei1⟩ := isL_v ga1
  obtain rfl : w1 = (.long i1) := Option.some.inj ei1
  obtain ⟨i2, ei2⟩ := isL_v ga2
  obtain rfl : w2 = (.long i2) := Option.some.inj ei2
  obtain ⟨i3, ei3⟩ := isL_v ga3
  obtain rfl : w3 = (.long i3) := Option.some.inj ei3
  obtain ⟨i4, ei4⟩ := isL_v ga4
  obtain rfl : w4 = (.long i4) := Option.some.inj ei4
  obtain ⟨i5, ei5⟩ := isL_v g5
  obtain rfl : w5 = (.long i5) := Option.some.inj ei5
  obtain ⟨n, o, h1, h2, h3, _, L, rfl, ⟨rfl, N⟩, hq⟩ := rm0 l s _ hw tables_1 i0 i1 i2 i3 i4 i5  s.heap s.heap.size (Nat.le_refl _)   p e ha hc hk s m _ below hf ((Spec.applies_iff_loose hf).mp happ).1 ⟨rfl, State.Warmed39.refl s, rfl⟩ trivial
  refine ⟨n, _, h1, h2, h3, hpost _ _ _ _ _ _ ⟨Cond.after_iff.mpr rfl, Cond.after_iff.mpr (eq_i res_at (Term.int_eval (1)) rfl), trivial⟩ ⟨hq.1, hq.2.1, (hq.2.2.sift fun y hy => Or.inr (N y hy)).mono (by decide) (by decide)⟩⟩
theorem main_1_1 : Claimed_1_1 := comes_1 fun _ _ _ _ _ _ h hF => ⟨h.1, hF⟩
theorem main_1_2 : Claimed_1_2 := comes_1 fun _ _ _ _ _ _ h hF => ⟨h.2.1, hF⟩
end Jvm.Pilot.@@N@@
namespace Jvm.Pilot.@@N@@
open Jvm Jvm.ClassFile Sem Op Lib Jvm.Free Jvm.Stand Jvm.Pilot.@@N@@.Jvm.D
/-! MADE BY PROGRAM (witnessworld.py) out of the Statement's table words and the real class files: 9 classes; the members and pool entries that the words name. The judged class is class 1, her method 1. -/
namespace start1
open Jvm.ClassFile
def u (s : String) : CpInfo := .utf8 (stringToUtf16 s)
/-- a pool by its gaps: so many unusable entries, then the entry; so many at the end -/
def gap : Nat → List CpInfo → List CpInfo
  | 0, r => r
  | n + 1, r => .unusable :: gap n r
def poolList (es : List (Nat × CpInfo)) (last : Nat) : List CpInfo := es.foldr (fun e r => gap e.1 (e.2 :: r)) (gap last [])
def pool (es : List (Nat × CpInfo)) (last : Nat) : Array CpInfo := ⟨poolList es last⟩
def fileOf (pool : Array CpInfo) (this : Nat) (attrs : Array Attribute := #[]) (ms : Array MethodInfo := #[]) (fl : Nat := 33) (sup : Nat := 0) (ifs : Array Nat := #[]) (fds : Array FieldInfo := #[]) : ClassFile where
  minorVersion := 0
  majorVersion := 65
  constantPool := pool
  accessFlags := fl
  thisClass := this
  superClass := sup
  interfaces := ifs
  fields := fds
  methods := ms
  attributes := attrs
def plain (name : String) (sup : Option ClassId) : Class where
  name := name
  kind := .ordinary
  loader := none
  accessFlags := 33
  super := sup
  interfaces := #[]
  cf := none
  fields := #[]
  methods := #[]
  instanceTypes := #[]
  staticTypes := #[]
  resolved := #[]
  callSites := []
  init := .initialized
  statics := none
  mirror := none

def pool0 : Array CpInfo := pool [(5, u "<init>"), (0, u "()V"), (1, .class_ 10), (1, u "java/lang/Object")] 113

def k0c0 : Code := { maxStack := 0, maxLocals := 1, code := object_method_1_code, exceptionTable := #[], attributes := #[] }
def k0m0 : Method := { name := "<init>", desc := "()V", sig := { parameters := [], returnType := none }, accessFlags := 1, code := some k0c0 }
/-- java/lang/Object -/
def k0 : Class := { plain "java/lang/Object" none with
  accessFlags := 33
  interfaces := #[]
  cf := some (fileOf pool0 8 #[] #[{ accessFlags := 1, nameIndex := 5, descriptorIndex := 6, attributes := #[] }] 33 0 #[] #[])
  fields := #[]
  methods := #[k0m0]
  instanceTypes := #[]
  staticTypes := #[]
  resolved := Array.replicate 124 none
  statics := none }

def pool1 : Array CpInfo := pool [(2, .class_ 4), (1, u "java/lang/Object"), (0, u "<init>"), (0, u "()V"), (0, .long 4611686018427387903), (1, .class_ 10), (0, u "com/example/funnel/funnel/relay/Progress"), (0, .methodref 9 12), (0, .nameAndType 5 13), (0, u "(J)V"), (0, .methodref 9 15), (0, .nameAndType 16 17), (0, u "waiting"), (0, u "(ZJ)V"), (0, .methodref 9 19), (0, .nameAndType 20 21), (0, u "moved"), (0, u "(JJ)V"), (0, .methodref 9 23), (0, .nameAndType 24 25), (0, u "due"), (0, u "(J)J"), (0, .class_ 27), (0, u "com/example/funnel/funnel/relay/ProgressMovedPinLaw"), (2, u "law"), (0, u "(JJJJJJ)Z")] 3

def k1m0 : Method := { name := "<init>", desc := "()V", sig := { parameters := [], returnType := none }, accessFlags := 1, code := none }
def k1c1 : Code := { maxStack := 5, maxLocals := 26, code := code, exceptionTable := #[], attributes := #[] }
def k1m1 : Method := { name := "law", desc := "(JJJJJJ)Z", sig := { parameters := [.long, .long, .long, .long, .long, .long], returnType := some .boolean }, accessFlags := 9, code := some k1c1 }
/-- com/example/funnel/funnel/relay/ProgressMovedPinLaw -/
def k1 : Class := { plain "com/example/funnel/funnel/relay/ProgressMovedPinLaw" (some 0) with
  accessFlags := 49
  interfaces := #[]
  cf := some (fileOf pool1 26 #[] #[{ accessFlags := 1, nameIndex := 5, descriptorIndex := 6, attributes := #[] }, { accessFlags := 9, nameIndex := 30, descriptorIndex := 31, attributes := #[] }] 49 2 #[] #[])
  fields := #[]
  methods := #[k1m0, k1m1]
  instanceTypes := #[]
  staticTypes := #[]
  resolved := Array.replicate 35 none
  statics := none }

def pool2 : Array CpInfo := pool [(1, .methodref 2 3), (0, .class_ 4), (0, .nameAndType 5 6), (0, u "java/lang/Object"), (0, u "<init>"), (0, u "()V"), (0, .fieldref 8 9), (0, .class_ 10), (0, .nameAndType 11 12), (0, u "com/example/funnel/funnel/relay/Progress"), (0, u "leastBytes"), (0, u "J"), (0, .fieldref 8 14), (0, .nameAndType 15 16), (0, u "waiting"), (0, u "Z"), (0, .fieldref 8 18), (0, .nameAndType 19 12), (0, u "since"), (0, .fieldref 8 21), (0, .nameAndType 22 12), (0, u "bytes"), (2, .long 9223372036854775807), (1, u "(J)V"), (2, u "(ZJ)V"), (1, u "moved"), (0, u "(JJ)V"), (0, u "due"), (0, u "(J)J")] 2

def k2c0 : Code := { maxStack := 3, maxLocals := 3, code := prog_48_method_1_code, exceptionTable := #[], attributes := #[] }
def k2m0 : Method := { name := "<init>", desc := "(J)V", sig := { parameters := [.long], returnType := none }, accessFlags := 0, code := some k2c0 }
def k2c1 : Code := { maxStack := 3, maxLocals := 4, code := prog_48_method_2_code, exceptionTable := #[], attributes := #[] }
def k2m1 : Method := { name := "waiting", desc := "(ZJ)V", sig := { parameters := [.boolean, .long], returnType := none }, accessFlags := 0, code := some k2c1 }
def k2c2 : Code := { maxStack := 5, maxLocals := 5, code := prog_48_method_3_code, exceptionTable := #[], attributes := #[] }
def k2m2 : Method := { name := "moved", desc := "(JJ)V", sig := { parameters := [.long, .long], returnType := none }, accessFlags := 0, code := some k2c2 }
def k2c3 : Code := { maxStack := 4, maxLocals := 3, code := prog_48_method_4_code, exceptionTable := #[], attributes := #[] }
def k2m3 : Method := { name := "due", desc := "(J)J", sig := { parameters := [.long], returnType := some .long }, accessFlags := 0, code := some k2c3 }
/-- com/example/funnel/funnel/relay/Progress -/
def k2 : Class := { plain "com/example/funnel/funnel/relay/Progress" (some 0) with
  accessFlags := 48
  interfaces := #[]
  cf := some (fileOf pool2 8 #[] #[{ accessFlags := 0, nameIndex := 5, descriptorIndex := 27, attributes := #[] }, { accessFlags := 0, nameIndex := 15, descriptorIndex := 30, attributes := #[] }, { accessFlags := 0, nameIndex := 32, descriptorIndex := 33, attributes := #[] }, { accessFlags := 0, nameIndex := 34, descriptorIndex := 35, attributes := #[] }] 48 2 #[] #[{ accessFlags := 18, nameIndex := 11, descriptorIndex := 12, attributes := #[] }, { accessFlags := 2, nameIndex := 15, descriptorIndex := 16, attributes := #[] }, { accessFlags := 2, nameIndex := 19, descriptorIndex := 12, attributes := #[] }, { accessFlags := 2, nameIndex := 22, descriptorIndex := 12, attributes := #[] }])
  fields := #[{ name := "leastBytes", type := .long, accessFlags := 18, slot := 0, constantValue := 0 }, { name := "waiting", type := .boolean, accessFlags := 2, slot := 1, constantValue := 0 }, { name := "since", type := .long, accessFlags := 2, slot := 2, constantValue := 0 }, { name := "bytes", type := .long, accessFlags := 2, slot := 3, constantValue := 0 }]
  methods := #[k2m0, k2m1, k2m2, k2m3]
  instanceTypes := #[.long, .boolean, .long, .long]
  staticTypes := #[]
  resolved := Array.replicate 38 none
  statics := none }

def pool3 : Array CpInfo := pool [(1, u "java/lang/Cloneable"), (0, .class_ 1), (0, u "java/lang/Object"), (0, .class_ 3)] 3

/-- java/lang/Cloneable -/
def k3 : Class := { plain "java/lang/Cloneable" (some 0) with
  accessFlags := 1537
  interfaces := #[]
  cf := some (fileOf pool3 2 #[] #[] 1537 4 #[] #[])
  fields := #[]
  methods := #[]
  instanceTypes := #[]
  staticTypes := #[]
  resolved := Array.replicate 8 none
  statics := none }

def pool4 : Array CpInfo := pool [(1, u "java/io/Serializable"), (0, .class_ 1), (0, u "java/lang/Object"), (0, .class_ 3)] 3

/-- java/io/Serializable -/
def k4 : Class := { plain "java/io/Serializable" (some 0) with
  accessFlags := 1537
  interfaces := #[]
  cf := some (fileOf pool4 2 #[] #[] 1537 4 #[] #[])
  fields := #[]
  methods := #[]
  instanceTypes := #[]
  staticTypes := #[]
  resolved := Array.replicate 8 none
  statics := none }

/-- the primitive byte -/
def k5 : Class := { plain "byte" none with kind := .primitive 'B', accessFlags := 0x411 }
/-- [B -/
def k6 : Class := { plain "[B" (some 0) with kind := .array 5 .byte, interfaces := #[3, 4], accessFlags := 1041 }

/-- the primitive int -/
def k7 : Class := { plain "int" none with kind := .primitive 'I', accessFlags := 0x411 }
/-- [I -/
def k8 : Class := { plain "[I" (some 0) with kind := .array 7 .int, interfaces := #[3, 4], accessFlags := 1041 }

def heap : Heap := #[]
def classes : Array Class := #[k0, k1, k2, k3, k4, k5, k6, k7, k8]
def interned : List (Array UInt16 × Addr) := []
def slotsUsed : Nat := 0
def theMethod : MethodId := ⟨1, 1⟩
def args0 : Array Value := #[.long 5, .long 5, .long 5, .long 5, .long 5, .long 5]
def aboutOver (below : List Frame) : State where
  vm := { classes := classes, interned := interned.toArray }
  heap := heap
  slotsUsed := slotsUsed
  threads := #[{ frames := .invoking theMethod args0 :: below }]
def below0 : List Frame := [.native { method := ⟨0, 0⟩, args := #[] }]
def about1 : State := aboutOver below0
def p0 : Program := .bare "" "" ""
def e0 : Env := launch0.env 0 0 0
theorem w_frames : about1.frames = Frame.invoking theMethod args0 :: below0 := rfl
set_option maxRecDepth 65536 in
theorem w_args : argsFit about1.vm theMethod args0 = true := by decide +kernel
set_option maxRecDepth 65536 in
theorem w_heap : heapFits about1 = true := by decide +kernel
set_option maxRecDepth 65536 in
theorem w_runnable : about1.curStatus? = some .runnable := by decide +kernel
set_option maxRecDepth 65536 in
theorem w_alone : about1.alone = true := by decide +kernel
set_option maxRecDepth 65536 in
theorem w_named : about1.methodNamed? x = some theMethod := by decide +kernel
set_option maxRecDepth 65536 in
theorem w_hears : about1.hears theMethod below0 = true := by decide +kernel
set_option maxRecDepth 65536 in
theorem w_ripe : about1.ripe theMethod args0 below0 = true := by decide +kernel
theorem w_running : about1.status = .running := rfl
set_option maxRecDepth 65536 in
theorem w_room : about1.hasRoom e0.platform room_1 = true :=
  launch0.hasRoom_least _ room_1 (by decide +kernel) (by decide +kernel) (by decide +kernel) (by decide +kernel) (by decide +kernel) (by decide +kernel)
theorem allAtoms_all (ts : List Jvm.Cond) (a : Array Jvm.Value) (st : Jvm.State) : (allAtoms ts).before a st = ts.all (fun c => c.before a st) := by
  induction ts with
  | nil => rfl
  | cons c t ih =>
    show (Jvm.Cond.and c (allAtoms t)).before a st = _
    rw [Jvm.Cond.before_and, ih, List.all_cons]
def words1 : List Jvm.Cond := Jvm.Cond.code x code maxLocals ret :: tables_1
/-- a 'code' word, met by the world's own term for the bytes: nothing is compared byte by byte -/
theorem code_word {y : MethodName} {bytes : ByteArray} {mx : Nat} {rt : Option FieldType} {a : Array Value} {s : State} {m : MethodId} {meth : Method} {c : Code} (h1 : s.methodNamed? y = some m) (h2 : s.vm.method? m = some meth) (h3 : meth.code = some c) (h4 : c.code = bytes)
    (h5 : (c.maxLocals == mx && c.exceptionTable.isEmpty && decide (c.maxStack ≤ mostOperands) && decide (meth.sig.returnType = rt) && !meth.locks && decide (parseMethodDescriptor y.desc = some meth.sig)) = true) : (Jvm.Cond.code y bytes mx rt).before a s = true := by
  simp only [Bool.and_eq_true, beq_iff_eq, Bool.not_eq_true', decide_eq_true_eq] at h5
  obtain ⟨⟨⟨⟨⟨g1, g2⟩, g3⟩, g4⟩, g5⟩, g6⟩ := h5
  simp [Cond.before, Cond.holds, Cond.value, h1, h2, h3, h4, g1, g2, g3, g4, g5, g6]
def isCode : Jvm.Cond → Bool
  | .code _ _ _ _ => true
  | _ => false
theorem all_split {L : List Jvm.Cond} {P : Jvm.Cond → Bool} (h1 : L.all (fun c => isCode c || P c) = true) (h2 : ∀ c ∈ L.filter isCode, P c = true) : L.all P = true := by
  refine List.all_eq_true.mpr fun c hc => ?_
  have h := List.all_eq_true.mp h1 c hc
  rcases Bool.eq_false_or_eq_true (isCode c) with hi | hi
  · exact h2 c (List.mem_filter.mpr ⟨hc, hi⟩)
  · simpa [hi] using h
set_option maxRecDepth 65536 in
theorem w_c0 : (Jvm.Cond.code x code maxLocals ret).before args0 about1 = true := code_word (m := ⟨1, 1⟩) (meth := k1m1) (c := k1c1) (by decide +kernel) rfl rfl rfl (by decide +kernel)
set_option maxRecDepth 65536 in
theorem w_c1 : (Jvm.Cond.code ({ cls := "com/example/funnel/funnel/relay/Progress", name := "<init>", desc := "(J)V" } : Jvm.MethodName) prog_48_method_1_code (3 : Nat) (Option.none : Option Jvm.ClassFile.FieldType)).before args0 about1 = true := code_word (m := ⟨2, 0⟩) (meth := k2m0) (c := k2c0) (by decide +kernel) rfl rfl rfl (by decide +kernel)
set_option maxRecDepth 65536 in
theorem w_c2 : (Jvm.Cond.code ({ cls := "java/lang/Object", name := "<init>", desc := "()V" } : Jvm.MethodName) object_method_1_code (1 : Nat) (Option.none : Option Jvm.ClassFile.FieldType)).before args0 about1 = true := code_word (m := ⟨0, 0⟩) (meth := k0m0) (c := k0c0) (by decide +kernel) rfl rfl rfl (by decide +kernel)
set_option maxRecDepth 65536 in
theorem w_c3 : (Jvm.Cond.code ({ cls := "com/example/funnel/funnel/relay/Progress", name := "waiting", desc := "(ZJ)V" } : Jvm.MethodName) prog_48_method_2_code (4 : Nat) (Option.none : Option Jvm.ClassFile.FieldType)).before args0 about1 = true := code_word (m := ⟨2, 1⟩) (meth := k2m1) (c := k2c1) (by decide +kernel) rfl rfl rfl (by decide +kernel)
set_option maxRecDepth 65536 in
theorem w_c4 : (Jvm.Cond.code ({ cls := "com/example/funnel/funnel/relay/Progress", name := "moved", desc := "(JJ)V" } : Jvm.MethodName) prog_48_method_3_code (5 : Nat) (Option.none : Option Jvm.ClassFile.FieldType)).before args0 about1 = true := code_word (m := ⟨2, 2⟩) (meth := k2m2) (c := k2c2) (by decide +kernel) rfl rfl rfl (by decide +kernel)
set_option maxRecDepth 65536 in
theorem w_c5 : (Jvm.Cond.code ({ cls := "com/example/funnel/funnel/relay/Progress", name := "due", desc := "(J)J" } : Jvm.MethodName) prog_48_method_4_code (3 : Nat) (Option.some Jvm.ClassFile.FieldType.long)).before args0 about1 = true := code_word (m := ⟨2, 3⟩) (meth := k2m3) (c := k2c3) (by decide +kernel) rfl rfl rfl (by decide +kernel)
def codes1 : List Jvm.Cond := [Jvm.Cond.code x code maxLocals ret, Jvm.Cond.code ({ cls := "com/example/funnel/funnel/relay/Progress", name := "<init>", desc := "(J)V" } : Jvm.MethodName) prog_48_method_1_code (3 : Nat) (Option.none : Option Jvm.ClassFile.FieldType), Jvm.Cond.code ({ cls := "java/lang/Object", name := "<init>", desc := "()V" } : Jvm.MethodName) object_method_1_code (1 : Nat) (Option.none : Option Jvm.ClassFile.FieldType), Jvm.Cond.code ({ cls := "com/example/funnel/funnel/relay/Progress", name := "waiting", desc := "(ZJ)V" } : Jvm.MethodName) prog_48_method_2_code (4 : Nat) (Option.none : Option Jvm.ClassFile.FieldType), Jvm.Cond.code ({ cls := "com/example/funnel/funnel/relay/Progress", name := "moved", desc := "(JJ)V" } : Jvm.MethodName) prog_48_method_3_code (5 : Nat) (Option.none : Option Jvm.ClassFile.FieldType), Jvm.Cond.code ({ cls := "com/example/funnel/funnel/relay/Progress", name := "due", desc := "(J)J" } : Jvm.MethodName) prog_48_method_4_code (3 : Nat) (Option.some Jvm.ClassFile.FieldType.long)]
set_option maxRecDepth 65536 in
theorem codes_eq : words1.filter isCode = codes1 := rfl
theorem w_codes : ∀ c ∈ words1.filter isCode, c.before args0 about1 = true := by
  rw [codes_eq]
  intro c hc
  simp only [codes1, List.mem_cons, List.not_mem_nil, or_false] at hc
  rcases hc with rfl | rfl | rfl | rfl | rfl | rfl
  · exact w_c0
  · exact w_c1
  · exact w_c2
  · exact w_c3
  · exact w_c4
  · exact w_c5
set_option maxRecDepth 65536 in
theorem w_t1 : (words1.take 24).all (fun c => isCode c || c.before args0 about1) = true := by decide +kernel
set_option maxRecDepth 65536 in
theorem w_t2 : (words1.drop 24).all (fun c => isCode c || c.before args0 about1) = true := by decide +kernel
theorem w_tables : (allAtoms (Jvm.Cond.code x code maxLocals ret :: tables_1)).before args0 about1 = true := by
  rw [allAtoms_all]
  show words1.all (fun c => c.before args0 about1) = true
  refine all_split ?_ w_codes
  rw [← List.take_append_drop 24 words1, List.all_append, w_t1, w_t2]
  rfl
set_option maxRecDepth 65536 in
theorem w_case : (Jvm.Cond.and given_1 narrow_1).before args0 about1 = true := by decide +kernel
theorem w_applies : (headSpec (Jvm.Cond.code x code maxLocals ret :: tables_1) room_1).applies x e0.platform about1 = true :=
  (Spec.applies_iff w_frames).mpr ⟨w_running, w_runnable, w_alone, w_named, w_hears, w_ripe, w_room, w_tables⟩
theorem atStart : AtStart classFile x code maxLocals ret World_1 tables_1 room_1 Calls_1 rest_1 Pre_1 launch0 p0 e0 about1 theMethod args0 below0 :=
  ⟨lists_1, trivial, launch0.admits_env _ _ _, launch0.least_env, fairChoices_fair.cas, fairChoices_fair.clock, w_frames, w_args, w_heap, w_applies, trivial, trivial, w_case⟩
end start1
theorem witness_1 : WitnessClaimed_1 := ⟨start1.p0, start1.e0, start1.about1, start1.theMethod, start1.args0, start1.below0, start1.atStart⟩
end Jvm.Pilot.@@N@@
