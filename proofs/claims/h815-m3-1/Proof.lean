import JvmDerived
import JvmDerived.Pilot.@@N@@Statement
import JvmDerived.Pilot.@@N@@Code
set_option linter.unusedVariables false
set_option linter.unusedSimpArgs false
namespace Jvm.RoadKit
open Sem ClassFile Op Lib Jvm.Stand Jvm.Free Jvm.LawKit
section Own
variable {p : Program} {l : Launch} {e : Env} {R : Room} {s : State} {m : MethodId} {args : Array Value} {below : List Frame} {meth : Method} {c : Code} {T : State} {locs : List Loc} {cells slots : Nat}
theorem retI (X : Stand p l e R s m args below meth c T locs cells slots) (hx : p.tables.exec = Jvm.exec) {pc : Nat} {Ls : Array Slot} {z : Int32} {rest : List Value} (hret : meth.sig.returnType = some .int) (hd : decode c.code pc = .ok (.ireturn, 1)) {fs : List Frame}
    (hl : ∀ (f : JFrame) (acts : List Action), f.method = m → f.locked = none → f.entered = [] → (doReturn e (T.setTop f) acts (some (.int z))).1 = T.setFrames fs) : Steps p.tables e below (T.setTop (mkF m pc Ls (.int z :: rest))) (T.setFrames fs) := by
  have hm' : T.vm.method? m = some meth := X.method'
  have hn : narrow .int (.int z) = .int z := rfl
  show Steps p.tables e below (T.setTop { method := m, pc := pc, locals := Ls, stack := _ :: rest, locked := none }) _
  jvm_step X.here [X.here.top, hx, hd, hm', hret, hn]
  first | (intro acts; rw [hl _ acts rfl rfl rfl]) | rw [hl _ _ rfl rfl rfl]
  exact Steps.refl _
/-- the run from st comes to an end of which P holds -/
def own_G (tb : Tables) (e : Env) (below : List Frame) (P : Outcome → State → Prop) (st : State) : Prop :=
  ∃ s₂ o, Steps tb e below st s₂ ∧ s₂.status = .running ∧ Ended s₂ below o ∧ P o s₂
theorem own_st {tb : Tables} {P : Outcome → State → Prop} {st st' : State} (h : ∀ t, Steps tb e below st' t → Steps tb e below st t) (k : own_G tb e below P st') : own_G tb e below P st := by
  obtain ⟨s2, o, h1, h2⟩ := k
  exact ⟨s2, o, h _ h1, h2⟩
def own_P (s : State) (Q : Option Value → Heap → List Loc → Prop) (k n : Nat) (o : Outcome) (U' : State) : Prop :=
  ∃ v L, o = .returned v ∧ Q v U'.heap L ∧ FrameEnd s o U' L k n
theorem own_end {Q : Option Value → Heap → List Loc → Prop} {k n : Nat} {st : State} {v : Option Value} (X : Stand p l e R s m args below meth c T locs cells slots) (hlk : meth.locks = false) (hv : meth.sig.returnType = none → v = none)
    (hst : ∀ fs, (∀ (f : JFrame) (acts : List Action), f.method = m → f.locked = none → f.entered = [] → (doReturn e (T.setTop f) acts v).1 = T.setFrames fs) → Steps p.tables e below st (T.setFrames fs))
    (hQ : Q v T.heap locs) (hk : cells ≤ k) (hn : slots ≤ n) : own_G p.tables e below (own_P s Q k n) st := by
  obtain ⟨fs, hr, hrun, hended, hW, hsame⟩ := X.leave hv hlk
  exact ⟨_, _, hst fs hr, hrun, hended, _, _, rfl, hQ, ⟨_, rfl⟩, hW, hsame.mono hk hn⟩
theorem own_retZ {Q : Option Value → Heap → List Loc → Prop} {k n : Nat} (X : Stand p l e R s m args below meth c T locs cells slots) (hx : p.tables.exec = Jvm.exec) (hlk : meth.locks = false) (hret : meth.sig.returnType = some .boolean) {pc : Nat} {Ls : Array Slot} {z : Int32} {rest : List Value}
    (hd : decode c.code pc = .ok (.ireturn, 1)) (hz : nar .boolean z = z) (hQ : Q (some (.int z)) T.heap locs) (hk : cells ≤ k) (hn : slots ≤ n) : own_G p.tables e below (own_P s Q k n) (T.setTop (mkF m pc Ls (.int z :: rest))) :=
  own_end X hlk (fun h => by rw [hret] at h; cases h) (fun fs hr => retN X hx (t := .boolean) hret (by simp) hd (by rw [hz]; exact hr)) hQ hk hn
theorem own_retI {Q : Option Value → Heap → List Loc → Prop} {k n : Nat} (X : Stand p l e R s m args below meth c T locs cells slots) (hx : p.tables.exec = Jvm.exec) (hlk : meth.locks = false) (hret : meth.sig.returnType = some .int) {pc : Nat} {Ls : Array Slot} {z : Int32} {rest : List Value}
    (hd : decode c.code pc = .ok (.ireturn, 1)) (hQ : Q (some (.int z)) T.heap locs) (hk : cells ≤ k) (hn : slots ≤ n) : own_G p.tables e below (own_P s Q k n) (T.setTop (mkF m pc Ls (.int z :: rest))) :=
  own_end X hlk (fun h => by rw [hret] at h; cases h) (fun fs hr => retI X hx hret hd hr) hQ hk hn
theorem own_retJ {Q : Option Value → Heap → List Loc → Prop} {k n : Nat} (X : Stand p l e R s m args below meth c T locs cells slots) (hx : p.tables.exec = Jvm.exec) (hlk : meth.locks = false) (hret : meth.sig.returnType = some .long) {pc : Nat} {Ls : Array Slot} {z : Int64} {rest : List Value}
    (hd : decode c.code pc = .ok (.lreturn, 1)) (hQ : Q (some (.long z)) T.heap locs) (hk : cells ≤ k) (hn : slots ≤ n) : own_G p.tables e below (own_P s Q k n) (T.setTop (mkF m pc Ls (.long z :: rest))) :=
  own_end X hlk (fun h => by rw [hret] at h; cases h) (fun fs hr => retOut X hx hret rfl (Or.inr (Or.inl ⟨rfl, rfl, _, rfl⟩)) hd hr) hQ hk hn
theorem own_retR {Q : Option Value → Heap → List Loc → Prop} {k n : Nat} {t : FieldType} (X : Stand p l e R s m args below meth c T locs cells slots) (hx : p.tables.exec = Jvm.exec) (hlk : meth.locks = false) (hret : meth.sig.returnType = some t) (ht : t.isReference = true) {pc : Nat} {Ls : Array Slot} {w : Value} {rest : List Value} (hw : w.isRef = true) (hnw : narrow t w = w)
    (hd : decode c.code pc = .ok (.areturn, 1)) (hQ : Q (some w) T.heap locs) (hk : cells ≤ k) (hn : slots ≤ n) : own_G p.tables e below (own_P s Q k n) (T.setTop (mkF m pc Ls (w :: rest))) :=
  own_end X hlk (fun h => by rw [hret] at h; cases h) (fun fs hr => retOut X hx hret hnw (Or.inr (Or.inr (Or.inr (Or.inr ⟨rfl, ht, hw⟩)))) hd hr) hQ hk hn
theorem own_retV {Q : Option Value → Heap → List Loc → Prop} {k n : Nat} (X : Stand p l e R s m args below meth c T locs cells slots) (hx : p.tables.exec = Jvm.exec) (hlk : meth.locks = false) (hret : meth.sig.returnType = none) {pc : Nat} {Ls : Array Slot}
    (hd : decode c.code pc = .ok (.return_, 1)) (hQ : Q none T.heap locs) (hk : cells ≤ k) (hn : slots ≤ n) : own_G p.tables e below (own_P s Q k n) (T.setTop (mkF m pc Ls [])) :=
  own_end X hlk (fun _ => rfl) (fun fs hr => X.returnOut hx hret hd hr) hQ hk hn
theorem own_mono {cells' slots' : Nat} (X : Stand p l e R s m args below meth c T locs cells slots) (h1 : cells ≤ cells') (h2 : slots ≤ slots') : Stand p l e R s m args below meth c T locs cells' slots' :=
  ⟨X.admits, X.cas, X.clock, X.frames, X.room, X.hears, X.method, X.code, X.here, X.tail, X.warmed, X.limits, X.bytes, X.same.mono h1 h2⟩
theorem own_fld {Z : State} {h : Heap} {a : Addr} {C n d : String} {v w : Value} (F : Fld Z h a C n d v) (q : v = w) : Fld Z h a C n d w := q ▸ F
end Own
/-- a boolean as the machine holds it -/
def own_b (P : Prop) [Decidable P] : Int32 := if P then 1 else 0
theorem own_bt {P : Prop} [Decidable P] (h : P) : own_b P = 1 := if_pos h
theorem own_bf {P : Prop} [Decidable P] (h : ¬ P) : own_b P = 0 := if_neg h
theorem own_b1 {P : Prop} [Decidable P] {z : Int32} (hz : z = own_b P) (h : P) : ¬ z = 0 := by rw [hz, own_bt h]; decide
theorem own_b0 {P : Prop} [Decidable P] {z : Int32} (hz : z = own_b P) (h : ¬ P) : z = 0 := by rw [hz, own_bf h]
theorem own_nar {P : Prop} [Decidable P] {z : Int32} (hz : z = own_b P) : nar .boolean z = z := by
  rw [hz]; by_cases h : P
  · rw [own_bt h]; decide
  · rw [own_bf h]; decide
theorem own_fitZ {P : Prop} [Decidable P] {z : Int32} (hz : z = own_b P) : fits .boolean (.int z) = true := by
  rw [hz]; by_cases h : P
  · rw [own_bt h]; decide
  · rw [own_bf h]; decide
theorem own_bc {P Q : Prop} [Decidable P] [Decidable Q] (h : P ↔ Q) : own_b P = own_b Q := by
  by_cases q : Q
  · rw [own_bt q, own_bt (h.mpr q)]
  · rw [own_bf q, own_bf (fun r => q (h.mp r))]
theorem own_bi {P Q : Prop} [Decidable P] [Decidable Q] (h : own_b P = own_b Q) : P ↔ Q := by
  by_cases p : P <;> by_cases q : Q <;> simp_all [own_b]
end Jvm.RoadKit
namespace Jvm.Pilot.@@N@@
open Jvm Jvm.ClassFile Sem Op Lib Jvm.Free Jvm.Stand Jvm.LawKit Jvm.RoadKit Bundle Jvm.Pilot.@@N@@.Jvm.D
theorem pn_0 : plainName "com/example/rendezvous/rendezvous/server/KindOfPinLaw" = true := by first | (simp [plainName, overriddenIn]; done) | decide +kernel
theorem d1_0 : decode prog_152_method_6_code 0 = .ok (.getstatic 46, 3) := by decide +kernel
theorem d1_3 : decode prog_152_method_6_code 3 = .ok (.astore_n 1, 1) := by decide +kernel
theorem d1_4 : decode prog_152_method_6_code 4 = .ok (.aload_n 1, 1) := by decide +kernel
theorem d1_5 : decode prog_152_method_6_code 5 = .ok (.arraylength, 1) := by decide +kernel
theorem d1_6 : decode prog_152_method_6_code 6 = .ok (.istore_n 2, 1) := by decide +kernel
theorem d1_7 : decode prog_152_method_6_code 7 = .ok (.iconst 0, 1) := by decide +kernel
theorem d1_8 : decode prog_152_method_6_code 8 = .ok (.istore_n 3, 1) := by decide +kernel
theorem d1_9 : decode prog_152_method_6_code 9 = .ok (.iload_n 3, 1) := by decide +kernel
theorem d1_10 : decode prog_152_method_6_code 10 = .ok (.iload_n 2, 1) := by decide +kernel
theorem d1_11 : decode prog_152_method_6_code 11 = .ok (.if_icmp .ge 26, 3) := by decide +kernel
theorem d1_14 : decode prog_152_method_6_code 14 = .ok (.aload_n 1, 1) := by decide +kernel
theorem d1_15 : decode prog_152_method_6_code 15 = .ok (.iload_n 3, 1) := by decide +kernel
theorem d1_16 : decode prog_152_method_6_code 16 = .ok (.aaload, 1) := by decide +kernel
theorem d1_17 : decode prog_152_method_6_code 17 = .ok (.astore 4, 2) := by decide +kernel
theorem d1_19 : decode prog_152_method_6_code 19 = .ok (.aload 4, 2) := by decide +kernel
theorem d1_21 : decode prog_152_method_6_code 21 = .ok (.getfield 38, 3) := by decide +kernel
theorem d1_24 : decode prog_152_method_6_code 24 = .ok (.iload_n 0, 1) := by decide +kernel
theorem d1_25 : decode prog_152_method_6_code 25 = .ok (.if_icmp .ne 6, 3) := by decide +kernel
theorem d1_28 : decode prog_152_method_6_code 28 = .ok (.aload 4, 2) := by decide +kernel
theorem d1_30 : decode prog_152_method_6_code 30 = .ok (.areturn, 1) := by decide +kernel
theorem d1_31 : decode prog_152_method_6_code 31 = .ok (.iinc 3 1, 3) := by decide +kernel
theorem d1_34 : decode prog_152_method_6_code 34 = .ok (.goto (-25), 3) := by decide +kernel
theorem d1_37 : decode prog_152_method_6_code 37 = .ok (.aconst_null, 1) := by decide +kernel
theorem d1_38 : decode prog_152_method_6_code 38 = .ok (.areturn, 1) := by decide +kernel
theorem pn_1 : plainName "com/example/rendezvous/rendezvous/server/PeerMessages$Kind" = true := by first | (simp [plainName, overriddenIn]; done) | decide +kernel
theorem d2_0 : decode method_3_code 0 = .ok (.iload_n 0, 1) := by decide +kernel
theorem d2_1 : decode method_3_code 1 = .ok (.bipush 64, 2) := by decide +kernel
theorem d2_3 : decode method_3_code 3 = .ok (.if_icmp .ne 7, 3) := by decide +kernel
theorem d2_6 : decode method_3_code 6 = .ok (.getstatic 18, 3) := by decide +kernel
theorem d2_9 : decode method_3_code 9 = .ok (.areturn, 1) := by decide +kernel
theorem d2_10 : decode method_3_code 10 = .ok (.iload_n 0, 1) := by decide +kernel
theorem d2_11 : decode method_3_code 11 = .ok (.bipush 65, 2) := by decide +kernel
theorem d2_13 : decode method_3_code 13 = .ok (.if_icmp .ne 7, 3) := by decide +kernel
theorem d2_16 : decode method_3_code 16 = .ok (.getstatic 22, 3) := by decide +kernel
theorem d2_19 : decode method_3_code 19 = .ok (.areturn, 1) := by decide +kernel
theorem d2_20 : decode method_3_code 20 = .ok (.iload_n 0, 1) := by decide +kernel
theorem d2_21 : decode method_3_code 21 = .ok (.bipush 66, 2) := by decide +kernel
theorem d2_23 : decode method_3_code 23 = .ok (.if_icmp .ne 7, 3) := by decide +kernel
theorem d2_26 : decode method_3_code 26 = .ok (.getstatic 25, 3) := by decide +kernel
theorem d2_29 : decode method_3_code 29 = .ok (.areturn, 1) := by decide +kernel
theorem d2_30 : decode method_3_code 30 = .ok (.iload_n 0, 1) := by decide +kernel
theorem d2_31 : decode method_3_code 31 = .ok (.bipush 67, 2) := by decide +kernel
theorem d2_33 : decode method_3_code 33 = .ok (.if_icmp .ne 7, 3) := by decide +kernel
theorem d2_36 : decode method_3_code 36 = .ok (.getstatic 28, 3) := by decide +kernel
theorem d2_39 : decode method_3_code 39 = .ok (.areturn, 1) := by decide +kernel
theorem d2_40 : decode method_3_code 40 = .ok (.iload_n 0, 1) := by decide +kernel
theorem d2_41 : decode method_3_code 41 = .ok (.bipush 68, 2) := by decide +kernel
theorem d2_43 : decode method_3_code 43 = .ok (.if_icmp .ne 7, 3) := by decide +kernel
theorem d2_46 : decode method_3_code 46 = .ok (.getstatic 31, 3) := by decide +kernel
theorem d2_49 : decode method_3_code 49 = .ok (.areturn, 1) := by decide +kernel
theorem d2_50 : decode method_3_code 50 = .ok (.aconst_null, 1) := by decide +kernel
theorem d2_51 : decode method_3_code 51 = .ok (.areturn, 1) := by decide +kernel
theorem pn_2 : plainName "com/example/rendezvous/rendezvous/server/KindOfPinLaw" = true := by first | (simp [plainName, overriddenIn]; done) | decide +kernel
theorem pd_0 : parseMethodDescriptor "(I)Lcom/example/rendezvous/rendezvous/server/PeerMessages$Kind;" = some ⟨[.int], some (.object "com/example/rendezvous/rendezvous/server/PeerMessages$Kind")⟩ := by decide +kernel
theorem ef_1 (m : MethodId) (x0 : Int32) : entryFrame m #[(.int x0)] 5 = mkF m 0 #[.val (.int x0), .unset, .unset, .unset, .unset] [] := by first | (simp [entryFrame, mkF, argsToLocals, Value.category]; done) | rfl
theorem ef_2 (m : MethodId) (x0 : Int32) : entryFrame m #[(.int x0)] 1 = mkF m 0 #[.val (.int x0)] [] := by first | (simp [entryFrame, mkF, argsToLocals, Value.category]; done) | rfl
theorem ef_0 (m : MethodId) (x0 : Int32) (x1 : Int32) : entryFrame m #[(.int x0), (.int x1)] maxLocals = mkF m 0 #[.val (.int x0), .val (.int x1), .unset, .unset, .unset] [] := by first | (simp [entryFrame, mkF, argsToLocals, Value.category, maxLocals]; done) | rfl
/-- what Kind.of answers -/
def own_kind (v0 v1 v2 v3 v4 : Addr) (c : Int32) : Value := if c = 64 then .ref v0 else if c = 65 then .ref v1 else if c = 66 then .ref v2 else if c = 67 then .ref v3 else if c = 68 then .ref v4 else .null
theorem own_kref (v0 v1 v2 v3 v4 : Addr) (c : Int32) : (own_kind v0 v1 v2 v3 v4 c).isRef = true := by
  unfold own_kind; repeat' split
  all_goals rfl
theorem own_kcat (v0 v1 v2 v3 v4 : Addr) (c : Int32) : (own_kind v0 v1 v2 v3 v4 c).category = 1 := by
  unfold own_kind; repeat' split
  all_goals rfl
theorem own_kw (v0 v1 v2 v3 v4 : Addr) (c : Int32) : 2 * 0 + ([own_kind v0 v1 v2 v3 v4 c].map fun v => v.category).sum ≤ 1 := by
  simp [own_kcat]
theorem own_el {args : Array Value} {s : State} {t u : Term} {a : Addr} {cl : Cell} {y : Addr} {k : Int32} {n : Nat} (ev : t.eval args s none [] s = some (.ref a)) (hat : s.arrayAt? a = some cl) (h31 : cl.slots.size < 2 ^ 31) (eu : u.eval args s none [] s = some (.ref y))
    (h : (Cond.eq (.elem t (.int k)) u).value args s none s [] = some true) (hk : ¬ k < 0) (hn : k.toNatClampNeg = n) : cl.slots[n]? = some (.ref y) := by
  have e := elem_f (a := .int k) ev (Term.int_eval k) hat hk
  obtain ⟨x, w, e1, e2, k1, k2⟩ := cmp_v (Or.inl h)
  rw [eu] at e2; cases e2
  have hr : x.isRef = true := k2.2
  have q := gotT (eq_R e1 eu hr rfl) h
  rw [e] at e1
  rw [← hn, e1, q]
theorem own_all {s : State} {args : Array Value} (hfit : Fit s) (hw : ∀ d ∈ tables_1, d.before args s = true) (hn : narrow_1.value args s none s [] = some true) : ∃ (v0 : Addr) (v1 : Addr) (v2 : Addr) (v3 : Addr) (v4 : Addr) (ball : Addr) (kall : ClassId), Sta s s.heap "com/example/rendezvous/rendezvous/server/PeerMessages$Kind" "VOTE" "Lcom/example/rendezvous/rendezvous/server/PeerMessages$Kind;" (.ref v0) ∧ Sta s s.heap "com/example/rendezvous/rendezvous/server/PeerMessages$Kind" "APPEND" "Lcom/example/rendezvous/rendezvous/server/PeerMessages$Kind;" (.ref v1) ∧ Sta s s.heap "com/example/rendezvous/rendezvous/server/PeerMessages$Kind" "TREE" "Lcom/example/rendezvous/rendezvous/server/PeerMessages$Kind;" (.ref v2) ∧ Sta s s.heap "com/example/rendezvous/rendezvous/server/PeerMessages$Kind" "PRE_VOTE" "Lcom/example/rendezvous/rendezvous/server/PeerMessages$Kind;" (.ref v3) ∧ Sta s s.heap "com/example/rendezvous/rendezvous/server/PeerMessages$Kind" "HAND_OVER" "Lcom/example/rendezvous/rendezvous/server/PeerMessages$Kind;" (.ref v4) ∧ Sta s s.heap "com/example/rendezvous/rendezvous/server/PeerMessages$Kind" "ALL" "[Lcom/example/rendezvous/rendezvous/server/PeerMessages$Kind;" (.ref ball) ∧ Arv s s.heap ball kall (.object "com/example/rendezvous/rendezvous/server/PeerMessages$Kind") (5 : Int32) [(.ref v0), (.ref v1), (.ref v2), (.ref v3), (.ref v4)] .null ∧ Exa s s.heap v0 "com/example/rendezvous/rendezvous/server/PeerMessages$Kind" ∧ Exa s s.heap v1 "com/example/rendezvous/rendezvous/server/PeerMessages$Kind" ∧ Exa s s.heap v2 "com/example/rendezvous/rendezvous/server/PeerMessages$Kind" ∧ Exa s s.heap v3 "com/example/rendezvous/rendezvous/server/PeerMessages$Kind" ∧ Exa s s.heap v4 "com/example/rendezvous/rendezvous/server/PeerMessages$Kind" ∧ Fld s s.heap v0 "com/example/rendezvous/rendezvous/server/PeerMessages$Kind" "code" "I" (.int (64 : Int32)) ∧ Fld s s.heap v1 "com/example/rendezvous/rendezvous/server/PeerMessages$Kind" "code" "I" (.int (65 : Int32)) ∧ Fld s s.heap v2 "com/example/rendezvous/rendezvous/server/PeerMessages$Kind" "code" "I" (.int (66 : Int32)) ∧ Fld s s.heap v3 "com/example/rendezvous/rendezvous/server/PeerMessages$Kind" "code" "I" (.int (67 : Int32)) ∧ Fld s s.heap v4 "com/example/rendezvous/rendezvous/server/PeerMessages$Kind" "code" "I" (.int (68 : Int32)) := by
  obtain ⟨c0, n1⟩ := and_e hn
  obtain ⟨c1, n2⟩ := and_e n1
  obtain ⟨x0, m0a⟩ := and_e n2
  obtain ⟨y0, m0b⟩ := and_e m0a
  obtain ⟨z0, m0c⟩ := and_e m0b
  obtain ⟨x1, m1a⟩ := and_e m0c
  obtain ⟨y1, m1b⟩ := and_e m1a
  obtain ⟨z1, m1c⟩ := and_e m1b
  obtain ⟨x2, m2a⟩ := and_e m1c
  obtain ⟨y2, m2b⟩ := and_e m2a
  obtain ⟨z2, m2c⟩ := and_e m2b
  obtain ⟨x3, m3a⟩ := and_e m2c
  obtain ⟨y3, m3b⟩ := and_e m3a
  obtain ⟨z3, m3c⟩ := and_e m3b
  obtain ⟨x4, m4a⟩ := and_e m3c
  obtain ⟨y4, z4⟩ := and_e m4a
  have hini : (Cond.initialized "com/example/rendezvous/rendezvous/server/PeerMessages$Kind").before args s = true := hw _ (List.mem_of_getElem? (i := 2) rfl)
  obtain ⟨ball, ev⟩ := arr_v c0
  obtain ⟨cl, A⟩ := Arr.start ev c0
  have hat : s.arrayAt? ball = some cl := A.fin (Vm.Alike.refl _)
  have hlen := Cond.eq_int (Cond.before_iff.mpr c1) rfl
  have h31 := SBG.length_lt ev hat hlen
  have hsz : cl.slots.size.toInt32 = 5 := by
    have e := len_f ev hat h31
    exact (Value.int.inj (Option.some.inj (e.symm.trans hlen)))
  obtain ⟨v0, ev0⟩ := exa_v x0
  have S0 := Sta.start ev0 (Or.inr ⟨hini, hw _ (List.mem_of_getElem? (i := 6) rfl)⟩)
  have E0 := Exa.start ev0 x0
  have F0 := Fld.start ((fld_at ev0).symm.trans (Cond.eq_int (Cond.before_iff.mpr z0) rfl))
  have L0 : cl.slots[0]? = some (.ref v0) := own_el ev hat h31 ev0 y0 (by decide) (by decide)
  obtain ⟨v1, ev1⟩ := exa_v x1
  have S1 := Sta.start ev1 (Or.inr ⟨hini, hw _ (List.mem_of_getElem? (i := 9) rfl)⟩)
  have E1 := Exa.start ev1 x1
  have F1 := Fld.start ((fld_at ev1).symm.trans (Cond.eq_int (Cond.before_iff.mpr z1) rfl))
  have L1 : cl.slots[1]? = some (.ref v1) := own_el ev hat h31 ev1 y1 (by decide) (by decide)
  obtain ⟨v2, ev2⟩ := exa_v x2
  have S2 := Sta.start ev2 (Or.inr ⟨hini, hw _ (List.mem_of_getElem? (i := 10) rfl)⟩)
  have E2 := Exa.start ev2 x2
  have F2 := Fld.start ((fld_at ev2).symm.trans (Cond.eq_int (Cond.before_iff.mpr z2) rfl))
  have L2 : cl.slots[2]? = some (.ref v2) := own_el ev hat h31 ev2 y2 (by decide) (by decide)
  obtain ⟨v3, ev3⟩ := exa_v x3
  have S3 := Sta.start ev3 (Or.inr ⟨hini, hw _ (List.mem_of_getElem? (i := 11) rfl)⟩)
  have E3 := Exa.start ev3 x3
  have F3 := Fld.start ((fld_at ev3).symm.trans (Cond.eq_int (Cond.before_iff.mpr z3) rfl))
  have L3 : cl.slots[3]? = some (.ref v3) := own_el ev hat h31 ev3 y3 (by decide) (by decide)
  obtain ⟨v4, ev4⟩ := exa_v x4
  have S4 := Sta.start ev4 (Or.inr ⟨hini, hw _ (List.mem_of_getElem? (i := 12) rfl)⟩)
  have E4 := Exa.start ev4 x4
  have F4 := Fld.start ((fld_at ev4).symm.trans (Cond.eq_int (Cond.before_iff.mpr z4) rfl))
  have L4 : cl.slots[4]? = some (.ref v4) := own_el ev hat h31 ev4 y4 (by decide) (by decide)
  have V := Arv.start (dv := .null) hfit A h31 hsz (by decide) (vs := [(.ref v0), (.ref v1), (.ref v2), (.ref v3), (.ref v4)]) (by rfl) ⟨L0, L1, L2, L3, L4, trivial⟩
  exact ⟨v0, v1, v2, v3, v4, ball, cl.cls, S0, S1, S2, S3, S4, Sta.start ev (Or.inr ⟨hini, hw _ (List.mem_of_getElem? (i := 5) rfl)⟩), V, E0, E1, E2, E3, E4, F0, F1, F2, F3, F4⟩
def Q1 (Z : State) (q1 : Int32) (v0 : Addr) (v1 : Addr) (v2 : Addr) (v3 : Addr) (v4 : Addr) (ball : Addr) (kall : ClassId) (h0 : Heap) (n0 : Nat) (v : Option Value) (h : Heap) (L : List Loc) : Prop := v = some (own_kind v0 v1 v2 v3 v4 q1) ∧ Fr n0 L ∧ h = h0
set_option maxRecDepth 65536 in
set_option maxHeartbeats 40000000 in
theorem rm1 (l : Launch) (Z : State) (a0 : Array Value) (hw : ∀ d ∈ tables_1, d.before a0 Z = true) (ws : List Jvm.Cond) (q1 : Int32) (v0 : Addr) (v1 : Addr) (v2 : Addr) (v3 : Addr) (v4 : Addr) (ball : Addr) (kall : ClassId) (h0 : Heap) (n0 : Nat) (Z0 : n0 ≤ h0.size) (O0 : Old Z n0 h0) (S_ALL : Sta Z Z.heap "com/example/rendezvous/rendezvous/server/PeerMessages$Kind" "ALL" "[Lcom/example/rendezvous/rendezvous/server/PeerMessages$Kind;" (.ref ball)) (V_ball : Arv Z Z.heap ball kall (.object "com/example/rendezvous/rendezvous/server/PeerMessages$Kind") (5 : Int32) [(.ref v0), (.ref v1), (.ref v2), (.ref v3), (.ref v4)] .null) (E_v0 : Exa Z Z.heap v0 "com/example/rendezvous/rendezvous/server/PeerMessages$Kind") (E_v1 : Exa Z Z.heap v1 "com/example/rendezvous/rendezvous/server/PeerMessages$Kind") (E_v2 : Exa Z Z.heap v2 "com/example/rendezvous/rendezvous/server/PeerMessages$Kind") (E_v3 : Exa Z Z.heap v3 "com/example/rendezvous/rendezvous/server/PeerMessages$Kind") (E_v4 : Exa Z Z.heap v4 "com/example/rendezvous/rendezvous/server/PeerMessages$Kind") (F_v0 : Fld Z Z.heap v0 "com/example/rendezvous/rendezvous/server/PeerMessages$Kind" "code" "I" (.int (64 : Int32))) (F_v1 : Fld Z Z.heap v1 "com/example/rendezvous/rendezvous/server/PeerMessages$Kind" "code" "I" (.int (65 : Int32))) (F_v2 : Fld Z Z.heap v2 "com/example/rendezvous/rendezvous/server/PeerMessages$Kind" "code" "I" (.int (66 : Int32))) (F_v3 : Fld Z Z.heap v3 "com/example/rendezvous/rendezvous/server/PeerMessages$Kind" "code" "I" (.int (67 : Int32))) (F_v4 : Fld Z Z.heap v4 "com/example/rendezvous/rendezvous/server/PeerMessages$Kind" "code" "I" (.int (68 : Int32))) :
    MetFree l (⟨"com/example/rendezvous/rendezvous/server/PeerMessages$Kind", "of", "(I)Lcom/example/rendezvous/rendezvous/server/PeerMessages$Kind;"⟩ : MethodName) (head1 (Jvm.Cond.code (⟨"com/example/rendezvous/rendezvous/server/PeerMessages$Kind", "of", "(I)Lcom/example/rendezvous/rendezvous/server/PeerMessages$Kind;"⟩ : MethodName) prog_152_method_6_code 5 (some (.object "com/example/rendezvous/rendezvous/server/PeerMessages$Kind")) :: ws) ({ frames := 0, cells := 0, slots := 0, locals := 0 } : Room)) (fun a U => a = #[(.int q1)] ∧ Z.Warmed39 U.vm ∧ U.heap = h0) (fun _ _ _ _ _ => True) (fun _ U o U' => ∃ v L, o = .returned v ∧ Q1 Z q1 v0 v1 v2 v3 v4 ball kall h0 n0 v U'.heap L ∧ FrameEnd U o U' L ({ frames := 0, cells := 0, slots := 0, locals := 0 } : Room).cells ({ frames := 0, cells := 0, slots := 0, locals := 0 } : Room).slots) := by
  refine MetFree.of_bodySF (plainFor_of_name pn_1) hisR ?_
  intro p e s m args below meth c s₁ Bd hml0 hP hK
  obtain ⟨rfl, hZ, hh⟩ := hP
  have hx := Bd.exec
  have hby := Bd.bytes
  have hlk := BodyLoose.notSynchronized Bd
  have hml : c.maxLocals = 5 := hml0
  have hown : s.vm.findClass "com/example/rendezvous/rendezvous/server/PeerMessages$Kind" = some m.cls := findClass_of_methodNamed Bd.named
  have hnm := (name_of_methodNamed Bd.named Bd.method).1
  have X0 : Stand p l e ({ frames := 0, cells := 0, slots := 0, locals := 0 } : Room) s m #[(.int q1)] below meth c s₁ [] 0 0 := Stand.of_body Bd
  have e0 : s₁.heap = h0 := by rw [← hh, Bd.state]; rfl
  have N0 := Fr.nil n0
  have K0 := Keep.refl h0 []
  show own_G p.tables e below (own_P s (Q1 Z q1 v0 v1 v2 v3 v4 ball kall h0 n0) 0 0) (s₁.setTop (entryFrame m #[(.int q1)] 5))
  refine own_st (fun t k => castTop (ef_1 m q1) k) ?_
  show own_G p.tables e below _ (s₁.setTop (mkF m 0 #[.val (.int q1), .unset, .unset, .unset, .unset] []))
  have V_b := V_ball.ext O0.2
  have Eh0 := E_v0.ext O0.2
  have Fh0 := F_v0.ext O0.2
  have Eh1 := E_v1.ext O0.2
  have Fh1 := F_v1.ext O0.2
  have Eh2 := E_v2.ext O0.2
  have Fh2 := F_v2.ext O0.2
  have Eh3 := E_v3.ext O0.2
  have Fh3 := F_v3.ext O0.2
  have Eh4 := E_v4.ext O0.2
  have Fh4 := F_v4.ext O0.2
  obtain ⟨T1, X1, e1, st1⟩ := getS2 X0 hx hZ hown (host := "") (Or.inl (hw _ (List.mem_of_getElem? (i := 4) rfl))) Via.refl e0 (S_ALL.ext O0.2) (g := (mkF m 0 #[.val (.int q1), .unset, .unset, .unset, .unset] [])) rfl (hb hby d1_0)
  refine own_st st1 ?_
  show own_G p.tables e below _ (T1.setTop (mkF m 3 #[.val (.int q1), .unset, .unset, .unset, .unset] [(.ref ball)]))
  refine own_st (fun _ k => XS.astoreN X1.here hx rfl (hb hby d1_3) rfl rfl (l' := #[.val (.int q1), .val (.ref ball), .unset, .unset, .unset]) rfl k) ?_
  show own_G p.tables e below _ (T1.setTop (mkF m 4 #[.val (.int q1), .val (.ref ball), .unset, .unset, .unset] []))
  refine own_st (fun _ k => XS.aloadN X1.here hx rfl (hb hby d1_4) rfl rfl k) ?_
  show own_G p.tables e below _ (T1.setTop (mkF m 5 #[.val (.int q1), .val (.ref ball), .unset, .unset, .unset] [(.ref ball)]))
  obtain ⟨cl2, Ar2, q2, S2, Nn2, H2, G2⟩ := V_b
  refine own_st (fun _ k => X1.arraylength hx (by rw [e1]; exact Ar2.1) (State.isArrayOf_alike hZ.alike Ar2.2.1) (g := (mkF m 5 #[.val (.int q1), .val (.ref ball), .unset, .unset, .unset] [(.ref ball)])) rfl rfl (hb hby d1_5) _ (by rw [len_of S2 Nn2]; exact k)) ?_
  show own_G p.tables e below _ (T1.setTop (mkF m 6 #[.val (.int q1), .val (.ref ball), .unset, .unset, .unset] [(.int (5 : Int32))]))
  have V3 : Arv Z h0 ball kall (.object "com/example/rendezvous/rendezvous/server/PeerMessages$Kind") (5 : Int32) [(.ref v0), (.ref v1), (.ref v2), (.ref v3), (.ref v4)] .null := ⟨cl2, Ar2, q2, S2, Nn2, H2, G2⟩
  refine own_st (fun _ k => XS.istoreN X1.here hx rfl (hb hby d1_6) rfl (l' := #[.val (.int q1), .val (.ref ball), .val (.int (5 : Int32)), .unset, .unset]) rfl k) ?_
  show own_G p.tables e below _ (T1.setTop (mkF m 7 #[.val (.int q1), .val (.ref ball), .val (.int (5 : Int32)), .unset, .unset] []))
  refine own_st (fun _ k => XS.iconst X1.here hx rfl (hb hby d1_7) k) ?_
  show own_G p.tables e below _ (T1.setTop (mkF m 8 #[.val (.int q1), .val (.ref ball), .val (.int (5 : Int32)), .unset, .unset] [(.int (0 : Int32))]))
  refine own_st (fun _ k => XS.istoreN X1.here hx rfl (hb hby d1_8) rfl (l' := #[.val (.int q1), .val (.ref ball), .val (.int (5 : Int32)), .val (.int (0 : Int32)), .unset]) rfl k) ?_
  show own_G p.tables e below _ (T1.setTop (mkF m 9 #[.val (.int q1), .val (.ref ball), .val (.int (5 : Int32)), .val (.int (0 : Int32)), .unset] []))
  refine own_st (fun _ k => XS.iloadN X1.here hx rfl (hb hby d1_9) rfl k) ?_
  show own_G p.tables e below _ (T1.setTop (mkF m 10 #[.val (.int q1), .val (.ref ball), .val (.int (5 : Int32)), .val (.int (0 : Int32)), .unset] [(.int (0 : Int32))]))
  refine own_st (fun _ k => XS.iloadN X1.here hx rfl (hb hby d1_10) rfl k) ?_
  show own_G p.tables e below _ (T1.setTop (mkF m 11 #[.val (.int q1), .val (.ref ball), .val (.int (5 : Int32)), .val (.int (0 : Int32)), .unset] [(.int (5 : Int32)), (.int (0 : Int32))]))
  refine own_st (fun _ k => XS.icmpNo X1.here hx rfl (hb hby d1_11) rfl (by decide) k) ?_
  show own_G p.tables e below _ (T1.setTop (mkF m 14 #[.val (.int q1), .val (.ref ball), .val (.int (5 : Int32)), .val (.int (0 : Int32)), .unset] []))
  refine own_st (fun _ k => XS.aloadN X1.here hx rfl (hb hby d1_14) rfl rfl k) ?_
  show own_G p.tables e below _ (T1.setTop (mkF m 15 #[.val (.int q1), .val (.ref ball), .val (.int (5 : Int32)), .val (.int (0 : Int32)), .unset] [(.ref ball)]))
  refine own_st (fun _ k => XS.iloadN X1.here hx rfl (hb hby d1_15) rfl k) ?_
  show own_G p.tables e below _ (T1.setTop (mkF m 16 #[.val (.int q1), .val (.ref ball), .val (.int (5 : Int32)), .val (.int (0 : Int32)), .unset] [(.int (0 : Int32)), (.ref ball)]))
  obtain ⟨cl4, Ar4, q4, S4, Nn4, H4, G4⟩ := V3
  have hin4 : ¬ ((0 : Int32) < 0 ∨ cl4.slots.size ≤ ((0 : Int32)).toNatClampNeg) := inb_of S4 ⟨by decide, by decide⟩
  refine own_st (fun _ k => X1.aaload hx (j := (0 : Int32)) (v := (.ref v0)) (by rw [e1]; exact Ar4.1) (State.isArrayOf_alike hZ.alike Ar4.2.1) rfl Ar4.2.2 hin4 (Has.at H4 hin4 rfl) (g := (mkF m 16 #[.val (.int q1), .val (.ref ball), .val (.int (5 : Int32)), .val (.int (0 : Int32)), .unset] [(.int (0 : Int32)), (.ref ball)])) rfl rfl (hb hby d1_16) _ k) ?_
  show own_G p.tables e below _ (T1.setTop (mkF m 17 #[.val (.int q1), .val (.ref ball), .val (.int (5 : Int32)), .val (.int (0 : Int32)), .unset] [(.ref v0)]))
  have V5 : Arv Z h0 ball kall (.object "com/example/rendezvous/rendezvous/server/PeerMessages$Kind") (5 : Int32) [(.ref v0), (.ref v1), (.ref v2), (.ref v3), (.ref v4)] .null := ⟨cl4, Ar4, q4, S4, Nn4, H4, G4⟩
  refine own_st (fun _ k => XS.astore X1.here hx rfl (hb hby d1_17) rfl rfl (l' := #[.val (.int q1), .val (.ref ball), .val (.int (5 : Int32)), .val (.int (0 : Int32)), .val (.ref v0)]) rfl k) ?_
  show own_G p.tables e below _ (T1.setTop (mkF m 19 #[.val (.int q1), .val (.ref ball), .val (.int (5 : Int32)), .val (.int (0 : Int32)), .val (.ref v0)] []))
  refine own_st (fun _ k => XS.aload X1.here hx rfl (hb hby d1_19) rfl rfl k) ?_
  show own_G p.tables e below _ (T1.setTop (mkF m 21 #[.val (.int q1), .val (.ref ball), .val (.int (5 : Int32)), .val (.int (0 : Int32)), .val (.ref v0)] [(.ref v0)]))
  obtain ⟨T6, X6, e6, st6⟩ := getF X1 hx hZ hown (host := "") (Or.inl (hw _ (List.mem_of_getElem? (i := 7) rfl))) Via.refl e1 Fh0 (g := (mkF m 21 #[.val (.int q1), .val (.ref ball), .val (.int (5 : Int32)), .val (.int (0 : Int32)), .val (.ref v0)] [(.ref v0)])) rfl rfl (hb hby d1_21)
  refine own_st st6 ?_
  show own_G p.tables e below _ (T6.setTop (mkF m 24 #[.val (.int q1), .val (.ref ball), .val (.int (5 : Int32)), .val (.int (0 : Int32)), .val (.ref v0)] [(.int (64 : Int32))]))
  refine own_st (fun _ k => XS.iloadN X6.here hx rfl (hb hby d1_24) rfl k) ?_
  show own_G p.tables e below _ (T6.setTop (mkF m 25 #[.val (.int q1), .val (.ref ball), .val (.int (5 : Int32)), .val (.int (0 : Int32)), .val (.ref v0)] [(.int q1), (.int (64 : Int32))]))
  by_cases hc25_7 : (64 : Int32) = q1
  · refine own_st (fun _ k => XS.icmpNo X6.here hx rfl (hb hby d1_25) rfl (teq hc25_7).2 k) ?_
    show own_G p.tables e below _ (T6.setTop (mkF m 28 #[.val (.int q1), .val (.ref ball), .val (.int (5 : Int32)), .val (.int (0 : Int32)), .val (.ref v0)] []))
    refine own_st (fun _ k => XS.aload X6.here hx rfl (hb hby d1_28) rfl rfl k) ?_
    show own_G p.tables e below _ (T6.setTop (mkF m 30 #[.val (.int q1), .val (.ref ball), .val (.int (5 : Int32)), .val (.int (0 : Int32)), .val (.ref v0)] [(.ref v0)]))
    exact own_retR X6 hx hlk Bd.returns (by rfl) (by rfl) (by rfl) (hb hby d1_30) (by rw [e6]; exact ⟨(by have hq := hc25_7; subst hq; simp [own_kind]), N0, rfl⟩) (by decide) (by decide)
  · refine own_st (fun _ k => XS.icmpYes X6.here hx rfl (pc0 := 25) (pc' := 31) rfl (hb hby d1_25) rfl (feq hc25_7).2 (by decide) (by decide) k) ?_
    show own_G p.tables e below _ (T6.setTop (mkF m 31 #[.val (.int q1), .val (.ref ball), .val (.int (5 : Int32)), .val (.int (0 : Int32)), .val (.ref v0)] []))
    refine own_st (fun _ k => XS.iinc X6.here hx rfl (hb hby d1_31) rfl (l' := #[.val (.int q1), .val (.ref ball), .val (.int (5 : Int32)), .val (.int (1 : Int32)), .val (.ref v0)]) rfl k) ?_
    show own_G p.tables e below _ (T6.setTop (mkF m 34 #[.val (.int q1), .val (.ref ball), .val (.int (5 : Int32)), .val (.int (1 : Int32)), .val (.ref v0)] []))
    refine own_st (fun _ k => XS.goto X6.here hx rfl (pc0 := 34) (pc' := 9) rfl (hb hby d1_34) (by decide) (by decide) k) ?_
    show own_G p.tables e below _ (T6.setTop (mkF m 9 #[.val (.int q1), .val (.ref ball), .val (.int (5 : Int32)), .val (.int (1 : Int32)), .val (.ref v0)] []))
    refine own_st (fun _ k => XS.iloadN X6.here hx rfl (hb hby d1_9) rfl k) ?_
    show own_G p.tables e below _ (T6.setTop (mkF m 10 #[.val (.int q1), .val (.ref ball), .val (.int (5 : Int32)), .val (.int (1 : Int32)), .val (.ref v0)] [(.int (1 : Int32))]))
    refine own_st (fun _ k => XS.iloadN X6.here hx rfl (hb hby d1_10) rfl k) ?_
    show own_G p.tables e below _ (T6.setTop (mkF m 11 #[.val (.int q1), .val (.ref ball), .val (.int (5 : Int32)), .val (.int (1 : Int32)), .val (.ref v0)] [(.int (5 : Int32)), (.int (1 : Int32))]))
    refine own_st (fun _ k => XS.icmpNo X6.here hx rfl (hb hby d1_11) rfl (by decide) k) ?_
    show own_G p.tables e below _ (T6.setTop (mkF m 14 #[.val (.int q1), .val (.ref ball), .val (.int (5 : Int32)), .val (.int (1 : Int32)), .val (.ref v0)] []))
    refine own_st (fun _ k => XS.aloadN X6.here hx rfl (hb hby d1_14) rfl rfl k) ?_
    show own_G p.tables e below _ (T6.setTop (mkF m 15 #[.val (.int q1), .val (.ref ball), .val (.int (5 : Int32)), .val (.int (1 : Int32)), .val (.ref v0)] [(.ref ball)]))
    refine own_st (fun _ k => XS.iloadN X6.here hx rfl (hb hby d1_15) rfl k) ?_
    show own_G p.tables e below _ (T6.setTop (mkF m 16 #[.val (.int q1), .val (.ref ball), .val (.int (5 : Int32)), .val (.int (1 : Int32)), .val (.ref v0)] [(.int (1 : Int32)), (.ref ball)]))
    obtain ⟨cl8, Ar8, q8, S8, Nn8, H8, G8⟩ := V5
    have hin8 : ¬ ((1 : Int32) < 0 ∨ cl8.slots.size ≤ ((1 : Int32)).toNatClampNeg) := inb_of S8 ⟨by decide, by decide⟩
    refine own_st (fun _ k => X6.aaload hx (j := (1 : Int32)) (v := (.ref v1)) (by rw [e6]; exact Ar8.1) (State.isArrayOf_alike hZ.alike Ar8.2.1) rfl Ar8.2.2 hin8 (Has.at H8 hin8 rfl) (g := (mkF m 16 #[.val (.int q1), .val (.ref ball), .val (.int (5 : Int32)), .val (.int (1 : Int32)), .val (.ref v0)] [(.int (1 : Int32)), (.ref ball)])) rfl rfl (hb hby d1_16) _ k) ?_
    show own_G p.tables e below _ (T6.setTop (mkF m 17 #[.val (.int q1), .val (.ref ball), .val (.int (5 : Int32)), .val (.int (1 : Int32)), .val (.ref v0)] [(.ref v1)]))
    have V9 : Arv Z h0 ball kall (.object "com/example/rendezvous/rendezvous/server/PeerMessages$Kind") (5 : Int32) [(.ref v0), (.ref v1), (.ref v2), (.ref v3), (.ref v4)] .null := ⟨cl8, Ar8, q8, S8, Nn8, H8, G8⟩
    refine own_st (fun _ k => XS.astore X6.here hx rfl (hb hby d1_17) rfl rfl (l' := #[.val (.int q1), .val (.ref ball), .val (.int (5 : Int32)), .val (.int (1 : Int32)), .val (.ref v1)]) rfl k) ?_
    show own_G p.tables e below _ (T6.setTop (mkF m 19 #[.val (.int q1), .val (.ref ball), .val (.int (5 : Int32)), .val (.int (1 : Int32)), .val (.ref v1)] []))
    refine own_st (fun _ k => XS.aload X6.here hx rfl (hb hby d1_19) rfl rfl k) ?_
    show own_G p.tables e below _ (T6.setTop (mkF m 21 #[.val (.int q1), .val (.ref ball), .val (.int (5 : Int32)), .val (.int (1 : Int32)), .val (.ref v1)] [(.ref v1)]))
    obtain ⟨T10, X10, e10, st10⟩ := getF X6 hx hZ hown (host := "") (Or.inl (hw _ (List.mem_of_getElem? (i := 7) rfl))) Via.refl e6 Fh1 (g := (mkF m 21 #[.val (.int q1), .val (.ref ball), .val (.int (5 : Int32)), .val (.int (1 : Int32)), .val (.ref v1)] [(.ref v1)])) rfl rfl (hb hby d1_21)
    refine own_st st10 ?_
    show own_G p.tables e below _ (T10.setTop (mkF m 24 #[.val (.int q1), .val (.ref ball), .val (.int (5 : Int32)), .val (.int (1 : Int32)), .val (.ref v1)] [(.int (65 : Int32))]))
    refine own_st (fun _ k => XS.iloadN X10.here hx rfl (hb hby d1_24) rfl k) ?_
    show own_G p.tables e below _ (T10.setTop (mkF m 25 #[.val (.int q1), .val (.ref ball), .val (.int (5 : Int32)), .val (.int (1 : Int32)), .val (.ref v1)] [(.int q1), (.int (65 : Int32))]))
    by_cases hc25_11 : (65 : Int32) = q1
    · refine own_st (fun _ k => XS.icmpNo X10.here hx rfl (hb hby d1_25) rfl (teq hc25_11).2 k) ?_
      show own_G p.tables e below _ (T10.setTop (mkF m 28 #[.val (.int q1), .val (.ref ball), .val (.int (5 : Int32)), .val (.int (1 : Int32)), .val (.ref v1)] []))
      refine own_st (fun _ k => XS.aload X10.here hx rfl (hb hby d1_28) rfl rfl k) ?_
      show own_G p.tables e below _ (T10.setTop (mkF m 30 #[.val (.int q1), .val (.ref ball), .val (.int (5 : Int32)), .val (.int (1 : Int32)), .val (.ref v1)] [(.ref v1)]))
      exact own_retR X10 hx hlk Bd.returns (by rfl) (by rfl) (by rfl) (hb hby d1_30) (by rw [e10]; exact ⟨(by have hq := hc25_11; subst hq; simp [own_kind]), N0, rfl⟩) (by decide) (by decide)
    · refine own_st (fun _ k => XS.icmpYes X10.here hx rfl (pc0 := 25) (pc' := 31) rfl (hb hby d1_25) rfl (feq hc25_11).2 (by decide) (by decide) k) ?_
      show own_G p.tables e below _ (T10.setTop (mkF m 31 #[.val (.int q1), .val (.ref ball), .val (.int (5 : Int32)), .val (.int (1 : Int32)), .val (.ref v1)] []))
      refine own_st (fun _ k => XS.iinc X10.here hx rfl (hb hby d1_31) rfl (l' := #[.val (.int q1), .val (.ref ball), .val (.int (5 : Int32)), .val (.int (2 : Int32)), .val (.ref v1)]) rfl k) ?_
      show own_G p.tables e below _ (T10.setTop (mkF m 34 #[.val (.int q1), .val (.ref ball), .val (.int (5 : Int32)), .val (.int (2 : Int32)), .val (.ref v1)] []))
      refine own_st (fun _ k => XS.goto X10.here hx rfl (pc0 := 34) (pc' := 9) rfl (hb hby d1_34) (by decide) (by decide) k) ?_
      show own_G p.tables e below _ (T10.setTop (mkF m 9 #[.val (.int q1), .val (.ref ball), .val (.int (5 : Int32)), .val (.int (2 : Int32)), .val (.ref v1)] []))
      refine own_st (fun _ k => XS.iloadN X10.here hx rfl (hb hby d1_9) rfl k) ?_
      show own_G p.tables e below _ (T10.setTop (mkF m 10 #[.val (.int q1), .val (.ref ball), .val (.int (5 : Int32)), .val (.int (2 : Int32)), .val (.ref v1)] [(.int (2 : Int32))]))
      refine own_st (fun _ k => XS.iloadN X10.here hx rfl (hb hby d1_10) rfl k) ?_
      show own_G p.tables e below _ (T10.setTop (mkF m 11 #[.val (.int q1), .val (.ref ball), .val (.int (5 : Int32)), .val (.int (2 : Int32)), .val (.ref v1)] [(.int (5 : Int32)), (.int (2 : Int32))]))
      refine own_st (fun _ k => XS.icmpNo X10.here hx rfl (hb hby d1_11) rfl (by decide) k) ?_
      show own_G p.tables e below _ (T10.setTop (mkF m 14 #[.val (.int q1), .val (.ref ball), .val (.int (5 : Int32)), .val (.int (2 : Int32)), .val (.ref v1)] []))
      refine own_st (fun _ k => XS.aloadN X10.here hx rfl (hb hby d1_14) rfl rfl k) ?_
      show own_G p.tables e below _ (T10.setTop (mkF m 15 #[.val (.int q1), .val (.ref ball), .val (.int (5 : Int32)), .val (.int (2 : Int32)), .val (.ref v1)] [(.ref ball)]))
      refine own_st (fun _ k => XS.iloadN X10.here hx rfl (hb hby d1_15) rfl k) ?_
      show own_G p.tables e below _ (T10.setTop (mkF m 16 #[.val (.int q1), .val (.ref ball), .val (.int (5 : Int32)), .val (.int (2 : Int32)), .val (.ref v1)] [(.int (2 : Int32)), (.ref ball)]))
      obtain ⟨cl12, Ar12, q12, S12, Nn12, H12, G12⟩ := V9
      have hin12 : ¬ ((2 : Int32) < 0 ∨ cl12.slots.size ≤ ((2 : Int32)).toNatClampNeg) := inb_of S12 ⟨by decide, by decide⟩
      refine own_st (fun _ k => X10.aaload hx (j := (2 : Int32)) (v := (.ref v2)) (by rw [e10]; exact Ar12.1) (State.isArrayOf_alike hZ.alike Ar12.2.1) rfl Ar12.2.2 hin12 (Has.at H12 hin12 rfl) (g := (mkF m 16 #[.val (.int q1), .val (.ref ball), .val (.int (5 : Int32)), .val (.int (2 : Int32)), .val (.ref v1)] [(.int (2 : Int32)), (.ref ball)])) rfl rfl (hb hby d1_16) _ k) ?_
      show own_G p.tables e below _ (T10.setTop (mkF m 17 #[.val (.int q1), .val (.ref ball), .val (.int (5 : Int32)), .val (.int (2 : Int32)), .val (.ref v1)] [(.ref v2)]))
      have V13 : Arv Z h0 ball kall (.object "com/example/rendezvous/rendezvous/server/PeerMessages$Kind") (5 : Int32) [(.ref v0), (.ref v1), (.ref v2), (.ref v3), (.ref v4)] .null := ⟨cl12, Ar12, q12, S12, Nn12, H12, G12⟩
      refine own_st (fun _ k => XS.astore X10.here hx rfl (hb hby d1_17) rfl rfl (l' := #[.val (.int q1), .val (.ref ball), .val (.int (5 : Int32)), .val (.int (2 : Int32)), .val (.ref v2)]) rfl k) ?_
      show own_G p.tables e below _ (T10.setTop (mkF m 19 #[.val (.int q1), .val (.ref ball), .val (.int (5 : Int32)), .val (.int (2 : Int32)), .val (.ref v2)] []))
      refine own_st (fun _ k => XS.aload X10.here hx rfl (hb hby d1_19) rfl rfl k) ?_
      show own_G p.tables e below _ (T10.setTop (mkF m 21 #[.val (.int q1), .val (.ref ball), .val (.int (5 : Int32)), .val (.int (2 : Int32)), .val (.ref v2)] [(.ref v2)]))
      obtain ⟨T14, X14, e14, st14⟩ := getF X10 hx hZ hown (host := "") (Or.inl (hw _ (List.mem_of_getElem? (i := 7) rfl))) Via.refl e10 Fh2 (g := (mkF m 21 #[.val (.int q1), .val (.ref ball), .val (.int (5 : Int32)), .val (.int (2 : Int32)), .val (.ref v2)] [(.ref v2)])) rfl rfl (hb hby d1_21)
      refine own_st st14 ?_
      show own_G p.tables e below _ (T14.setTop (mkF m 24 #[.val (.int q1), .val (.ref ball), .val (.int (5 : Int32)), .val (.int (2 : Int32)), .val (.ref v2)] [(.int (66 : Int32))]))
      refine own_st (fun _ k => XS.iloadN X14.here hx rfl (hb hby d1_24) rfl k) ?_
      show own_G p.tables e below _ (T14.setTop (mkF m 25 #[.val (.int q1), .val (.ref ball), .val (.int (5 : Int32)), .val (.int (2 : Int32)), .val (.ref v2)] [(.int q1), (.int (66 : Int32))]))
      by_cases hc25_15 : (66 : Int32) = q1
      · refine own_st (fun _ k => XS.icmpNo X14.here hx rfl (hb hby d1_25) rfl (teq hc25_15).2 k) ?_
        show own_G p.tables e below _ (T14.setTop (mkF m 28 #[.val (.int q1), .val (.ref ball), .val (.int (5 : Int32)), .val (.int (2 : Int32)), .val (.ref v2)] []))
        refine own_st (fun _ k => XS.aload X14.here hx rfl (hb hby d1_28) rfl rfl k) ?_
        show own_G p.tables e below _ (T14.setTop (mkF m 30 #[.val (.int q1), .val (.ref ball), .val (.int (5 : Int32)), .val (.int (2 : Int32)), .val (.ref v2)] [(.ref v2)]))
        exact own_retR X14 hx hlk Bd.returns (by rfl) (by rfl) (by rfl) (hb hby d1_30) (by rw [e14]; exact ⟨(by have hq := hc25_15; subst hq; simp [own_kind]), N0, rfl⟩) (by decide) (by decide)
      · refine own_st (fun _ k => XS.icmpYes X14.here hx rfl (pc0 := 25) (pc' := 31) rfl (hb hby d1_25) rfl (feq hc25_15).2 (by decide) (by decide) k) ?_
        show own_G p.tables e below _ (T14.setTop (mkF m 31 #[.val (.int q1), .val (.ref ball), .val (.int (5 : Int32)), .val (.int (2 : Int32)), .val (.ref v2)] []))
        refine own_st (fun _ k => XS.iinc X14.here hx rfl (hb hby d1_31) rfl (l' := #[.val (.int q1), .val (.ref ball), .val (.int (5 : Int32)), .val (.int (3 : Int32)), .val (.ref v2)]) rfl k) ?_
        show own_G p.tables e below _ (T14.setTop (mkF m 34 #[.val (.int q1), .val (.ref ball), .val (.int (5 : Int32)), .val (.int (3 : Int32)), .val (.ref v2)] []))
        refine own_st (fun _ k => XS.goto X14.here hx rfl (pc0 := 34) (pc' := 9) rfl (hb hby d1_34) (by decide) (by decide) k) ?_
        show own_G p.tables e below _ (T14.setTop (mkF m 9 #[.val (.int q1), .val (.ref ball), .val (.int (5 : Int32)), .val (.int (3 : Int32)), .val (.ref v2)] []))
        refine own_st (fun _ k => XS.iloadN X14.here hx rfl (hb hby d1_9) rfl k) ?_
        show own_G p.tables e below _ (T14.setTop (mkF m 10 #[.val (.int q1), .val (.ref ball), .val (.int (5 : Int32)), .val (.int (3 : Int32)), .val (.ref v2)] [(.int (3 : Int32))]))
        refine own_st (fun _ k => XS.iloadN X14.here hx rfl (hb hby d1_10) rfl k) ?_
        show own_G p.tables e below _ (T14.setTop (mkF m 11 #[.val (.int q1), .val (.ref ball), .val (.int (5 : Int32)), .val (.int (3 : Int32)), .val (.ref v2)] [(.int (5 : Int32)), (.int (3 : Int32))]))
        refine own_st (fun _ k => XS.icmpNo X14.here hx rfl (hb hby d1_11) rfl (by decide) k) ?_
        show own_G p.tables e below _ (T14.setTop (mkF m 14 #[.val (.int q1), .val (.ref ball), .val (.int (5 : Int32)), .val (.int (3 : Int32)), .val (.ref v2)] []))
        refine own_st (fun _ k => XS.aloadN X14.here hx rfl (hb hby d1_14) rfl rfl k) ?_
        show own_G p.tables e below _ (T14.setTop (mkF m 15 #[.val (.int q1), .val (.ref ball), .val (.int (5 : Int32)), .val (.int (3 : Int32)), .val (.ref v2)] [(.ref ball)]))
        refine own_st (fun _ k => XS.iloadN X14.here hx rfl (hb hby d1_15) rfl k) ?_
        show own_G p.tables e below _ (T14.setTop (mkF m 16 #[.val (.int q1), .val (.ref ball), .val (.int (5 : Int32)), .val (.int (3 : Int32)), .val (.ref v2)] [(.int (3 : Int32)), (.ref ball)]))
        obtain ⟨cl16, Ar16, q16, S16, Nn16, H16, G16⟩ := V13
        have hin16 : ¬ ((3 : Int32) < 0 ∨ cl16.slots.size ≤ ((3 : Int32)).toNatClampNeg) := inb_of S16 ⟨by decide, by decide⟩
        refine own_st (fun _ k => X14.aaload hx (j := (3 : Int32)) (v := (.ref v3)) (by rw [e14]; exact Ar16.1) (State.isArrayOf_alike hZ.alike Ar16.2.1) rfl Ar16.2.2 hin16 (Has.at H16 hin16 rfl) (g := (mkF m 16 #[.val (.int q1), .val (.ref ball), .val (.int (5 : Int32)), .val (.int (3 : Int32)), .val (.ref v2)] [(.int (3 : Int32)), (.ref ball)])) rfl rfl (hb hby d1_16) _ k) ?_
        show own_G p.tables e below _ (T14.setTop (mkF m 17 #[.val (.int q1), .val (.ref ball), .val (.int (5 : Int32)), .val (.int (3 : Int32)), .val (.ref v2)] [(.ref v3)]))
        have V17 : Arv Z h0 ball kall (.object "com/example/rendezvous/rendezvous/server/PeerMessages$Kind") (5 : Int32) [(.ref v0), (.ref v1), (.ref v2), (.ref v3), (.ref v4)] .null := ⟨cl16, Ar16, q16, S16, Nn16, H16, G16⟩
        refine own_st (fun _ k => XS.astore X14.here hx rfl (hb hby d1_17) rfl rfl (l' := #[.val (.int q1), .val (.ref ball), .val (.int (5 : Int32)), .val (.int (3 : Int32)), .val (.ref v3)]) rfl k) ?_
        show own_G p.tables e below _ (T14.setTop (mkF m 19 #[.val (.int q1), .val (.ref ball), .val (.int (5 : Int32)), .val (.int (3 : Int32)), .val (.ref v3)] []))
        refine own_st (fun _ k => XS.aload X14.here hx rfl (hb hby d1_19) rfl rfl k) ?_
        show own_G p.tables e below _ (T14.setTop (mkF m 21 #[.val (.int q1), .val (.ref ball), .val (.int (5 : Int32)), .val (.int (3 : Int32)), .val (.ref v3)] [(.ref v3)]))
        obtain ⟨T18, X18, e18, st18⟩ := getF X14 hx hZ hown (host := "") (Or.inl (hw _ (List.mem_of_getElem? (i := 7) rfl))) Via.refl e14 Fh3 (g := (mkF m 21 #[.val (.int q1), .val (.ref ball), .val (.int (5 : Int32)), .val (.int (3 : Int32)), .val (.ref v3)] [(.ref v3)])) rfl rfl (hb hby d1_21)
        refine own_st st18 ?_
        show own_G p.tables e below _ (T18.setTop (mkF m 24 #[.val (.int q1), .val (.ref ball), .val (.int (5 : Int32)), .val (.int (3 : Int32)), .val (.ref v3)] [(.int (67 : Int32))]))
        refine own_st (fun _ k => XS.iloadN X18.here hx rfl (hb hby d1_24) rfl k) ?_
        show own_G p.tables e below _ (T18.setTop (mkF m 25 #[.val (.int q1), .val (.ref ball), .val (.int (5 : Int32)), .val (.int (3 : Int32)), .val (.ref v3)] [(.int q1), (.int (67 : Int32))]))
        by_cases hc25_19 : (67 : Int32) = q1
        · refine own_st (fun _ k => XS.icmpNo X18.here hx rfl (hb hby d1_25) rfl (teq hc25_19).2 k) ?_
          show own_G p.tables e below _ (T18.setTop (mkF m 28 #[.val (.int q1), .val (.ref ball), .val (.int (5 : Int32)), .val (.int (3 : Int32)), .val (.ref v3)] []))
          refine own_st (fun _ k => XS.aload X18.here hx rfl (hb hby d1_28) rfl rfl k) ?_
          show own_G p.tables e below _ (T18.setTop (mkF m 30 #[.val (.int q1), .val (.ref ball), .val (.int (5 : Int32)), .val (.int (3 : Int32)), .val (.ref v3)] [(.ref v3)]))
          exact own_retR X18 hx hlk Bd.returns (by rfl) (by rfl) (by rfl) (hb hby d1_30) (by rw [e18]; exact ⟨(by have hq := hc25_19; subst hq; simp [own_kind]), N0, rfl⟩) (by decide) (by decide)
        · refine own_st (fun _ k => XS.icmpYes X18.here hx rfl (pc0 := 25) (pc' := 31) rfl (hb hby d1_25) rfl (feq hc25_19).2 (by decide) (by decide) k) ?_
          show own_G p.tables e below _ (T18.setTop (mkF m 31 #[.val (.int q1), .val (.ref ball), .val (.int (5 : Int32)), .val (.int (3 : Int32)), .val (.ref v3)] []))
          refine own_st (fun _ k => XS.iinc X18.here hx rfl (hb hby d1_31) rfl (l' := #[.val (.int q1), .val (.ref ball), .val (.int (5 : Int32)), .val (.int (4 : Int32)), .val (.ref v3)]) rfl k) ?_
          show own_G p.tables e below _ (T18.setTop (mkF m 34 #[.val (.int q1), .val (.ref ball), .val (.int (5 : Int32)), .val (.int (4 : Int32)), .val (.ref v3)] []))
          refine own_st (fun _ k => XS.goto X18.here hx rfl (pc0 := 34) (pc' := 9) rfl (hb hby d1_34) (by decide) (by decide) k) ?_
          show own_G p.tables e below _ (T18.setTop (mkF m 9 #[.val (.int q1), .val (.ref ball), .val (.int (5 : Int32)), .val (.int (4 : Int32)), .val (.ref v3)] []))
          refine own_st (fun _ k => XS.iloadN X18.here hx rfl (hb hby d1_9) rfl k) ?_
          show own_G p.tables e below _ (T18.setTop (mkF m 10 #[.val (.int q1), .val (.ref ball), .val (.int (5 : Int32)), .val (.int (4 : Int32)), .val (.ref v3)] [(.int (4 : Int32))]))
          refine own_st (fun _ k => XS.iloadN X18.here hx rfl (hb hby d1_10) rfl k) ?_
          show own_G p.tables e below _ (T18.setTop (mkF m 11 #[.val (.int q1), .val (.ref ball), .val (.int (5 : Int32)), .val (.int (4 : Int32)), .val (.ref v3)] [(.int (5 : Int32)), (.int (4 : Int32))]))
          refine own_st (fun _ k => XS.icmpNo X18.here hx rfl (hb hby d1_11) rfl (by decide) k) ?_
          show own_G p.tables e below _ (T18.setTop (mkF m 14 #[.val (.int q1), .val (.ref ball), .val (.int (5 : Int32)), .val (.int (4 : Int32)), .val (.ref v3)] []))
          refine own_st (fun _ k => XS.aloadN X18.here hx rfl (hb hby d1_14) rfl rfl k) ?_
          show own_G p.tables e below _ (T18.setTop (mkF m 15 #[.val (.int q1), .val (.ref ball), .val (.int (5 : Int32)), .val (.int (4 : Int32)), .val (.ref v3)] [(.ref ball)]))
          refine own_st (fun _ k => XS.iloadN X18.here hx rfl (hb hby d1_15) rfl k) ?_
          show own_G p.tables e below _ (T18.setTop (mkF m 16 #[.val (.int q1), .val (.ref ball), .val (.int (5 : Int32)), .val (.int (4 : Int32)), .val (.ref v3)] [(.int (4 : Int32)), (.ref ball)]))
          obtain ⟨cl20, Ar20, q20, S20, Nn20, H20, G20⟩ := V17
          have hin20 : ¬ ((4 : Int32) < 0 ∨ cl20.slots.size ≤ ((4 : Int32)).toNatClampNeg) := inb_of S20 ⟨by decide, by decide⟩
          refine own_st (fun _ k => X18.aaload hx (j := (4 : Int32)) (v := (.ref v4)) (by rw [e18]; exact Ar20.1) (State.isArrayOf_alike hZ.alike Ar20.2.1) rfl Ar20.2.2 hin20 (Has.at H20 hin20 rfl) (g := (mkF m 16 #[.val (.int q1), .val (.ref ball), .val (.int (5 : Int32)), .val (.int (4 : Int32)), .val (.ref v3)] [(.int (4 : Int32)), (.ref ball)])) rfl rfl (hb hby d1_16) _ k) ?_
          show own_G p.tables e below _ (T18.setTop (mkF m 17 #[.val (.int q1), .val (.ref ball), .val (.int (5 : Int32)), .val (.int (4 : Int32)), .val (.ref v3)] [(.ref v4)]))
          have V21 : Arv Z h0 ball kall (.object "com/example/rendezvous/rendezvous/server/PeerMessages$Kind") (5 : Int32) [(.ref v0), (.ref v1), (.ref v2), (.ref v3), (.ref v4)] .null := ⟨cl20, Ar20, q20, S20, Nn20, H20, G20⟩
          refine own_st (fun _ k => XS.astore X18.here hx rfl (hb hby d1_17) rfl rfl (l' := #[.val (.int q1), .val (.ref ball), .val (.int (5 : Int32)), .val (.int (4 : Int32)), .val (.ref v4)]) rfl k) ?_
          show own_G p.tables e below _ (T18.setTop (mkF m 19 #[.val (.int q1), .val (.ref ball), .val (.int (5 : Int32)), .val (.int (4 : Int32)), .val (.ref v4)] []))
          refine own_st (fun _ k => XS.aload X18.here hx rfl (hb hby d1_19) rfl rfl k) ?_
          show own_G p.tables e below _ (T18.setTop (mkF m 21 #[.val (.int q1), .val (.ref ball), .val (.int (5 : Int32)), .val (.int (4 : Int32)), .val (.ref v4)] [(.ref v4)]))
          obtain ⟨T22, X22, e22, st22⟩ := getF X18 hx hZ hown (host := "") (Or.inl (hw _ (List.mem_of_getElem? (i := 7) rfl))) Via.refl e18 Fh4 (g := (mkF m 21 #[.val (.int q1), .val (.ref ball), .val (.int (5 : Int32)), .val (.int (4 : Int32)), .val (.ref v4)] [(.ref v4)])) rfl rfl (hb hby d1_21)
          refine own_st st22 ?_
          show own_G p.tables e below _ (T22.setTop (mkF m 24 #[.val (.int q1), .val (.ref ball), .val (.int (5 : Int32)), .val (.int (4 : Int32)), .val (.ref v4)] [(.int (68 : Int32))]))
          refine own_st (fun _ k => XS.iloadN X22.here hx rfl (hb hby d1_24) rfl k) ?_
          show own_G p.tables e below _ (T22.setTop (mkF m 25 #[.val (.int q1), .val (.ref ball), .val (.int (5 : Int32)), .val (.int (4 : Int32)), .val (.ref v4)] [(.int q1), (.int (68 : Int32))]))
          by_cases hc25_23 : (68 : Int32) = q1
          · refine own_st (fun _ k => XS.icmpNo X22.here hx rfl (hb hby d1_25) rfl (teq hc25_23).2 k) ?_
            show own_G p.tables e below _ (T22.setTop (mkF m 28 #[.val (.int q1), .val (.ref ball), .val (.int (5 : Int32)), .val (.int (4 : Int32)), .val (.ref v4)] []))
            refine own_st (fun _ k => XS.aload X22.here hx rfl (hb hby d1_28) rfl rfl k) ?_
            show own_G p.tables e below _ (T22.setTop (mkF m 30 #[.val (.int q1), .val (.ref ball), .val (.int (5 : Int32)), .val (.int (4 : Int32)), .val (.ref v4)] [(.ref v4)]))
            exact own_retR X22 hx hlk Bd.returns (by rfl) (by rfl) (by rfl) (hb hby d1_30) (by rw [e22]; exact ⟨(by have hq := hc25_23; subst hq; simp [own_kind]), N0, rfl⟩) (by decide) (by decide)
          · refine own_st (fun _ k => XS.icmpYes X22.here hx rfl (pc0 := 25) (pc' := 31) rfl (hb hby d1_25) rfl (feq hc25_23).2 (by decide) (by decide) k) ?_
            show own_G p.tables e below _ (T22.setTop (mkF m 31 #[.val (.int q1), .val (.ref ball), .val (.int (5 : Int32)), .val (.int (4 : Int32)), .val (.ref v4)] []))
            refine own_st (fun _ k => XS.iinc X22.here hx rfl (hb hby d1_31) rfl (l' := #[.val (.int q1), .val (.ref ball), .val (.int (5 : Int32)), .val (.int (5 : Int32)), .val (.ref v4)]) rfl k) ?_
            show own_G p.tables e below _ (T22.setTop (mkF m 34 #[.val (.int q1), .val (.ref ball), .val (.int (5 : Int32)), .val (.int (5 : Int32)), .val (.ref v4)] []))
            refine own_st (fun _ k => XS.goto X22.here hx rfl (pc0 := 34) (pc' := 9) rfl (hb hby d1_34) (by decide) (by decide) k) ?_
            show own_G p.tables e below _ (T22.setTop (mkF m 9 #[.val (.int q1), .val (.ref ball), .val (.int (5 : Int32)), .val (.int (5 : Int32)), .val (.ref v4)] []))
            refine own_st (fun _ k => XS.iloadN X22.here hx rfl (hb hby d1_9) rfl k) ?_
            show own_G p.tables e below _ (T22.setTop (mkF m 10 #[.val (.int q1), .val (.ref ball), .val (.int (5 : Int32)), .val (.int (5 : Int32)), .val (.ref v4)] [(.int (5 : Int32))]))
            refine own_st (fun _ k => XS.iloadN X22.here hx rfl (hb hby d1_10) rfl k) ?_
            show own_G p.tables e below _ (T22.setTop (mkF m 11 #[.val (.int q1), .val (.ref ball), .val (.int (5 : Int32)), .val (.int (5 : Int32)), .val (.ref v4)] [(.int (5 : Int32)), (.int (5 : Int32))]))
            refine own_st (fun _ k => XS.icmpYes X22.here hx rfl (pc0 := 11) (pc' := 37) rfl (hb hby d1_11) rfl (by decide) (by decide) (by decide) k) ?_
            show own_G p.tables e below _ (T22.setTop (mkF m 37 #[.val (.int q1), .val (.ref ball), .val (.int (5 : Int32)), .val (.int (5 : Int32)), .val (.ref v4)] []))
            refine own_st (fun _ k => XS.aconstNull X22.here hx rfl (hb hby d1_37) k) ?_
            show own_G p.tables e below _ (T22.setTop (mkF m 38 #[.val (.int q1), .val (.ref ball), .val (.int (5 : Int32)), .val (.int (5 : Int32)), .val (.ref v4)] [.null]))
            exact own_retR X22 hx hlk Bd.returns (by rfl) (by rfl) (by rfl) (hb hby d1_38) (by rw [e22]; exact ⟨(by simp [own_kind, hc25_7, Ne.symm hc25_7, hc25_11, Ne.symm hc25_11, hc25_15, Ne.symm hc25_15, hc25_19, Ne.symm hc25_19, hc25_23, Ne.symm hc25_23]), N0, rfl⟩) (by decide) (by decide)
def Q2 (Z : State) (q1 : Int32) (v0 : Addr) (v1 : Addr) (v2 : Addr) (v3 : Addr) (v4 : Addr) (h0 : Heap) (n0 : Nat) (v : Option Value) (h : Heap) (L : List Loc) : Prop := v = some (own_kind v0 v1 v2 v3 v4 q1) ∧ Fr n0 L ∧ h = h0
set_option maxRecDepth 65536 in
set_option maxHeartbeats 40000000 in
theorem rm2 (l : Launch) (Z : State) (a0 : Array Value) (hw : ∀ d ∈ tables_1, d.before a0 Z = true) (ws : List Jvm.Cond) (q1 : Int32) (v0 : Addr) (v1 : Addr) (v2 : Addr) (v3 : Addr) (v4 : Addr) (h0 : Heap) (n0 : Nat) (Z0 : n0 ≤ h0.size) (O0 : Old Z n0 h0) (S_VOTE : Sta Z Z.heap "com/example/rendezvous/rendezvous/server/PeerMessages$Kind" "VOTE" "Lcom/example/rendezvous/rendezvous/server/PeerMessages$Kind;" (.ref v0)) (S_APPEND : Sta Z Z.heap "com/example/rendezvous/rendezvous/server/PeerMessages$Kind" "APPEND" "Lcom/example/rendezvous/rendezvous/server/PeerMessages$Kind;" (.ref v1)) (S_TREE : Sta Z Z.heap "com/example/rendezvous/rendezvous/server/PeerMessages$Kind" "TREE" "Lcom/example/rendezvous/rendezvous/server/PeerMessages$Kind;" (.ref v2)) (S_PRE_VOTE : Sta Z Z.heap "com/example/rendezvous/rendezvous/server/PeerMessages$Kind" "PRE_VOTE" "Lcom/example/rendezvous/rendezvous/server/PeerMessages$Kind;" (.ref v3)) (S_HAND_OVER : Sta Z Z.heap "com/example/rendezvous/rendezvous/server/PeerMessages$Kind" "HAND_OVER" "Lcom/example/rendezvous/rendezvous/server/PeerMessages$Kind;" (.ref v4)) :
    MetFree l (⟨"com/example/rendezvous/rendezvous/server/KindOfPinLaw", "expected", "(I)Lcom/example/rendezvous/rendezvous/server/PeerMessages$Kind;"⟩ : MethodName) (head1 (Jvm.Cond.code (⟨"com/example/rendezvous/rendezvous/server/KindOfPinLaw", "expected", "(I)Lcom/example/rendezvous/rendezvous/server/PeerMessages$Kind;"⟩ : MethodName) method_3_code 1 (some (.object "com/example/rendezvous/rendezvous/server/PeerMessages$Kind")) :: ws) ({ frames := 0, cells := 0, slots := 0, locals := 0 } : Room)) (fun a U => a = #[(.int q1)] ∧ Z.Warmed39 U.vm ∧ U.heap = h0) (fun _ _ _ _ _ => True) (fun _ U o U' => ∃ v L, o = .returned v ∧ Q2 Z q1 v0 v1 v2 v3 v4 h0 n0 v U'.heap L ∧ FrameEnd U o U' L ({ frames := 0, cells := 0, slots := 0, locals := 0 } : Room).cells ({ frames := 0, cells := 0, slots := 0, locals := 0 } : Room).slots) := by
  refine MetFree.of_bodySF (plainFor_of_name pn_2) hisR ?_
  intro p e s m args below meth c s₁ Bd hml0 hP hK
  obtain ⟨rfl, hZ, hh⟩ := hP
  have hx := Bd.exec
  have hby := Bd.bytes
  have hlk := BodyLoose.notSynchronized Bd
  have hml : c.maxLocals = 1 := hml0
  have hown : s.vm.findClass "com/example/rendezvous/rendezvous/server/KindOfPinLaw" = some m.cls := findClass_of_methodNamed Bd.named
  have hnm := (name_of_methodNamed Bd.named Bd.method).1
  have X0 : Stand p l e ({ frames := 0, cells := 0, slots := 0, locals := 0 } : Room) s m #[(.int q1)] below meth c s₁ [] 0 0 := Stand.of_body Bd
  have e0 : s₁.heap = h0 := by rw [← hh, Bd.state]; rfl
  have N0 := Fr.nil n0
  have K0 := Keep.refl h0 []
  show own_G p.tables e below (own_P s (Q2 Z q1 v0 v1 v2 v3 v4 h0 n0) 0 0) (s₁.setTop (entryFrame m #[(.int q1)] 1))
  refine own_st (fun t k => castTop (ef_2 m q1) k) ?_
  show own_G p.tables e below _ (s₁.setTop (mkF m 0 #[.val (.int q1)] []))
  refine own_st (fun _ k => XS.iloadN X0.here hx rfl (hb hby d2_0) rfl k) ?_
  show own_G p.tables e below _ (s₁.setTop (mkF m 1 #[.val (.int q1)] [(.int q1)]))
  refine own_st (fun _ k => XS.bipush X0.here hx rfl (hb hby d2_1) k) ?_
  show own_G p.tables e below _ (s₁.setTop (mkF m 3 #[.val (.int q1)] [(.int (64 : Int32)), (.int q1)]))
  by_cases hc3_1 : q1 = (64 : Int32)
  · refine own_st (fun _ k => XS.icmpNo X0.here hx rfl (hb hby d2_3) rfl (teq hc3_1).2 k) ?_
    show own_G p.tables e below _ (s₁.setTop (mkF m 6 #[.val (.int q1)] []))
    obtain ⟨T2, X2, e2, st2⟩ := getS2 X0 hx hZ hown (host := "") (Or.inl (hw _ (List.mem_of_getElem? (i := 21) rfl))) Via.refl e0 (S_VOTE.ext O0.2) (g := (mkF m 6 #[.val (.int q1)] [])) rfl (hb hby d2_6)
    refine own_st st2 ?_
    show own_G p.tables e below _ (T2.setTop (mkF m 9 #[.val (.int q1)] [(.ref v0)]))
    exact own_retR X2 hx hlk Bd.returns (by rfl) (by rfl) (by rfl) (hb hby d2_9) (by rw [e2]; exact ⟨(by have hq := hc3_1; subst hq; simp [own_kind]), N0, rfl⟩) (by decide) (by decide)
  · refine own_st (fun _ k => XS.icmpYes X0.here hx rfl (pc0 := 3) (pc' := 10) rfl (hb hby d2_3) rfl (feq hc3_1).2 (by decide) (by decide) k) ?_
    show own_G p.tables e below _ (s₁.setTop (mkF m 10 #[.val (.int q1)] []))
    refine own_st (fun _ k => XS.iloadN X0.here hx rfl (hb hby d2_10) rfl k) ?_
    show own_G p.tables e below _ (s₁.setTop (mkF m 11 #[.val (.int q1)] [(.int q1)]))
    refine own_st (fun _ k => XS.bipush X0.here hx rfl (hb hby d2_11) k) ?_
    show own_G p.tables e below _ (s₁.setTop (mkF m 13 #[.val (.int q1)] [(.int (65 : Int32)), (.int q1)]))
    by_cases hc13_3 : q1 = (65 : Int32)
    · refine own_st (fun _ k => XS.icmpNo X0.here hx rfl (hb hby d2_13) rfl (teq hc13_3).2 k) ?_
      show own_G p.tables e below _ (s₁.setTop (mkF m 16 #[.val (.int q1)] []))
      obtain ⟨T4, X4, e4, st4⟩ := getS2 X0 hx hZ hown (host := "") (Or.inl (hw _ (List.mem_of_getElem? (i := 17) rfl))) Via.refl e0 (S_APPEND.ext O0.2) (g := (mkF m 16 #[.val (.int q1)] [])) rfl (hb hby d2_16)
      refine own_st st4 ?_
      show own_G p.tables e below _ (T4.setTop (mkF m 19 #[.val (.int q1)] [(.ref v1)]))
      exact own_retR X4 hx hlk Bd.returns (by rfl) (by rfl) (by rfl) (hb hby d2_19) (by rw [e4]; exact ⟨(by have hq := hc13_3; subst hq; simp [own_kind]), N0, rfl⟩) (by decide) (by decide)
    · refine own_st (fun _ k => XS.icmpYes X0.here hx rfl (pc0 := 13) (pc' := 20) rfl (hb hby d2_13) rfl (feq hc13_3).2 (by decide) (by decide) k) ?_
      show own_G p.tables e below _ (s₁.setTop (mkF m 20 #[.val (.int q1)] []))
      refine own_st (fun _ k => XS.iloadN X0.here hx rfl (hb hby d2_20) rfl k) ?_
      show own_G p.tables e below _ (s₁.setTop (mkF m 21 #[.val (.int q1)] [(.int q1)]))
      refine own_st (fun _ k => XS.bipush X0.here hx rfl (hb hby d2_21) k) ?_
      show own_G p.tables e below _ (s₁.setTop (mkF m 23 #[.val (.int q1)] [(.int (66 : Int32)), (.int q1)]))
      by_cases hc23_5 : q1 = (66 : Int32)
      · refine own_st (fun _ k => XS.icmpNo X0.here hx rfl (hb hby d2_23) rfl (teq hc23_5).2 k) ?_
        show own_G p.tables e below _ (s₁.setTop (mkF m 26 #[.val (.int q1)] []))
        obtain ⟨T6, X6, e6, st6⟩ := getS2 X0 hx hZ hown (host := "") (Or.inl (hw _ (List.mem_of_getElem? (i := 18) rfl))) Via.refl e0 (S_TREE.ext O0.2) (g := (mkF m 26 #[.val (.int q1)] [])) rfl (hb hby d2_26)
        refine own_st st6 ?_
        show own_G p.tables e below _ (T6.setTop (mkF m 29 #[.val (.int q1)] [(.ref v2)]))
        exact own_retR X6 hx hlk Bd.returns (by rfl) (by rfl) (by rfl) (hb hby d2_29) (by rw [e6]; exact ⟨(by have hq := hc23_5; subst hq; simp [own_kind]), N0, rfl⟩) (by decide) (by decide)
      · refine own_st (fun _ k => XS.icmpYes X0.here hx rfl (pc0 := 23) (pc' := 30) rfl (hb hby d2_23) rfl (feq hc23_5).2 (by decide) (by decide) k) ?_
        show own_G p.tables e below _ (s₁.setTop (mkF m 30 #[.val (.int q1)] []))
        refine own_st (fun _ k => XS.iloadN X0.here hx rfl (hb hby d2_30) rfl k) ?_
        show own_G p.tables e below _ (s₁.setTop (mkF m 31 #[.val (.int q1)] [(.int q1)]))
        refine own_st (fun _ k => XS.bipush X0.here hx rfl (hb hby d2_31) k) ?_
        show own_G p.tables e below _ (s₁.setTop (mkF m 33 #[.val (.int q1)] [(.int (67 : Int32)), (.int q1)]))
        by_cases hc33_7 : q1 = (67 : Int32)
        · refine own_st (fun _ k => XS.icmpNo X0.here hx rfl (hb hby d2_33) rfl (teq hc33_7).2 k) ?_
          show own_G p.tables e below _ (s₁.setTop (mkF m 36 #[.val (.int q1)] []))
          obtain ⟨T8, X8, e8, st8⟩ := getS2 X0 hx hZ hown (host := "") (Or.inl (hw _ (List.mem_of_getElem? (i := 19) rfl))) Via.refl e0 (S_PRE_VOTE.ext O0.2) (g := (mkF m 36 #[.val (.int q1)] [])) rfl (hb hby d2_36)
          refine own_st st8 ?_
          show own_G p.tables e below _ (T8.setTop (mkF m 39 #[.val (.int q1)] [(.ref v3)]))
          exact own_retR X8 hx hlk Bd.returns (by rfl) (by rfl) (by rfl) (hb hby d2_39) (by rw [e8]; exact ⟨(by have hq := hc33_7; subst hq; simp [own_kind]), N0, rfl⟩) (by decide) (by decide)
        · refine own_st (fun _ k => XS.icmpYes X0.here hx rfl (pc0 := 33) (pc' := 40) rfl (hb hby d2_33) rfl (feq hc33_7).2 (by decide) (by decide) k) ?_
          show own_G p.tables e below _ (s₁.setTop (mkF m 40 #[.val (.int q1)] []))
          refine own_st (fun _ k => XS.iloadN X0.here hx rfl (hb hby d2_40) rfl k) ?_
          show own_G p.tables e below _ (s₁.setTop (mkF m 41 #[.val (.int q1)] [(.int q1)]))
          refine own_st (fun _ k => XS.bipush X0.here hx rfl (hb hby d2_41) k) ?_
          show own_G p.tables e below _ (s₁.setTop (mkF m 43 #[.val (.int q1)] [(.int (68 : Int32)), (.int q1)]))
          by_cases hc43_9 : q1 = (68 : Int32)
          · refine own_st (fun _ k => XS.icmpNo X0.here hx rfl (hb hby d2_43) rfl (teq hc43_9).2 k) ?_
            show own_G p.tables e below _ (s₁.setTop (mkF m 46 #[.val (.int q1)] []))
            obtain ⟨T10, X10, e10, st10⟩ := getS2 X0 hx hZ hown (host := "") (Or.inl (hw _ (List.mem_of_getElem? (i := 20) rfl))) Via.refl e0 (S_HAND_OVER.ext O0.2) (g := (mkF m 46 #[.val (.int q1)] [])) rfl (hb hby d2_46)
            refine own_st st10 ?_
            show own_G p.tables e below _ (T10.setTop (mkF m 49 #[.val (.int q1)] [(.ref v4)]))
            exact own_retR X10 hx hlk Bd.returns (by rfl) (by rfl) (by rfl) (hb hby d2_49) (by rw [e10]; exact ⟨(by have hq := hc43_9; subst hq; simp [own_kind]), N0, rfl⟩) (by decide) (by decide)
          · refine own_st (fun _ k => XS.icmpYes X0.here hx rfl (pc0 := 43) (pc' := 50) rfl (hb hby d2_43) rfl (feq hc43_9).2 (by decide) (by decide) k) ?_
            show own_G p.tables e below _ (s₁.setTop (mkF m 50 #[.val (.int q1)] []))
            refine own_st (fun _ k => XS.aconstNull X0.here hx rfl (hb hby d2_50) k) ?_
            show own_G p.tables e below _ (s₁.setTop (mkF m 51 #[.val (.int q1)] [.null]))
            exact own_retR X0 hx hlk Bd.returns (by rfl) (by rfl) (by rfl) (hb hby d2_51) (by rw [e0]; exact ⟨(by simp [own_kind, hc3_1, Ne.symm hc3_1, hc13_3, Ne.symm hc13_3, hc23_5, Ne.symm hc23_5, hc33_7, Ne.symm hc33_7, hc43_9, Ne.symm hc43_9]), N0, rfl⟩) (by decide) (by decide)
def Q0 (n0 : Nat) (v : Option Value) (h : Heap) (L : List Loc) : Prop := v = some (.int 1) ∧ Fr n0 L
set_option maxRecDepth 65536 in
set_option maxHeartbeats 40000000 in
theorem rm0 (l : Launch) (Z : State) (a0 : Array Value) (hw : ∀ d ∈ tables_1, d.before a0 Z = true) (ws : List Jvm.Cond) (i0 : Int32) (i1 : Int32) (v0 : Addr) (v1 : Addr) (v2 : Addr) (v3 : Addr) (v4 : Addr) (ball : Addr) (kall : ClassId) (h0 : Heap) (n0 : Nat) (Z0 : n0 ≤ h0.size) (O0 : Old Z n0 h0) (S_VOTE : Sta Z Z.heap "com/example/rendezvous/rendezvous/server/PeerMessages$Kind" "VOTE" "Lcom/example/rendezvous/rendezvous/server/PeerMessages$Kind;" (.ref v0)) (S_APPEND : Sta Z Z.heap "com/example/rendezvous/rendezvous/server/PeerMessages$Kind" "APPEND" "Lcom/example/rendezvous/rendezvous/server/PeerMessages$Kind;" (.ref v1)) (S_TREE : Sta Z Z.heap "com/example/rendezvous/rendezvous/server/PeerMessages$Kind" "TREE" "Lcom/example/rendezvous/rendezvous/server/PeerMessages$Kind;" (.ref v2)) (S_PRE_VOTE : Sta Z Z.heap "com/example/rendezvous/rendezvous/server/PeerMessages$Kind" "PRE_VOTE" "Lcom/example/rendezvous/rendezvous/server/PeerMessages$Kind;" (.ref v3)) (S_HAND_OVER : Sta Z Z.heap "com/example/rendezvous/rendezvous/server/PeerMessages$Kind" "HAND_OVER" "Lcom/example/rendezvous/rendezvous/server/PeerMessages$Kind;" (.ref v4)) (S_ALL : Sta Z Z.heap "com/example/rendezvous/rendezvous/server/PeerMessages$Kind" "ALL" "[Lcom/example/rendezvous/rendezvous/server/PeerMessages$Kind;" (.ref ball)) (V_ball : Arv Z Z.heap ball kall (.object "com/example/rendezvous/rendezvous/server/PeerMessages$Kind") (5 : Int32) [(.ref v0), (.ref v1), (.ref v2), (.ref v3), (.ref v4)] .null) (E_v0 : Exa Z Z.heap v0 "com/example/rendezvous/rendezvous/server/PeerMessages$Kind") (E_v1 : Exa Z Z.heap v1 "com/example/rendezvous/rendezvous/server/PeerMessages$Kind") (E_v2 : Exa Z Z.heap v2 "com/example/rendezvous/rendezvous/server/PeerMessages$Kind") (E_v3 : Exa Z Z.heap v3 "com/example/rendezvous/rendezvous/server/PeerMessages$Kind") (E_v4 : Exa Z Z.heap v4 "com/example/rendezvous/rendezvous/server/PeerMessages$Kind") (F_v0 : Fld Z Z.heap v0 "com/example/rendezvous/rendezvous/server/PeerMessages$Kind" "code" "I" (.int (64 : Int32))) (F_v1 : Fld Z Z.heap v1 "com/example/rendezvous/rendezvous/server/PeerMessages$Kind" "code" "I" (.int (65 : Int32))) (F_v2 : Fld Z Z.heap v2 "com/example/rendezvous/rendezvous/server/PeerMessages$Kind" "code" "I" (.int (66 : Int32))) (F_v3 : Fld Z Z.heap v3 "com/example/rendezvous/rendezvous/server/PeerMessages$Kind" "code" "I" (.int (67 : Int32))) (F_v4 : Fld Z Z.heap v4 "com/example/rendezvous/rendezvous/server/PeerMessages$Kind" "code" "I" (.int (68 : Int32))) :
    MetFree l x (head1 (Jvm.Cond.code x code maxLocals ret :: ws) room_1) (fun a U => a = #[(.int i0), (.int i1)] ∧ Z.Warmed39 U.vm ∧ U.heap = h0) (fun _ _ _ _ _ => True) (fun _ U o U' => ∃ v L, o = .returned v ∧ Q0 n0 v U'.heap L ∧ FrameEnd U o U' L 0 0) := by
  refine MetFree.of_bodySF (plainFor_of_name pn_0) hisR ?_
  intro p e s m args below meth c s₁ Bd hml0 hP hK
  obtain ⟨rfl, hZ, hh⟩ := hP
  have hx := Bd.exec
  have hby := Bd.bytes
  have hlk := BodyLoose.notSynchronized Bd
  have hml : c.maxLocals = 5 := hml0
  have hown : s.vm.findClass "com/example/rendezvous/rendezvous/server/KindOfPinLaw" = some m.cls := findClass_of_methodNamed Bd.named
  have hnm := (name_of_methodNamed Bd.named Bd.method).1
  have X0 : Stand p l e room_1 s m #[(.int i0), (.int i1)] below meth c s₁ [] 0 0 := Stand.of_body Bd
  have e0 : s₁.heap = h0 := by rw [← hh, Bd.state]; rfl
  have N0 := Fr.nil n0
  have K0 := Keep.refl h0 []
  show own_G p.tables e below (own_P s (Q0 n0) 0 0) (s₁.setTop (entryFrame m #[(.int i0), (.int i1)] maxLocals))
  refine own_st (fun t k => castTop (ef_0 m i0 i1) k) ?_
  show own_G p.tables e below _ (s₁.setTop (mkF m 0 #[.val (.int i0), .val (.int i1), .unset, .unset, .unset] []))
  refine own_st (fun _ k => XS.bipush X0.here hx rfl (hb hby at_0) k) ?_
  show own_G p.tables e below _ (s₁.setTop (mkF m 2 #[.val (.int i0), .val (.int i1), .unset, .unset, .unset] [(.int (62 : Int32))]))
  refine own_st (fun _ k => XS.iloadN X0.here hx rfl (hb hby at_2) rfl k) ?_
  show own_G p.tables e below _ (s₁.setTop (mkF m 3 #[.val (.int i0), .val (.int i1), .unset, .unset, .unset] [(.int i1), (.int (62 : Int32))]))
  refine own_st (fun _ k => XS.bipush X0.here hx rfl (hb hby at_3) k) ?_
  show own_G p.tables e below _ (s₁.setTop (mkF m 5 #[.val (.int i0), .val (.int i1), .unset, .unset, .unset] [(.int (7 : Int32)), (.int i1), (.int (62 : Int32))]))
  refine own_st (fun _ k => XS.iand X0.here hx rfl (hb hby at_5) rfl k) ?_
  show own_G p.tables e below _ (s₁.setTop (mkF m 6 #[.val (.int i0), .val (.int i1), .unset, .unset, .unset] [(.int (i1 &&& (7 : Int32))), (.int (62 : Int32))]))
  refine own_st (fun _ k => XS.iadd X0.here hx rfl (hb hby at_6) rfl k) ?_
  show own_G p.tables e below _ (s₁.setTop (mkF m 7 #[.val (.int i0), .val (.int i1), .unset, .unset, .unset] [(.int ((62 : Int32) + (i1 &&& (7 : Int32))))]))
  refine own_st (fun _ k => XS.istoreN X0.here hx rfl (hb hby at_7) rfl (l' := #[.val (.int i0), .val (.int i1), .val (.int ((62 : Int32) + (i1 &&& (7 : Int32)))), .unset, .unset]) rfl k) ?_
  show own_G p.tables e below _ (s₁.setTop (mkF m 8 #[.val (.int i0), .val (.int i1), .val (.int ((62 : Int32) + (i1 &&& (7 : Int32)))), .unset, .unset] []))
  refine own_st (fun _ k => XS.iloadN X0.here hx rfl (hb hby at_8) rfl k) ?_
  show own_G p.tables e below _ (s₁.setTop (mkF m 9 #[.val (.int i0), .val (.int i1), .val (.int ((62 : Int32) + (i1 &&& (7 : Int32)))), .unset, .unset] [(.int i0)]))
  obtain ⟨_, _, ⟨T1, L1, k1, n1⟩, -, X1, ⟨Lc1, hQ1, l1, y1, z1⟩, st1⟩ := Jvm.LawKit.callS X0 hx (y := (⟨"com/example/rendezvous/rendezvous/server/PeerMessages$Kind", "of", "(I)Lcom/example/rendezvous/rendezvous/server/PeerMessages$Kind;"⟩ : MethodName)) hown (mvT hZ (hw _ (List.mem_of_getElem? (i := 0) rfl))) (mvT hZ (hw _ (List.mem_of_getElem? (i := 1) rfl))) (mvT hZ (hw _ (List.mem_of_getElem? (i := 2) rfl))) (mvT hZ (hw _ (List.mem_of_getElem? (i := 3) rfl))) (by decide) (backOf (W := 0) (rm1 l Z a0 hw [] i0 v0 v1 v2 v3 v4 ball kall h0 n0 Z0 O0 S_ALL V_ball E_v0 E_v1 E_v2 E_v3 E_v4 F_v0 F_v1 F_v2 F_v3 F_v4) hZ (hw _ (List.mem_of_getElem? (i := 3) rfl)) (hw _ (List.mem_of_getElem? (i := 2) rfl)) (by decide) (by decide)) (g := (mkF m 9 #[.val (.int i0), .val (.int i1), .val (.int ((62 : Int32) + (i1 &&& (7 : Int32)))), .unset, .unset] [(.int i0)])) rfl (by rw [hml]; rfl) (argsL := [(.int i0)]) (rest := []) (lenOf pd_0 rfl) rfl (by show 2 * 0 + _ ≤ _; exact Nat.le_of_eq rfl) (hb hby at_9) (fun _ _ => ⟨rfl, e0, (by decide : 0 + 0 ≤ _), (by decide : 0 + 0 ≤ _)⟩)
  dsimp only [Pt.U, Pt.locs, Pt.cells, Pt.slots] at X1 l1 y1 z1 st1 hQ1
  subst l1 y1 z1
  obtain ⟨rfl, N1q, e1⟩ := hQ1
  have N1 := Fr.app N0 N1q
  refine own_st st1 ?_
  show own_G p.tables e below _ (T1.setTop (mkF m 12 #[.val (.int i0), .val (.int i1), .val (.int ((62 : Int32) + (i1 &&& (7 : Int32)))), .unset, .unset] [(own_kind v0 v1 v2 v3 v4 i0)]))
  refine own_st (fun _ k => XS.iloadN X1.here hx rfl (hb hby at_12) rfl k) ?_
  show own_G p.tables e below _ (T1.setTop (mkF m 13 #[.val (.int i0), .val (.int i1), .val (.int ((62 : Int32) + (i1 &&& (7 : Int32)))), .unset, .unset] [(.int i0), (own_kind v0 v1 v2 v3 v4 i0)]))
  obtain ⟨_, _, ⟨T2, L2, k2, n2⟩, -, X2, ⟨Lc2, hQ2, l2, y2, z2⟩, st2⟩ := Jvm.LawKit.callS X1 hx (y := (⟨"com/example/rendezvous/rendezvous/server/KindOfPinLaw", "expected", "(I)Lcom/example/rendezvous/rendezvous/server/PeerMessages$Kind;"⟩ : MethodName)) hown (mvT hZ (hw _ (List.mem_of_getElem? (i := 13) rfl))) (mvT hZ (hw _ (List.mem_of_getElem? (i := 14) rfl))) (mvT hZ (hw _ (List.mem_of_getElem? (i := 15) rfl))) (mvT hZ (hw _ (List.mem_of_getElem? (i := 16) rfl))) (by decide) (backOf (W := 1) (rm2 l Z a0 hw [] i0 v0 v1 v2 v3 v4 h0 n0 Z0 O0 S_VOTE S_APPEND S_TREE S_PRE_VOTE S_HAND_OVER) hZ (hw _ (List.mem_of_getElem? (i := 16) rfl)) (hw _ (List.mem_of_getElem? (i := 15) rfl)) (by decide) (by decide)) (g := (mkF m 13 #[.val (.int i0), .val (.int i1), .val (.int ((62 : Int32) + (i1 &&& (7 : Int32)))), .unset, .unset] [(.int i0), (own_kind v0 v1 v2 v3 v4 i0)])) rfl (by rw [hml]; rfl) (argsL := [(.int i0)]) (rest := [(own_kind v0 v1 v2 v3 v4 i0)]) (lenOf pd_0 rfl) rfl (by show 2 * 0 + _ ≤ _; exact own_kw _ _ _ _ _ _) (hb hby at_13) (fun _ _ => ⟨rfl, e1, (by decide : 0 + 0 ≤ _), (by decide : 0 + 0 ≤ _)⟩)
  dsimp only [Pt.U, Pt.locs, Pt.cells, Pt.slots] at X2 l2 y2 z2 st2 hQ2
  subst l2 y2 z2
  obtain ⟨rfl, N2q, e2⟩ := hQ2
  have N2 := Fr.app N1 N2q
  refine own_st st2 ?_
  show own_G p.tables e below _ (T2.setTop (mkF m 16 #[.val (.int i0), .val (.int i1), .val (.int ((62 : Int32) + (i1 &&& (7 : Int32)))), .unset, .unset] [(own_kind v0 v1 v2 v3 v4 i0), (own_kind v0 v1 v2 v3 v4 i0)]))
  refine own_st (fun _ k => Jvm.RoadKit.acmp (g := (mkF m 16 #[.val (.int i0), .val (.int i1), .val (.int ((62 : Int32) + (i1 &&& (7 : Int32)))), .unset, .unset] [(own_kind v0 v1 v2 v3 v4 i0), (own_kind v0 v1 v2 v3 v4 i0)])) X2 hx rfl (own_kref _ _ _ _ _ _) (own_kref _ _ _ _ _ _) (pc0 := 16) (pc' := 19) (same := true) rfl (hb hby at_16) rfl (decide_eq_true rfl) (by decide) (by decide) k) ?_
  show own_G p.tables e below _ (T2.setTop (mkF m 19 #[.val (.int i0), .val (.int i1), .val (.int ((62 : Int32) + (i1 &&& (7 : Int32)))), .unset, .unset] []))
  refine own_st (fun _ k => XS.iconst X2.here hx rfl (hb hby at_19) k) ?_
  show own_G p.tables e below _ (T2.setTop (mkF m 20 #[.val (.int i0), .val (.int i1), .val (.int ((62 : Int32) + (i1 &&& (7 : Int32)))), .unset, .unset] [(.int (1 : Int32))]))
  refine own_st (fun _ k => XS.goto X2.here hx rfl (pc0 := 20) (pc' := 24) rfl (hb hby at_20) (by decide) (by decide) k) ?_
  show own_G p.tables e below _ (T2.setTop (mkF m 24 #[.val (.int i0), .val (.int i1), .val (.int ((62 : Int32) + (i1 &&& (7 : Int32)))), .unset, .unset] [(.int (1 : Int32))]))
  refine own_st (fun _ k => XS.istoreN X2.here hx rfl (hb hby at_24) rfl (l' := #[.val (.int i0), .val (.int i1), .val (.int ((62 : Int32) + (i1 &&& (7 : Int32)))), .val (.int (1 : Int32)), .unset]) rfl k) ?_
  show own_G p.tables e below _ (T2.setTop (mkF m 25 #[.val (.int i0), .val (.int i1), .val (.int ((62 : Int32) + (i1 &&& (7 : Int32)))), .val (.int (1 : Int32)), .unset] []))
  refine own_st (fun _ k => XS.iloadN X2.here hx rfl (hb hby at_25) rfl k) ?_
  show own_G p.tables e below _ (T2.setTop (mkF m 26 #[.val (.int i0), .val (.int i1), .val (.int ((62 : Int32) + (i1 &&& (7 : Int32)))), .val (.int (1 : Int32)), .unset] [(.int ((62 : Int32) + (i1 &&& (7 : Int32))))]))
  obtain ⟨_, _, ⟨T3, L3, k3, n3⟩, -, X3, ⟨Lc3, hQ3, l3, y3, z3⟩, st3⟩ := Jvm.LawKit.callS X2 hx (y := (⟨"com/example/rendezvous/rendezvous/server/PeerMessages$Kind", "of", "(I)Lcom/example/rendezvous/rendezvous/server/PeerMessages$Kind;"⟩ : MethodName)) hown (mvT hZ (hw _ (List.mem_of_getElem? (i := 0) rfl))) (mvT hZ (hw _ (List.mem_of_getElem? (i := 1) rfl))) (mvT hZ (hw _ (List.mem_of_getElem? (i := 2) rfl))) (mvT hZ (hw _ (List.mem_of_getElem? (i := 3) rfl))) (by decide) (backOf (W := 0) (rm1 l Z a0 hw [] ((62 : Int32) + (i1 &&& (7 : Int32))) v0 v1 v2 v3 v4 ball kall h0 n0 Z0 O0 S_ALL V_ball E_v0 E_v1 E_v2 E_v3 E_v4 F_v0 F_v1 F_v2 F_v3 F_v4) hZ (hw _ (List.mem_of_getElem? (i := 3) rfl)) (hw _ (List.mem_of_getElem? (i := 2) rfl)) (by decide) (by decide)) (g := (mkF m 26 #[.val (.int i0), .val (.int i1), .val (.int ((62 : Int32) + (i1 &&& (7 : Int32)))), .val (.int (1 : Int32)), .unset] [(.int ((62 : Int32) + (i1 &&& (7 : Int32))))])) rfl (by rw [hml]; rfl) (argsL := [(.int ((62 : Int32) + (i1 &&& (7 : Int32))))]) (rest := []) (lenOf pd_0 rfl) rfl (by show 2 * 0 + _ ≤ _; exact Nat.le_of_eq rfl) (hb hby at_26) (fun _ _ => ⟨rfl, e2, (by decide : 0 + 0 ≤ _), (by decide : 0 + 0 ≤ _)⟩)
  dsimp only [Pt.U, Pt.locs, Pt.cells, Pt.slots] at X3 l3 y3 z3 st3 hQ3
  subst l3 y3 z3
  obtain ⟨rfl, N3q, e3⟩ := hQ3
  have N3 := Fr.app N2 N3q
  refine own_st st3 ?_
  show own_G p.tables e below _ (T3.setTop (mkF m 29 #[.val (.int i0), .val (.int i1), .val (.int ((62 : Int32) + (i1 &&& (7 : Int32)))), .val (.int (1 : Int32)), .unset] [(own_kind v0 v1 v2 v3 v4 ((62 : Int32) + (i1 &&& (7 : Int32))))]))
  refine own_st (fun _ k => XS.iloadN X3.here hx rfl (hb hby at_29) rfl k) ?_
  show own_G p.tables e below _ (T3.setTop (mkF m 30 #[.val (.int i0), .val (.int i1), .val (.int ((62 : Int32) + (i1 &&& (7 : Int32)))), .val (.int (1 : Int32)), .unset] [(.int ((62 : Int32) + (i1 &&& (7 : Int32)))), (own_kind v0 v1 v2 v3 v4 ((62 : Int32) + (i1 &&& (7 : Int32))))]))
  obtain ⟨_, _, ⟨T4, L4, k4, n4⟩, -, X4, ⟨Lc4, hQ4, l4, y4, z4⟩, st4⟩ := Jvm.LawKit.callS X3 hx (y := (⟨"com/example/rendezvous/rendezvous/server/KindOfPinLaw", "expected", "(I)Lcom/example/rendezvous/rendezvous/server/PeerMessages$Kind;"⟩ : MethodName)) hown (mvT hZ (hw _ (List.mem_of_getElem? (i := 13) rfl))) (mvT hZ (hw _ (List.mem_of_getElem? (i := 14) rfl))) (mvT hZ (hw _ (List.mem_of_getElem? (i := 15) rfl))) (mvT hZ (hw _ (List.mem_of_getElem? (i := 16) rfl))) (by decide) (backOf (W := 1) (rm2 l Z a0 hw [] ((62 : Int32) + (i1 &&& (7 : Int32))) v0 v1 v2 v3 v4 h0 n0 Z0 O0 S_VOTE S_APPEND S_TREE S_PRE_VOTE S_HAND_OVER) hZ (hw _ (List.mem_of_getElem? (i := 16) rfl)) (hw _ (List.mem_of_getElem? (i := 15) rfl)) (by decide) (by decide)) (g := (mkF m 30 #[.val (.int i0), .val (.int i1), .val (.int ((62 : Int32) + (i1 &&& (7 : Int32)))), .val (.int (1 : Int32)), .unset] [(.int ((62 : Int32) + (i1 &&& (7 : Int32)))), (own_kind v0 v1 v2 v3 v4 ((62 : Int32) + (i1 &&& (7 : Int32))))])) rfl (by rw [hml]; rfl) (argsL := [(.int ((62 : Int32) + (i1 &&& (7 : Int32))))]) (rest := [(own_kind v0 v1 v2 v3 v4 ((62 : Int32) + (i1 &&& (7 : Int32))))]) (lenOf pd_0 rfl) rfl (by show 2 * 0 + _ ≤ _; exact own_kw _ _ _ _ _ _) (hb hby at_30) (fun _ _ => ⟨rfl, e3, (by decide : 0 + 0 ≤ _), (by decide : 0 + 0 ≤ _)⟩)
  dsimp only [Pt.U, Pt.locs, Pt.cells, Pt.slots] at X4 l4 y4 z4 st4 hQ4
  subst l4 y4 z4
  obtain ⟨rfl, N4q, e4⟩ := hQ4
  have N4 := Fr.app N3 N4q
  refine own_st st4 ?_
  show own_G p.tables e below _ (T4.setTop (mkF m 33 #[.val (.int i0), .val (.int i1), .val (.int ((62 : Int32) + (i1 &&& (7 : Int32)))), .val (.int (1 : Int32)), .unset] [(own_kind v0 v1 v2 v3 v4 ((62 : Int32) + (i1 &&& (7 : Int32)))), (own_kind v0 v1 v2 v3 v4 ((62 : Int32) + (i1 &&& (7 : Int32))))]))
  refine own_st (fun _ k => Jvm.RoadKit.acmp (g := (mkF m 33 #[.val (.int i0), .val (.int i1), .val (.int ((62 : Int32) + (i1 &&& (7 : Int32)))), .val (.int (1 : Int32)), .unset] [(own_kind v0 v1 v2 v3 v4 ((62 : Int32) + (i1 &&& (7 : Int32)))), (own_kind v0 v1 v2 v3 v4 ((62 : Int32) + (i1 &&& (7 : Int32))))])) X4 hx rfl (own_kref _ _ _ _ _ _) (own_kref _ _ _ _ _ _) (pc0 := 33) (pc' := 36) (same := true) rfl (hb hby at_33) rfl (decide_eq_true rfl) (by decide) (by decide) k) ?_
  show own_G p.tables e below _ (T4.setTop (mkF m 36 #[.val (.int i0), .val (.int i1), .val (.int ((62 : Int32) + (i1 &&& (7 : Int32)))), .val (.int (1 : Int32)), .unset] []))
  refine own_st (fun _ k => XS.iconst X4.here hx rfl (hb hby at_36) k) ?_
  show own_G p.tables e below _ (T4.setTop (mkF m 37 #[.val (.int i0), .val (.int i1), .val (.int ((62 : Int32) + (i1 &&& (7 : Int32)))), .val (.int (1 : Int32)), .unset] [(.int (1 : Int32))]))
  refine own_st (fun _ k => XS.goto X4.here hx rfl (pc0 := 37) (pc' := 41) rfl (hb hby at_37) (by decide) (by decide) k) ?_
  show own_G p.tables e below _ (T4.setTop (mkF m 41 #[.val (.int i0), .val (.int i1), .val (.int ((62 : Int32) + (i1 &&& (7 : Int32)))), .val (.int (1 : Int32)), .unset] [(.int (1 : Int32))]))
  refine own_st (fun _ k => XS.istore X4.here hx rfl (hb hby at_41) rfl (l' := #[.val (.int i0), .val (.int i1), .val (.int ((62 : Int32) + (i1 &&& (7 : Int32)))), .val (.int (1 : Int32)), .val (.int (1 : Int32))]) rfl k) ?_
  show own_G p.tables e below _ (T4.setTop (mkF m 43 #[.val (.int i0), .val (.int i1), .val (.int ((62 : Int32) + (i1 &&& (7 : Int32)))), .val (.int (1 : Int32)), .val (.int (1 : Int32))] []))
  refine own_st (fun _ k => XS.iloadN X4.here hx rfl (hb hby at_43) rfl k) ?_
  show own_G p.tables e below _ (T4.setTop (mkF m 44 #[.val (.int i0), .val (.int i1), .val (.int ((62 : Int32) + (i1 &&& (7 : Int32)))), .val (.int (1 : Int32)), .val (.int (1 : Int32))] [(.int (1 : Int32))]))
  refine own_st (fun _ k => XS.ifNo X4.here hx rfl (hb hby at_44) rfl (by decide) k) ?_
  show own_G p.tables e below _ (T4.setTop (mkF m 47 #[.val (.int i0), .val (.int i1), .val (.int ((62 : Int32) + (i1 &&& (7 : Int32)))), .val (.int (1 : Int32)), .val (.int (1 : Int32))] []))
  refine own_st (fun _ k => XS.iload X4.here hx rfl (hb hby at_47) rfl k) ?_
  show own_G p.tables e below _ (T4.setTop (mkF m 49 #[.val (.int i0), .val (.int i1), .val (.int ((62 : Int32) + (i1 &&& (7 : Int32)))), .val (.int (1 : Int32)), .val (.int (1 : Int32))] [(.int (1 : Int32))]))
  refine own_st (fun _ k => XS.ifNo X4.here hx rfl (hb hby at_49) rfl (by decide) k) ?_
  show own_G p.tables e below _ (T4.setTop (mkF m 52 #[.val (.int i0), .val (.int i1), .val (.int ((62 : Int32) + (i1 &&& (7 : Int32)))), .val (.int (1 : Int32)), .val (.int (1 : Int32))] []))
  refine own_st (fun _ k => XS.iconst X4.here hx rfl (hb hby at_52) k) ?_
  show own_G p.tables e below _ (T4.setTop (mkF m 53 #[.val (.int i0), .val (.int i1), .val (.int ((62 : Int32) + (i1 &&& (7 : Int32)))), .val (.int (1 : Int32)), .val (.int (1 : Int32))] [(.int (1 : Int32))]))
  refine own_st (fun _ k => XS.goto X4.here hx rfl (pc0 := 53) (pc' := 57) rfl (hb hby at_53) (by decide) (by decide) k) ?_
  show own_G p.tables e below _ (T4.setTop (mkF m 57 #[.val (.int i0), .val (.int i1), .val (.int ((62 : Int32) + (i1 &&& (7 : Int32)))), .val (.int (1 : Int32)), .val (.int (1 : Int32))] [(.int (1 : Int32))]))
  exact own_retZ X4 hx hlk Bd.returns (hb hby at_57) (by decide) ⟨rfl, N4⟩ (by decide) (by decide)
set_option maxRecDepth 65536 in
set_option maxHeartbeats 40000000 in
theorem comes_1 {Post : Tables → Env → Array Value → State → Outcome → State → Prop} (hpost : ∀ tb e args s v u, (limb_1_1.after args s (.returned v) u = true ∧ limb_1_2.after args s (.returned v) u = true ∧ True) → FrameEnd s (.returned v) u (Jvm.fieldLocs frame_1_writes args s ++ Jvm.arrayLocs frame_1_arrays args s ++ Jvm.staticLocs frame_1_statics s) 0 0 → Post tb e args s (.returned v) u) :
    ArmFor flags0 classFile x code maxLocals ret World_1 tables_1 room_1 Calls_1 rest_1 Pre_1 Post := by
  intro l hfl _ _ p e ha hc hk s m args below hf hA hF happ hP
  obtain ⟨hcalls, hrest, hpre⟩ := hP
  obtain ⟨-, -, -, hnamed, -, -, -, hat⟩ := (Spec.applies_iff hf).mp happ
  obtain ⟨hg, hn⟩ := and_e (Cond.before_iff.mp (show (Jvm.Cond.and given_1 narrow_1).before args s = true from hpre))
  obtain ⟨gc, g0⟩ := and_e hg
  obtain ⟨ga0, g1⟩ := and_e g0
  obtain ⟨w0, w1, rfl⟩ : ∃ w0 w1 : Value, args = #[w0, w1] := by
    have hs : args.size = 2 := by simpa [Cond.value, given_1] using gc
    obtain ⟨L⟩ := args
    match L, hs with
    | [w0, w1], _ => exact ⟨w0, w1, rfl⟩
  have hw := fun d (hd : d ∈ tables_1) => atoms_spec (ws := Jvm.Cond.code x code maxLocals ret :: tables_1) hat d (List.mem_cons_of_mem _ hd)
  have hfit : Fit s := fun {y c} hc i hi => by
    obtain ⟨ha, rfl⟩ := Array.getElem?_eq_some_iff.mp hc
    have q := List.all_eq_true.mp ((Array.all_eq_true_iff_forall_mem.mp hF) _ (Array.getElem_mem ha)) i (List.mem_range.mpr hi)
    simpa [Array.getElem?_eq_getElem hi] using q
  obtain ⟨i0, ei0⟩ := is_v ga0
  obtain rfl : w0 = (.int i0) := Option.some.inj ei0
  obtain ⟨i1, ei1⟩ := is_v g1
  obtain rfl : w1 = (.int i1) := Option.some.inj ei1
  obtain ⟨v0, v1, v2, v3, v4, ball, kall, S_VOTE, S_APPEND, S_TREE, S_PRE_VOTE, S_HAND_OVER, S_ALL, V_ball, E_v0, E_v1, E_v2, E_v3, E_v4, F_v0, F_v1, F_v2, F_v3, F_v4⟩ := own_all hfit hw hn
  obtain ⟨n, o, h1, h2, h3, _, L, rfl, ⟨rfl, N⟩, hq⟩ := rm0 l s _ hw tables_1 i0 i1 v0 v1 v2 v3 v4 ball kall s.heap s.heap.size (Nat.le_refl _) (Old.start s) S_VOTE S_APPEND S_TREE S_PRE_VOTE S_HAND_OVER S_ALL V_ball E_v0 E_v1 E_v2 E_v3 E_v4 F_v0 F_v1 F_v2 F_v3 F_v4 p e ha hc hk s m _ below hf ((Spec.applies_iff_loose hf).mp happ).1 ⟨rfl, State.Warmed39.refl s, rfl⟩ trivial
  refine ⟨n, _, h1, h2, h3, hpost _ _ _ _ _ _ ⟨Cond.after_iff.mpr rfl, Cond.after_iff.mpr (eq_i res_at (Term.int_eval (1)) rfl), trivial⟩ ⟨hq.1, hq.2.1, (hq.2.2.sift fun y hy => Or.inr (N y hy)).mono (by decide) (by decide)⟩⟩
theorem main_1_1 : Claimed_1_1 := comes_1 fun _ _ _ _ _ _ h hF => ⟨h.1, hF⟩
theorem main_1_2 : Claimed_1_2 := comes_1 fun _ _ _ _ _ _ h hF => ⟨h.2.1, hF⟩
end Jvm.Pilot.@@N@@
namespace Jvm.Pilot.@@N@@
open Jvm Jvm.ClassFile Sem Op Lib Jvm.Free Jvm.Stand Jvm.Pilot.@@N@@.Jvm.D
/-! MADE BY PROGRAM (witnessworld.py) out of the Statement's table words and the real class files: 13 classes; the members and pool entries that the words name. The judged class is class 1, her method 1. -/
namespace start1
open Jvm.ClassFile
def u (s : String) : CpInfo := .utf8 (stringToUtf16 s)
/-- a pool by its gaps: so many unusable entries, then the entry; so many at the end -/
def gap : Nat → List CpInfo → List CpInfo
  | 0, r => r
  | n + 1, r => .unusable :: gap n r
def poolList (es : List (Nat × CpInfo)) (last : Nat) : List CpInfo := es.foldr (fun e r => gap e.1 (e.2 :: r)) (gap last [])
def pool (es : List (Nat × CpInfo)) (last : Nat) : Array CpInfo := ⟨poolList es last⟩
def fileOf (pool : Array CpInfo) (this : Nat) (attrs : Array Attribute := #[]) (ms : Array MethodInfo := #[]) (fl : Nat := 33) (sup : Nat := 0) (ifs : Array Nat := #[]) (fds : Array FieldInfo := #[]) : ClassFile where
  minorVersion := 0
  majorVersion := 65
  constantPool := pool
  accessFlags := fl
  thisClass := this
  superClass := sup
  interfaces := ifs
  fields := fds
  methods := ms
  attributes := attrs
def plain (name : String) (sup : Option ClassId) : Class where
  name := name
  kind := .ordinary
  loader := none
  accessFlags := 33
  super := sup
  interfaces := #[]
  cf := none
  fields := #[]
  methods := #[]
  instanceTypes := #[]
  staticTypes := #[]
  resolved := #[]
  callSites := []
  init := .initialized
  statics := none
  mirror := none

def pool0 : Array CpInfo := pool [(5, u "<init>"), (0, u "()V"), (1, .class_ 10), (1, u "java/lang/Object")] 113

def k0m0 : Method := { name := "<init>", desc := "()V", sig := { parameters := [], returnType := none }, accessFlags := 1, code := none }
/-- java/lang/Object -/
def k0 : Class := { plain "java/lang/Object" none with
  accessFlags := 33
  interfaces := #[]
  cf := some (fileOf pool0 8 #[] #[{ accessFlags := 1, nameIndex := 5, descriptorIndex := 6, attributes := #[] }] 33 0 #[] #[])
  fields := #[]
  methods := #[k0m0]
  instanceTypes := #[]
  staticTypes := #[]
  resolved := Array.replicate 124 none
  statics := none }

def pool1 : Array CpInfo := pool [(2, .class_ 4), (1, u "java/lang/Object"), (0, u "<init>"), (0, u "()V"), (0, .methodref 8 9), (0, .class_ 10), (0, .nameAndType 11 12), (0, u "com/example/rendezvous/rendezvous/server/PeerMessages$Kind"), (0, u "of"), (0, u "(I)Lcom/example/rendezvous/rendezvous/server/PeerMessages$Kind;"), (0, .methodref 14 15), (0, .class_ 16), (0, .nameAndType 17 12), (0, u "com/example/rendezvous/rendezvous/server/KindOfPinLaw"), (0, u "expected"), (0, .fieldref 8 19), (0, .nameAndType 20 21), (0, u "VOTE"), (0, u "Lcom/example/rendezvous/rendezvous/server/PeerMessages$Kind;"), (0, .fieldref 8 23), (0, .nameAndType 24 21), (0, u "APPEND"), (0, .fieldref 8 26), (0, .nameAndType 27 21), (0, u "TREE"), (0, .fieldref 8 29), (0, .nameAndType 30 21), (0, u "PRE_VOTE"), (0, .fieldref 8 32), (0, .nameAndType 33 21), (0, u "HAND_OVER"), (2, u "law"), (0, u "(II)Z")] 7

def k1m0 : Method := { name := "<init>", desc := "()V", sig := { parameters := [], returnType := none }, accessFlags := 2, code := none }
def k1c1 : Code := { maxStack := 3, maxLocals := 5, code := code, exceptionTable := #[], attributes := #[] }
def k1m1 : Method := { name := "law", desc := "(II)Z", sig := { parameters := [.int, .int], returnType := some .boolean }, accessFlags := 9, code := some k1c1 }
def k1c2 : Code := { maxStack := 2, maxLocals := 1, code := method_3_code, exceptionTable := #[], attributes := #[] }
def k1m2 : Method := { name := "expected", desc := "(I)Lcom/example/rendezvous/rendezvous/server/PeerMessages$Kind;", sig := { parameters := [.int], returnType := some (.object "com/example/rendezvous/rendezvous/server/PeerMessages$Kind") }, accessFlags := 10, code := some k1c2 }
/-- com/example/rendezvous/rendezvous/server/KindOfPinLaw -/
def k1 : Class := { plain "com/example/rendezvous/rendezvous/server/KindOfPinLaw" (some 0) with
  accessFlags := 49
  interfaces := #[]
  cf := some (fileOf pool1 14 #[] #[{ accessFlags := 2, nameIndex := 5, descriptorIndex := 6, attributes := #[] }, { accessFlags := 9, nameIndex := 36, descriptorIndex := 37, attributes := #[] }, { accessFlags := 10, nameIndex := 17, descriptorIndex := 12, attributes := #[] }] 49 2 #[] #[])
  fields := #[]
  methods := #[k1m0, k1m1, k1m2]
  instanceTypes := #[]
  staticTypes := #[]
  resolved := Array.replicate 45 none
  statics := none }

def pool2 : Array CpInfo := pool [(1, .class_ 2), (0, u "java/lang/constant/Constable"), (0, .class_ 4), (0, u "java/lang/Object")] 6

/-- java/lang/constant/Constable -/
def k2 : Class := { plain "java/lang/constant/Constable" (some 0) with
  accessFlags := 1537
  interfaces := #[]
  cf := some (fileOf pool2 1 #[] #[] 1537 3 #[] #[])
  fields := #[]
  methods := #[]
  instanceTypes := #[]
  staticTypes := #[]
  resolved := Array.replicate 11 none
  statics := none }

def pool3 : Array CpInfo := pool [(1, .class_ 2), (0, u "java/lang/Comparable"), (0, .class_ 4), (0, u "java/lang/Object")] 7

/-- java/lang/Comparable -/
def k3 : Class := { plain "java/lang/Comparable" (some 0) with
  accessFlags := 1537
  interfaces := #[]
  cf := some (fileOf pool3 1 #[] #[] 1537 3 #[] #[])
  fields := #[]
  methods := #[]
  instanceTypes := #[]
  staticTypes := #[]
  resolved := Array.replicate 12 none
  statics := none }

def pool4 : Array CpInfo := pool [(1, .class_ 2), (0, u "java/io/Serializable"), (0, .class_ 4), (0, u "java/lang/Object")] 2

/-- java/io/Serializable -/
def k4 : Class := { plain "java/io/Serializable" (some 0) with
  accessFlags := 1537
  interfaces := #[]
  cf := some (fileOf pool4 1 #[] #[] 1537 3 #[] #[])
  fields := #[]
  methods := #[]
  instanceTypes := #[]
  staticTypes := #[]
  resolved := Array.replicate 7 none
  statics := none }

def pool5 : Array CpInfo := pool [(2, .class_ 4), (1, u "java/lang/Enum"), (0, u "name"), (0, u "Ljava/lang/String;"), (2, u "ordinal"), (0, u "I"), (1, .class_ 14), (1, u "java/lang/Object"), (4, u "hash"), (86, .class_ 108), (1, u "java/lang/Enum$EnumDesc"), (2, .class_ 112), (0, u "java/lang/constant/Constable"), (0, .class_ 114), (0, u "java/lang/Comparable"), (0, .class_ 116), (0, u "java/io/Serializable")] 87

/-- java/lang/Enum -/
def k5 : Class := { plain "java/lang/Enum" (some 0) with
  accessFlags := 1057
  interfaces := #[2, 3, 4]
  cf := some (fileOf pool5 2 #[.nestMembers #[106]] #[] 1057 12 #[111, 113, 115] #[{ accessFlags := 18, nameIndex := 5, descriptorIndex := 6, attributes := #[] }, { accessFlags := 18, nameIndex := 9, descriptorIndex := 10, attributes := #[] }, { accessFlags := 2, nameIndex := 19, descriptorIndex := 10, attributes := #[] }])
  fields := #[{ name := "name", type := (.object "java/lang/String"), accessFlags := 18, slot := 0, constantValue := 0 }, { name := "ordinal", type := .int, accessFlags := 18, slot := 1, constantValue := 0 }, { name := "hash", type := .int, accessFlags := 2, slot := 2, constantValue := 0 }]
  methods := #[]
  instanceTypes := #[(.object "java/lang/String"), .int, .int]
  staticTypes := #[]
  resolved := Array.replicate 204 none
  statics := none }

def pool6 : Array CpInfo := pool [(1, .class_ 2), (0, u "com/example/rendezvous/rendezvous/server/PeerMessages$Kind"), (2, u "VOTE"), (0, u "Lcom/example/rendezvous/rendezvous/server/PeerMessages$Kind;"), (2, u "APPEND"), (2, u "TREE"), (2, u "PRE_VOTE"), (2, u "HAND_OVER"), (2, u "$VALUES"), (0, u "[Lcom/example/rendezvous/rendezvous/server/PeerMessages$Kind;"), (6, .class_ 31), (1, u "java/lang/Enum"), (6, .fieldref 1 39), (0, .nameAndType 40 41), (0, u "code"), (0, u "I"), (2, u "words"), (0, u "Ljava/lang/String;"), (0, .fieldref 1 47), (0, .nameAndType 48 22), (0, u "ALL"), (33, u "of"), (0, u "(I)Lcom/example/rendezvous/rendezvous/server/PeerMessages$Kind;"), (7, .class_ 92), (0, u "com/example/rendezvous/rendezvous/server/PeerMessages")] 2

def k6c0 : Code := { maxStack := 2, maxLocals := 5, code := prog_152_method_6_code, exceptionTable := #[], attributes := #[] }
def k6m0 : Method := { name := "of", desc := "(I)Lcom/example/rendezvous/rendezvous/server/PeerMessages$Kind;", sig := { parameters := [.int], returnType := some (.object "com/example/rendezvous/rendezvous/server/PeerMessages$Kind") }, accessFlags := 8, code := some k6c0 }
/-- com/example/rendezvous/rendezvous/server/PeerMessages$Kind -/
def k6 : Class := { plain "com/example/rendezvous/rendezvous/server/PeerMessages$Kind" (some 5) with
  accessFlags := 16432
  interfaces := #[]
  cf := some (fileOf pool6 1 #[.nestHost 91] #[{ accessFlags := 8, nameIndex := 82, descriptorIndex := 83, attributes := #[] }] 16432 29 #[] #[{ accessFlags := 16409, nameIndex := 5, descriptorIndex := 6, attributes := #[] }, { accessFlags := 16409, nameIndex := 9, descriptorIndex := 6, attributes := #[] }, { accessFlags := 16409, nameIndex := 12, descriptorIndex := 6, attributes := #[] }, { accessFlags := 16409, nameIndex := 15, descriptorIndex := 6, attributes := #[] }, { accessFlags := 16409, nameIndex := 18, descriptorIndex := 6, attributes := #[] }, { accessFlags := 26, nameIndex := 48, descriptorIndex := 22, attributes := #[] }, { accessFlags := 18, nameIndex := 40, descriptorIndex := 41, attributes := #[] }, { accessFlags := 18, nameIndex := 44, descriptorIndex := 45, attributes := #[] }, { accessFlags := 4122, nameIndex := 21, descriptorIndex := 22, attributes := #[] }])
  fields := #[{ name := "VOTE", type := (.object "com/example/rendezvous/rendezvous/server/PeerMessages$Kind"), accessFlags := 16409, slot := 0, constantValue := 0 }, { name := "APPEND", type := (.object "com/example/rendezvous/rendezvous/server/PeerMessages$Kind"), accessFlags := 16409, slot := 1, constantValue := 0 }, { name := "TREE", type := (.object "com/example/rendezvous/rendezvous/server/PeerMessages$Kind"), accessFlags := 16409, slot := 2, constantValue := 0 }, { name := "PRE_VOTE", type := (.object "com/example/rendezvous/rendezvous/server/PeerMessages$Kind"), accessFlags := 16409, slot := 3, constantValue := 0 }, { name := "HAND_OVER", type := (.object "com/example/rendezvous/rendezvous/server/PeerMessages$Kind"), accessFlags := 16409, slot := 4, constantValue := 0 }, { name := "ALL", type := (.array (.object "com/example/rendezvous/rendezvous/server/PeerMessages$Kind")), accessFlags := 26, slot := 5, constantValue := 0 }, { name := "code", type := .int, accessFlags := 18, slot := 3, constantValue := 0 }, { name := "words", type := (.object "java/lang/String"), accessFlags := 18, slot := 4, constantValue := 0 }, { name := "$VALUES", type := (.array (.object "com/example/rendezvous/rendezvous/server/PeerMessages$Kind")), accessFlags := 4122, slot := 6, constantValue := 0 }]
  methods := #[k6m0]
  instanceTypes := #[(.object "java/lang/String"), .int, .int, .int, (.object "java/lang/String")]
  staticTypes := #[(.object "com/example/rendezvous/rendezvous/server/PeerMessages$Kind"), (.object "com/example/rendezvous/rendezvous/server/PeerMessages$Kind"), (.object "com/example/rendezvous/rendezvous/server/PeerMessages$Kind"), (.object "com/example/rendezvous/rendezvous/server/PeerMessages$Kind"), (.object "com/example/rendezvous/rendezvous/server/PeerMessages$Kind"), (.array (.object "com/example/rendezvous/rendezvous/server/PeerMessages$Kind")), (.array (.object "com/example/rendezvous/rendezvous/server/PeerMessages$Kind"))]
  resolved := Array.replicate 95 none
  statics := some 0 }

def pool7 : Array CpInfo := pool [(1, u "java/lang/Cloneable"), (0, .class_ 1), (0, u "java/lang/Object"), (0, .class_ 3)] 3

/-- java/lang/Cloneable -/
def k7 : Class := { plain "java/lang/Cloneable" (some 0) with
  accessFlags := 1537
  interfaces := #[]
  cf := some (fileOf pool7 2 #[] #[] 1537 4 #[] #[])
  fields := #[]
  methods := #[]
  instanceTypes := #[]
  staticTypes := #[]
  resolved := Array.replicate 8 none
  statics := none }

/-- the primitive byte -/
def k8 : Class := { plain "byte" none with kind := .primitive 'B', accessFlags := 0x411 }
/-- [B -/
def k9 : Class := { plain "[B" (some 0) with kind := .array 8 .byte, interfaces := #[7, 4], accessFlags := 1041 }

/-- the primitive int -/
def k10 : Class := { plain "int" none with kind := .primitive 'I', accessFlags := 0x411 }
/-- [I -/
def k11 : Class := { plain "[I" (some 0) with kind := .array 10 .int, interfaces := #[7, 4], accessFlags := 1041 }

/-- [Lcom/example/rendezvous/rendezvous/server/PeerMessages$Kind; -/
def k12 : Class := { plain "[Lcom/example/rendezvous/rendezvous/server/PeerMessages$Kind;" (some 0) with kind := .array 6 (.object "com/example/rendezvous/rendezvous/server/PeerMessages$Kind"), interfaces := #[7, 4], accessFlags := 1041 }

def heap : Heap := #[{ cls := 6, slots := #[.ref 2, .ref 3, .ref 4, .ref 5, .ref 6, .ref 1, .null], vm := .statics 6 },
  { cls := 12, slots := #[.ref 2, .ref 3, .ref 4, .ref 5, .ref 6], vm := .none },
  { cls := 6, slots := #[.null, .int 0, .int 0, .int 64, .null], vm := .none },
  { cls := 6, slots := #[.null, .int 1, .int 0, .int 65, .null], vm := .none },
  { cls := 6, slots := #[.null, .int 2, .int 0, .int 66, .null], vm := .none },
  { cls := 6, slots := #[.null, .int 3, .int 0, .int 67, .null], vm := .none },
  { cls := 6, slots := #[.null, .int 4, .int 0, .int 68, .null], vm := .none }]
def classes : Array Class := #[k0, k1, k2, k3, k4, k5, k6, k7, k8, k9, k10, k11, k12]
def interned : List (Array UInt16 × Addr) := []
def slotsUsed : Nat := 37
def theMethod : MethodId := ⟨1, 1⟩
def args0 : Array Value := #[.int 65, .int 5]
def aboutOver (below : List Frame) : State where
  vm := { classes := classes, interned := interned.toArray }
  heap := heap
  slotsUsed := slotsUsed
  threads := #[{ frames := .invoking theMethod args0 :: below }]
def below0 : List Frame := [.native { method := ⟨0, 0⟩, args := #[] }]
def about1 : State := aboutOver below0
def p0 : Program := .bare "" "" ""
def e0 : Env := launch0.env 0 0 0
theorem w_frames : about1.frames = Frame.invoking theMethod args0 :: below0 := rfl
set_option maxRecDepth 65536 in
theorem w_args : argsFit about1.vm theMethod args0 = true := by decide +kernel
set_option maxRecDepth 65536 in
theorem w_heap : heapFits about1 = true := by decide +kernel
set_option maxRecDepth 65536 in
theorem w_runnable : about1.curStatus? = some .runnable := by decide +kernel
set_option maxRecDepth 65536 in
theorem w_alone : about1.alone = true := by decide +kernel
set_option maxRecDepth 65536 in
theorem w_named : about1.methodNamed? x = some theMethod := by decide +kernel
set_option maxRecDepth 65536 in
theorem w_hears : about1.hears theMethod below0 = true := by decide +kernel
set_option maxRecDepth 65536 in
theorem w_ripe : about1.ripe theMethod args0 below0 = true := by decide +kernel
theorem w_running : about1.status = .running := rfl
set_option maxRecDepth 65536 in
theorem w_room : about1.hasRoom e0.platform room_1 = true :=
  launch0.hasRoom_least _ room_1 (by decide +kernel) (by decide +kernel) (by decide +kernel) (by decide +kernel) (by decide +kernel) (by decide +kernel)
theorem allAtoms_all (ts : List Jvm.Cond) (a : Array Jvm.Value) (st : Jvm.State) : (allAtoms ts).before a st = ts.all (fun c => c.before a st) := by
  induction ts with
  | nil => rfl
  | cons c t ih =>
    show (Jvm.Cond.and c (allAtoms t)).before a st = _
    rw [Jvm.Cond.before_and, ih, List.all_cons]
def words1 : List Jvm.Cond := Jvm.Cond.code x code maxLocals ret :: tables_1
/-- a 'code' word, met by the world's own term for the bytes: nothing is compared byte by byte -/
theorem code_word {y : MethodName} {bytes : ByteArray} {mx : Nat} {rt : Option FieldType} {a : Array Value} {s : State} {m : MethodId} {meth : Method} {c : Code} (h1 : s.methodNamed? y = some m) (h2 : s.vm.method? m = some meth) (h3 : meth.code = some c) (h4 : c.code = bytes)
    (h5 : (c.maxLocals == mx && c.exceptionTable.isEmpty && decide (c.maxStack ≤ mostOperands) && decide (meth.sig.returnType = rt) && !meth.locks && decide (parseMethodDescriptor y.desc = some meth.sig)) = true) : (Jvm.Cond.code y bytes mx rt).before a s = true := by
  simp only [Bool.and_eq_true, beq_iff_eq, Bool.not_eq_true', decide_eq_true_eq] at h5
  obtain ⟨⟨⟨⟨⟨g1, g2⟩, g3⟩, g4⟩, g5⟩, g6⟩ := h5
  simp [Cond.before, Cond.holds, Cond.value, h1, h2, h3, h4, g1, g2, g3, g4, g5, g6]
def isCode : Jvm.Cond → Bool
  | .code _ _ _ _ => true
  | _ => false
theorem all_split {L : List Jvm.Cond} {P : Jvm.Cond → Bool} (h1 : L.all (fun c => isCode c || P c) = true) (h2 : ∀ c ∈ L.filter isCode, P c = true) : L.all P = true := by
  refine List.all_eq_true.mpr fun c hc => ?_
  have h := List.all_eq_true.mp h1 c hc
  rcases Bool.eq_false_or_eq_true (isCode c) with hi | hi
  · exact h2 c (List.mem_filter.mpr ⟨hc, hi⟩)
  · simpa [hi] using h
set_option maxRecDepth 65536 in
theorem w_c0 : (Jvm.Cond.code x code maxLocals ret).before args0 about1 = true := code_word (m := ⟨1, 1⟩) (meth := k1m1) (c := k1c1) (by decide +kernel) rfl rfl rfl (by decide +kernel)
set_option maxRecDepth 65536 in
theorem w_c1 : (Jvm.Cond.code ({ cls := "com/example/rendezvous/rendezvous/server/PeerMessages$Kind", name := "of", desc := "(I)Lcom/example/rendezvous/rendezvous/server/PeerMessages$Kind;" } : Jvm.MethodName) prog_152_method_6_code (5 : Nat) (Option.some (Jvm.ClassFile.FieldType.object "com/example/rendezvous/rendezvous/server/PeerMessages$Kind"))).before args0 about1 = true := code_word (m := ⟨6, 0⟩) (meth := k6m0) (c := k6c0) (by decide +kernel) rfl rfl rfl (by decide +kernel)
set_option maxRecDepth 65536 in
theorem w_c2 : (Jvm.Cond.code ({ cls := "com/example/rendezvous/rendezvous/server/KindOfPinLaw", name := "expected", desc := "(I)Lcom/example/rendezvous/rendezvous/server/PeerMessages$Kind;" } : Jvm.MethodName) method_3_code (1 : Nat) (Option.some (Jvm.ClassFile.FieldType.object "com/example/rendezvous/rendezvous/server/PeerMessages$Kind"))).before args0 about1 = true := code_word (m := ⟨1, 2⟩) (meth := k1m2) (c := k1c2) (by decide +kernel) rfl rfl rfl (by decide +kernel)
def codes1 : List Jvm.Cond := [Jvm.Cond.code x code maxLocals ret, Jvm.Cond.code ({ cls := "com/example/rendezvous/rendezvous/server/PeerMessages$Kind", name := "of", desc := "(I)Lcom/example/rendezvous/rendezvous/server/PeerMessages$Kind;" } : Jvm.MethodName) prog_152_method_6_code (5 : Nat) (Option.some (Jvm.ClassFile.FieldType.object "com/example/rendezvous/rendezvous/server/PeerMessages$Kind")), Jvm.Cond.code ({ cls := "com/example/rendezvous/rendezvous/server/KindOfPinLaw", name := "expected", desc := "(I)Lcom/example/rendezvous/rendezvous/server/PeerMessages$Kind;" } : Jvm.MethodName) method_3_code (1 : Nat) (Option.some (Jvm.ClassFile.FieldType.object "com/example/rendezvous/rendezvous/server/PeerMessages$Kind"))]
set_option maxRecDepth 65536 in
theorem codes_eq : words1.filter isCode = codes1 := rfl
theorem w_codes : ∀ c ∈ words1.filter isCode, c.before args0 about1 = true := by
  rw [codes_eq]
  intro c hc
  simp only [codes1, List.mem_cons, List.not_mem_nil, or_false] at hc
  rcases hc with rfl | rfl | rfl
  · exact w_c0
  · exact w_c1
  · exact w_c2
set_option maxRecDepth 65536 in
theorem w_t1 : words1.all (fun c => isCode c || c.before args0 about1) = true := by decide +kernel
theorem w_tables : (allAtoms (Jvm.Cond.code x code maxLocals ret :: tables_1)).before args0 about1 = true := by
  rw [allAtoms_all]
  show words1.all (fun c => c.before args0 about1) = true
  refine all_split ?_ w_codes
  rw [w_t1]
set_option maxRecDepth 65536 in
theorem w_case : (Jvm.Cond.and given_1 narrow_1).before args0 about1 = true := by decide +kernel
theorem w_applies : (headSpec (Jvm.Cond.code x code maxLocals ret :: tables_1) room_1).applies x e0.platform about1 = true :=
  (Spec.applies_iff w_frames).mpr ⟨w_running, w_runnable, w_alone, w_named, w_hears, w_ripe, w_room, w_tables⟩
theorem atStart : AtStart classFile x code maxLocals ret World_1 tables_1 room_1 Calls_1 rest_1 Pre_1 launch0 p0 e0 about1 theMethod args0 below0 :=
  ⟨lists_1, trivial, launch0.admits_env _ _ _, launch0.least_env, fairChoices_fair.cas, fairChoices_fair.clock, w_frames, w_args, w_heap, w_applies, trivial, trivial, w_case⟩
end start1
theorem witness_1 : WitnessClaimed_1 := ⟨start1.p0, start1.e0, start1.about1, start1.theMethod, start1.args0, start1.below0, start1.atStart⟩
end Jvm.Pilot.@@N@@
