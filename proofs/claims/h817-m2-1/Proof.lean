import JvmDerived
import JvmDerived.Pilot.@@N@@Statement
import JvmDerived.Pilot.@@N@@Code
set_option linter.unusedVariables false
set_option linter.unusedSimpArgs false
namespace Jvm.RoadKit
open Sem ClassFile Op Lib Jvm.Stand Jvm.Free Jvm.LawKit
section Own
variable {p : Program} {l : Launch} {e : Env} {R : Room} {s : State} {m : MethodId} {args : Array Value} {below : List Frame} {meth : Method} {c : Code} {T : State} {locs : List Loc} {cells slots : Nat}
theorem retI (X : Stand p l e R s m args below meth c T locs cells slots) (hx : p.tables.exec = Jvm.exec) {pc : Nat} {Ls : Array Slot} {z : Int32} {rest : List Value} (hret : meth.sig.returnType = some .int) (hd : decode c.code pc = .ok (.ireturn, 1)) {fs : List Frame}
    (hl : ∀ (f : JFrame) (acts : List Action), f.method = m → f.locked = none → f.entered = [] → (doReturn e (T.setTop f) acts (some (.int z))).1 = T.setFrames fs) : Steps p.tables e below (T.setTop (mkF m pc Ls (.int z :: rest))) (T.setFrames fs) := by
  have hm' : T.vm.method? m = some meth := X.method'
  have hn : narrow .int (.int z) = .int z := rfl
  show Steps p.tables e below (T.setTop { method := m, pc := pc, locals := Ls, stack := _ :: rest, locked := none }) _
  jvm_step X.here [X.here.top, hx, hd, hm', hret, hn]
  first | (intro acts; rw [hl _ acts rfl rfl rfl]) | rw [hl _ _ rfl rfl rfl]
  exact Steps.refl _
/-- the run from st comes to an end of which P holds -/
def own_G (tb : Tables) (e : Env) (below : List Frame) (P : Outcome → State → Prop) (st : State) : Prop :=
  ∃ s₂ o, Steps tb e below st s₂ ∧ s₂.status = .running ∧ Ended s₂ below o ∧ P o s₂
theorem own_st {tb : Tables} {P : Outcome → State → Prop} {st st' : State} (h : ∀ t, Steps tb e below st' t → Steps tb e below st t) (k : own_G tb e below P st') : own_G tb e below P st := by
  obtain ⟨s2, o, h1, h2⟩ := k
  exact ⟨s2, o, h _ h1, h2⟩
def own_P (s : State) (Q : Option Value → Heap → List Loc → Prop) (k n : Nat) (o : Outcome) (U' : State) : Prop :=
  ∃ v L, o = .returned v ∧ Q v U'.heap L ∧ FrameEnd s o U' L k n
theorem own_end {Q : Option Value → Heap → List Loc → Prop} {k n : Nat} {st : State} {v : Option Value} (X : Stand p l e R s m args below meth c T locs cells slots) (hlk : meth.locks = false) (hv : meth.sig.returnType = none → v = none)
    (hst : ∀ fs, (∀ (f : JFrame) (acts : List Action), f.method = m → f.locked = none → f.entered = [] → (doReturn e (T.setTop f) acts v).1 = T.setFrames fs) → Steps p.tables e below st (T.setFrames fs))
    (hQ : Q v T.heap locs) (hk : cells ≤ k) (hn : slots ≤ n) : own_G p.tables e below (own_P s Q k n) st := by
  obtain ⟨fs, hr, hrun, hended, hW, hsame⟩ := X.leave hv hlk
  exact ⟨_, _, hst fs hr, hrun, hended, _, _, rfl, hQ, ⟨_, rfl⟩, hW, hsame.mono hk hn⟩
theorem own_retZ {Q : Option Value → Heap → List Loc → Prop} {k n : Nat} (X : Stand p l e R s m args below meth c T locs cells slots) (hx : p.tables.exec = Jvm.exec) (hlk : meth.locks = false) (hret : meth.sig.returnType = some .boolean) {pc : Nat} {Ls : Array Slot} {z : Int32} {rest : List Value}
    (hd : decode c.code pc = .ok (.ireturn, 1)) (hz : nar .boolean z = z) (hQ : Q (some (.int z)) T.heap locs) (hk : cells ≤ k) (hn : slots ≤ n) : own_G p.tables e below (own_P s Q k n) (T.setTop (mkF m pc Ls (.int z :: rest))) :=
  own_end X hlk (fun h => by rw [hret] at h; cases h) (fun fs hr => retN X hx (t := .boolean) hret (by simp) hd (by rw [hz]; exact hr)) hQ hk hn
theorem own_retI {Q : Option Value → Heap → List Loc → Prop} {k n : Nat} (X : Stand p l e R s m args below meth c T locs cells slots) (hx : p.tables.exec = Jvm.exec) (hlk : meth.locks = false) (hret : meth.sig.returnType = some .int) {pc : Nat} {Ls : Array Slot} {z : Int32} {rest : List Value}
    (hd : decode c.code pc = .ok (.ireturn, 1)) (hQ : Q (some (.int z)) T.heap locs) (hk : cells ≤ k) (hn : slots ≤ n) : own_G p.tables e below (own_P s Q k n) (T.setTop (mkF m pc Ls (.int z :: rest))) :=
  own_end X hlk (fun h => by rw [hret] at h; cases h) (fun fs hr => retI X hx hret hd hr) hQ hk hn
theorem own_retJ {Q : Option Value → Heap → List Loc → Prop} {k n : Nat} (X : Stand p l e R s m args below meth c T locs cells slots) (hx : p.tables.exec = Jvm.exec) (hlk : meth.locks = false) (hret : meth.sig.returnType = some .long) {pc : Nat} {Ls : Array Slot} {z : Int64} {rest : List Value}
    (hd : decode c.code pc = .ok (.lreturn, 1)) (hQ : Q (some (.long z)) T.heap locs) (hk : cells ≤ k) (hn : slots ≤ n) : own_G p.tables e below (own_P s Q k n) (T.setTop (mkF m pc Ls (.long z :: rest))) :=
  own_end X hlk (fun h => by rw [hret] at h; cases h) (fun fs hr => retOut X hx hret rfl (Or.inr (Or.inl ⟨rfl, rfl, _, rfl⟩)) hd hr) hQ hk hn
theorem own_retR {Q : Option Value → Heap → List Loc → Prop} {k n : Nat} {t : FieldType} (X : Stand p l e R s m args below meth c T locs cells slots) (hx : p.tables.exec = Jvm.exec) (hlk : meth.locks = false) (hret : meth.sig.returnType = some t) (ht : t.isReference = true) {pc : Nat} {Ls : Array Slot} {w : Value} {rest : List Value} (hw : w.isRef = true) (hnw : narrow t w = w)
    (hd : decode c.code pc = .ok (.areturn, 1)) (hQ : Q (some w) T.heap locs) (hk : cells ≤ k) (hn : slots ≤ n) : own_G p.tables e below (own_P s Q k n) (T.setTop (mkF m pc Ls (w :: rest))) :=
  own_end X hlk (fun h => by rw [hret] at h; cases h) (fun fs hr => retOut X hx hret hnw (Or.inr (Or.inr (Or.inr (Or.inr ⟨rfl, ht, hw⟩)))) hd hr) hQ hk hn
theorem own_retV {Q : Option Value → Heap → List Loc → Prop} {k n : Nat} (X : Stand p l e R s m args below meth c T locs cells slots) (hx : p.tables.exec = Jvm.exec) (hlk : meth.locks = false) (hret : meth.sig.returnType = none) {pc : Nat} {Ls : Array Slot}
    (hd : decode c.code pc = .ok (.return_, 1)) (hQ : Q none T.heap locs) (hk : cells ≤ k) (hn : slots ≤ n) : own_G p.tables e below (own_P s Q k n) (T.setTop (mkF m pc Ls [])) :=
  own_end X hlk (fun _ => rfl) (fun fs hr => X.returnOut hx hret hd hr) hQ hk hn
theorem own_mono {cells' slots' : Nat} (X : Stand p l e R s m args below meth c T locs cells slots) (h1 : cells ≤ cells') (h2 : slots ≤ slots') : Stand p l e R s m args below meth c T locs cells' slots' :=
  ⟨X.admits, X.cas, X.clock, X.frames, X.room, X.hears, X.method, X.code, X.here, X.tail, X.warmed, X.limits, X.bytes, X.same.mono h1 h2⟩
theorem own_fld {Z : State} {h : Heap} {a : Addr} {C n d : String} {v w : Value} (F : Fld Z h a C n d v) (q : v = w) : Fld Z h a C n d w := q ▸ F
end Own
/-- a boolean as the machine holds it -/
def own_b (P : Prop) [Decidable P] : Int32 := if P then 1 else 0
theorem own_bt {P : Prop} [Decidable P] (h : P) : own_b P = 1 := if_pos h
theorem own_bf {P : Prop} [Decidable P] (h : ¬ P) : own_b P = 0 := if_neg h
theorem own_b1 {P : Prop} [Decidable P] {z : Int32} (hz : z = own_b P) (h : P) : ¬ z = 0 := by rw [hz, own_bt h]; decide
theorem own_b0 {P : Prop} [Decidable P] {z : Int32} (hz : z = own_b P) (h : ¬ P) : z = 0 := by rw [hz, own_bf h]
theorem own_nar {P : Prop} [Decidable P] {z : Int32} (hz : z = own_b P) : nar .boolean z = z := by
  rw [hz]; by_cases h : P
  · rw [own_bt h]; decide
  · rw [own_bf h]; decide
theorem own_fitZ {P : Prop} [Decidable P] {z : Int32} (hz : z = own_b P) : fits .boolean (.int z) = true := by
  rw [hz]; by_cases h : P
  · rw [own_bt h]; decide
  · rw [own_bf h]; decide
theorem own_bc {P Q : Prop} [Decidable P] [Decidable Q] (h : P ↔ Q) : own_b P = own_b Q := by
  by_cases q : Q
  · rw [own_bt q, own_bt (h.mpr q)]
  · rw [own_bf q, own_bf (fun r => q (h.mp r))]
theorem own_bi {P Q : Prop} [Decidable P] [Decidable Q] (h : own_b P = own_b Q) : P ↔ Q := by
  by_cases p : P <;> by_cases q : Q <;> simp_all [own_b]
end Jvm.RoadKit
namespace Jvm.Pilot.@@N@@
open Jvm Jvm.ClassFile Sem Op Lib Jvm.Free Jvm.Stand Jvm.LawKit Jvm.RoadKit Bundle Jvm.Pilot.@@N@@.Jvm.D
theorem pn_0 : plainName "com/example/stakan/stakan/core/OrderIsValidQuantityPinLaw" = true := by first | (simp [plainName, overriddenIn]; done) | decide +kernel
theorem d1_0 : decode prog_14_method_4_code 0 = .ok (.lload_n 0, 1) := by decide +kernel
theorem d1_1 : decode prog_14_method_4_code 1 = .ok (.lconst 1, 1) := by decide +kernel
theorem d1_2 : decode prog_14_method_4_code 2 = .ok (.lcmp, 1) := by decide +kernel
theorem d1_3 : decode prog_14_method_4_code 3 = .ok (.ifCond .lt 15, 3) := by decide +kernel
theorem d1_6 : decode prog_14_method_4_code 6 = .ok (.lload_n 0, 1) := by decide +kernel
theorem d1_7 : decode prog_14_method_4_code 7 = .ok (.ldc2_w 69, 3) := by decide +kernel
theorem d1_10 : decode prog_14_method_4_code 10 = .ok (.lcmp, 1) := by decide +kernel
theorem d1_11 : decode prog_14_method_4_code 11 = .ok (.ifCond .gt 7, 3) := by decide +kernel
theorem d1_14 : decode prog_14_method_4_code 14 = .ok (.iconst 1, 1) := by decide +kernel
theorem d1_15 : decode prog_14_method_4_code 15 = .ok (.goto 4, 3) := by decide +kernel
theorem d1_18 : decode prog_14_method_4_code 18 = .ok (.iconst 0, 1) := by decide +kernel
theorem d1_19 : decode prog_14_method_4_code 19 = .ok (.ireturn, 1) := by decide +kernel
theorem pn_1 : plainName "com/example/stakan/stakan/core/Order" = true := by first | (simp [plainName, overriddenIn]; done) | decide +kernel
theorem pd_0 : parseMethodDescriptor "(J)Z" = some ⟨[.long], some .boolean⟩ := by decide +kernel
theorem ef_1 (m : MethodId) (x0 : Int64) : entryFrame m #[(.long x0)] 2 = mkF m 0 #[.val (.long x0), .second] [] := by first | (simp [entryFrame, mkF, argsToLocals, Value.category]; done) | rfl
theorem ef_0 (m : MethodId) (x0 : Int64) (x1 : Int32) : entryFrame m #[(.long x0), (.int x1)] maxLocals = mkF m 0 #[.val (.long x0), .second, .val (.int x1), .unset, .unset, .unset, .unset, .unset, .unset, .unset, .unset, .unset] [] := by first | (simp [entryFrame, mkF, argsToLocals, Value.category, maxLocals]; done) | rfl
theorem own_c1 : (1 : Int64).toInt = 1 := rfl
theorem own_c0 : (0 : Int64).toInt = 0 := rfl
theorem own_cm : (2147483647 : Int64).toInt = 2147483647 := rfl
theorem own_w (q : Int64) : (¬ (q < (1 : Int64)) ∧ (¬ ((2147483647 : Int64) < q))) ↔ (((0 : Int64) < q) ∧ (((q.toInt32).toInt64) = q)) := by
  have h1 := c_l2i q; have h2 := rng32 q.toInt32; have h3 := c_i2l q.toInt32; have h4 := rng64 q
  rw [Int64.lt_iff_toInt_lt, Int64.lt_iff_toInt_lt, Int64.lt_iff_toInt_lt, ← Int64.toInt_inj, own_c1, own_c0, own_cm, h3]
  omega
theorem own_off (d : Int32) : (((d &&& (7 : Int32)) - (4 : Int32)).toInt64).toInt = d.toInt % 8 - 4 := by
  have h1 : (d &&& (7 : Int32)).toInt = d.toInt % 8 := c_mask d 7 3 (by decide) (by decide)
  have h2 := c_isub (d &&& (7 : Int32)) 4; have h3 := rng32 ((d &&& (7 : Int32)) - (4 : Int32)); have h4 : (4 : Int32).toInt = 4 := rfl
  rw [c_i2l]; omega
theorem own_lo (d : Int32) : (¬ (((1 : Int64) + (((d &&& (7 : Int32)) - (4 : Int32)).toInt64)) < (1 : Int64)) ∧ (¬ ((2147483647 : Int64) < ((1 : Int64) + (((d &&& (7 : Int32)) - (4 : Int32)).toInt64))))) ↔ (¬ ((((d &&& (7 : Int32)) - (4 : Int32)).toInt64) < (0 : Int64))) := by
  have h := own_off d
  generalize ((d &&& (7 : Int32)) - (4 : Int32)).toInt64 = o at *
  have h1 := c_ladd 1 o; have h2 := rng64 (1 + o)
  rw [Int64.lt_iff_toInt_lt, Int64.lt_iff_toInt_lt, Int64.lt_iff_toInt_lt]
  rw [own_c1] at *; rw [own_c0, own_cm]
  omega
theorem own_hi (d : Int32) : (¬ (((2147483647 : Int64) + (((d &&& (7 : Int32)) - (4 : Int32)).toInt64)) < (1 : Int64)) ∧ (¬ ((2147483647 : Int64) < ((2147483647 : Int64) + (((d &&& (7 : Int32)) - (4 : Int32)).toInt64))))) ↔ (¬ ((0 : Int64) < (((d &&& (7 : Int32)) - (4 : Int32)).toInt64))) := by
  have h := own_off d
  generalize ((d &&& (7 : Int32)) - (4 : Int32)).toInt64 = o at *
  have h1 := c_ladd 2147483647 o; have h2 := rng64 (2147483647 + o)
  rw [Int64.lt_iff_toInt_lt, Int64.lt_iff_toInt_lt, Int64.lt_iff_toInt_lt, own_c1, own_c0, own_cm]
  rw [own_cm] at *
  omega
def Q1 (Z : State) (q1 : Int64) (h0 : Heap) (n0 : Nat) (v : Option Value) (h : Heap) (L : List Loc) : Prop := (∃ z : Int32, v = some (.int z) ∧ z = (own_b (¬ (q1 < (1 : Int64)) ∧ (¬ ((2147483647 : Int64) < q1))))) ∧ Fr n0 L ∧ h = h0
set_option maxRecDepth 65536 in
set_option maxHeartbeats 40000000 in
theorem rm1 (l : Launch) (Z : State) (a0 : Array Value) (hw : ∀ d ∈ tables_1, d.before a0 Z = true) (ws : List Jvm.Cond) (q1 : Int64) (h0 : Heap) (n0 : Nat) (Z0 : n0 ≤ h0.size) :
    MetFree l (⟨"com/example/stakan/stakan/core/Order", "isValidQuantity", "(J)Z"⟩ : MethodName) (head1 (Jvm.Cond.code (⟨"com/example/stakan/stakan/core/Order", "isValidQuantity", "(J)Z"⟩ : MethodName) prog_14_method_4_code 2 (some .boolean) :: ws) ({ frames := 0, cells := 0, slots := 0, locals := 0 } : Room)) (fun a U => a = #[(.long q1)] ∧ Z.Warmed39 U.vm ∧ U.heap = h0) (fun _ _ _ _ _ => True) (fun _ U o U' => ∃ v L, o = .returned v ∧ Q1 Z q1 h0 n0 v U'.heap L ∧ FrameEnd U o U' L ({ frames := 0, cells := 0, slots := 0, locals := 0 } : Room).cells ({ frames := 0, cells := 0, slots := 0, locals := 0 } : Room).slots) := by
  refine MetFree.of_bodySF (plainFor_of_name pn_1) hisR ?_
  intro p e s m args below meth c s₁ Bd hml0 hP hK
  obtain ⟨rfl, hZ, hh⟩ := hP
  have hx := Bd.exec
  have hby := Bd.bytes
  have hlk := BodyLoose.notSynchronized Bd
  have hml : c.maxLocals = 2 := hml0
  have hown : s.vm.findClass "com/example/stakan/stakan/core/Order" = some m.cls := findClass_of_methodNamed Bd.named
  have hnm := (name_of_methodNamed Bd.named Bd.method).1
  have X0 : Stand p l e ({ frames := 0, cells := 0, slots := 0, locals := 0 } : Room) s m #[(.long q1)] below meth c s₁ [] 0 0 := Stand.of_body Bd
  have e0 : s₁.heap = h0 := by rw [← hh, Bd.state]; rfl
  have N0 := Fr.nil n0
  have K0 := Keep.refl h0 []
  show own_G p.tables e below (own_P s (Q1 Z q1 h0 n0) 0 0) (s₁.setTop (entryFrame m #[(.long q1)] 2))
  refine own_st (fun t k => castTop (ef_1 m q1) k) ?_
  show own_G p.tables e below _ (s₁.setTop (mkF m 0 #[.val (.long q1), .second] []))
  refine own_st (fun _ k => XS.lloadN X0.here hx rfl (hb hby d1_0) rfl k) ?_
  show own_G p.tables e below _ (s₁.setTop (mkF m 1 #[.val (.long q1), .second] [(.long q1)]))
  refine own_st (fun _ k => XS.lconst X0.here hx rfl (hb hby d1_1) k) ?_
  show own_G p.tables e below _ (s₁.setTop (mkF m 2 #[.val (.long q1), .second] [(.long (1 : Int64)), (.long q1)]))
  refine own_st (fun _ k => XS.lcmp X0.here hx rfl (hb hby d1_2) rfl k) ?_
  show own_G p.tables e below _ (s₁.setTop (mkF m 3 #[.val (.long q1), .second] [(.int (lcmpW q1 (1 : Int64)))]))
  have J19_2 : ∀ (z3 : Int32) (hz3 : z3 = (own_b (¬ (q1 < (1 : Int64)) ∧ (¬ ((2147483647 : Int64) < q1))))), own_G p.tables e below (own_P s (Q1 Z q1 h0 n0) 0 0) (s₁.setTop (mkF m 19 #[.val (.long q1), .second] [(.int z3)])) := by
    intro z3 hz3
    exact own_retZ X0 hx hlk Bd.returns (hb hby d1_19) (own_nar hz3) (by rw [e0]; exact ⟨⟨_, rfl, (by subst hz3; exact rfl)⟩, N0, rfl⟩) (by decide) (by decide)
  by_cases hc3_1 : q1 < (1 : Int64)
  · refine own_st (fun _ k => XS.ifYes X0.here hx rfl (pc0 := 3) (pc' := 18) rfl (hb hby d1_3) rfl ((if0 _ _).trans (tlt ((lw_lt q1 (1 : Int64)).mpr hc3_1)).1) (by decide) (by decide) k) ?_
    show own_G p.tables e below _ (s₁.setTop (mkF m 18 #[.val (.long q1), .second] []))
    refine own_st (fun _ k => XS.iconst X0.here hx rfl (hb hby d1_18) k) ?_
    show own_G p.tables e below _ (s₁.setTop (mkF m 19 #[.val (.long q1), .second] [(.int (0 : Int32))]))
    exact J19_2 (0 : Int32) ((own_bf (fun q => q.1 hc3_1)).symm)
  · refine own_st (fun _ k => XS.ifNo X0.here hx rfl (hb hby d1_3) rfl ((if0 _ _).trans (flt (fun q => hc3_1 ((lw_lt q1 (1 : Int64)).mp q))).1) k) ?_
    show own_G p.tables e below _ (s₁.setTop (mkF m 6 #[.val (.long q1), .second] []))
    refine own_st (fun _ k => XS.lloadN X0.here hx rfl (hb hby d1_6) rfl k) ?_
    show own_G p.tables e below _ (s₁.setTop (mkF m 7 #[.val (.long q1), .second] [(.long q1)]))
    refine own_st (X0.ldc2Long hx hown (mvT hZ (hw _ (List.mem_of_getElem? (i := 4) rfl))) (g := (mkF m 7 #[.val (.long q1), .second] [(.long q1)])) rfl (hb hby d1_7)) ?_
    show own_G p.tables e below _ (s₁.setTop (mkF m 10 #[.val (.long q1), .second] [(.long (2147483647 : Int64)), (.long q1)]))
    refine own_st (fun _ k => XS.lcmp X0.here hx rfl (hb hby d1_10) rfl k) ?_
    show own_G p.tables e below _ (s₁.setTop (mkF m 11 #[.val (.long q1), .second] [(.int (lcmpW q1 (2147483647 : Int64)))]))
    by_cases hc11_4 : (2147483647 : Int64) < q1
    · refine own_st (fun _ k => XS.ifYes X0.here hx rfl (pc0 := 11) (pc' := 18) rfl (hb hby d1_11) rfl ((if0 _ _).trans (tlt ((lw_gt q1 (2147483647 : Int64)).mpr hc11_4)).2.2.1) (by decide) (by decide) k) ?_
      show own_G p.tables e below _ (s₁.setTop (mkF m 18 #[.val (.long q1), .second] []))
      refine own_st (fun _ k => XS.iconst X0.here hx rfl (hb hby d1_18) k) ?_
      show own_G p.tables e below _ (s₁.setTop (mkF m 19 #[.val (.long q1), .second] [(.int (0 : Int32))]))
      exact J19_2 (0 : Int32) ((own_bf (fun q => (fun q => q hc11_4) q.2)).symm)
    · refine own_st (fun _ k => XS.ifNo X0.here hx rfl (hb hby d1_11) rfl ((if0 _ _).trans (flt (fun q => hc11_4 ((lw_gt q1 (2147483647 : Int64)).mp q))).2.2.1) k) ?_
      show own_G p.tables e below _ (s₁.setTop (mkF m 14 #[.val (.long q1), .second] []))
      refine own_st (fun _ k => XS.iconst X0.here hx rfl (hb hby d1_14) k) ?_
      show own_G p.tables e below _ (s₁.setTop (mkF m 15 #[.val (.long q1), .second] [(.int (1 : Int32))]))
      refine own_st (fun _ k => XS.goto X0.here hx rfl (pc0 := 15) (pc' := 19) rfl (hb hby d1_15) (by decide) (by decide) k) ?_
      show own_G p.tables e below _ (s₁.setTop (mkF m 19 #[.val (.long q1), .second] [(.int (1 : Int32))]))
      exact J19_2 (1 : Int32) ((own_bt ⟨hc3_1, hc11_4⟩).symm)
def Q0 (n0 : Nat) (v : Option Value) (h : Heap) (L : List Loc) : Prop := v = some (.int 1) ∧ Fr n0 L
set_option maxRecDepth 65536 in
set_option maxHeartbeats 40000000 in
theorem rm0 (l : Launch) (Z : State) (a0 : Array Value) (hw : ∀ d ∈ tables_1, d.before a0 Z = true) (ws : List Jvm.Cond) (i0 : Int64) (i1 : Int32) (h0 : Heap) (n0 : Nat) (Z0 : n0 ≤ h0.size) :
    MetFree l x (head1 (Jvm.Cond.code x code maxLocals ret :: ws) room_1) (fun a U => a = #[(.long i0), (.int i1)] ∧ Z.Warmed39 U.vm ∧ U.heap = h0) (fun _ _ _ _ _ => True) (fun _ U o U' => ∃ v L, o = .returned v ∧ Q0 n0 v U'.heap L ∧ FrameEnd U o U' L 0 0) := by
  refine MetFree.of_bodySF (plainFor_of_name pn_0) hisR ?_
  intro p e s m args below meth c s₁ Bd hml0 hP hK
  obtain ⟨rfl, hZ, hh⟩ := hP
  have hx := Bd.exec
  have hby := Bd.bytes
  have hlk := BodyLoose.notSynchronized Bd
  have hml : c.maxLocals = 12 := hml0
  have hown : s.vm.findClass "com/example/stakan/stakan/core/OrderIsValidQuantityPinLaw" = some m.cls := findClass_of_methodNamed Bd.named
  have hnm := (name_of_methodNamed Bd.named Bd.method).1
  have X0 : Stand p l e room_1 s m #[(.long i0), (.int i1)] below meth c s₁ [] 0 0 := Stand.of_body Bd
  have e0 : s₁.heap = h0 := by rw [← hh, Bd.state]; rfl
  have N0 := Fr.nil n0
  have K0 := Keep.refl h0 []
  show own_G p.tables e below (own_P s (Q0 n0) 0 0) (s₁.setTop (entryFrame m #[(.long i0), (.int i1)] maxLocals))
  refine own_st (fun t k => castTop (ef_0 m i0 i1) k) ?_
  show own_G p.tables e below _ (s₁.setTop (mkF m 0 #[.val (.long i0), .second, .val (.int i1), .unset, .unset, .unset, .unset, .unset, .unset, .unset, .unset, .unset] []))
  refine own_st (fun _ k => XS.iloadN X0.here hx rfl (hb hby at_0) rfl k) ?_
  show own_G p.tables e below _ (s₁.setTop (mkF m 1 #[.val (.long i0), .second, .val (.int i1), .unset, .unset, .unset, .unset, .unset, .unset, .unset, .unset, .unset] [(.int i1)]))
  refine own_st (fun _ k => XS.bipush X0.here hx rfl (hb hby at_1) k) ?_
  show own_G p.tables e below _ (s₁.setTop (mkF m 3 #[.val (.long i0), .second, .val (.int i1), .unset, .unset, .unset, .unset, .unset, .unset, .unset, .unset, .unset] [(.int (7 : Int32)), (.int i1)]))
  refine own_st (fun _ k => XS.iand X0.here hx rfl (hb hby at_3) rfl k) ?_
  show own_G p.tables e below _ (s₁.setTop (mkF m 4 #[.val (.long i0), .second, .val (.int i1), .unset, .unset, .unset, .unset, .unset, .unset, .unset, .unset, .unset] [(.int (i1 &&& (7 : Int32)))]))
  refine own_st (fun _ k => XS.iconst X0.here hx rfl (hb hby at_4) k) ?_
  show own_G p.tables e below _ (s₁.setTop (mkF m 5 #[.val (.long i0), .second, .val (.int i1), .unset, .unset, .unset, .unset, .unset, .unset, .unset, .unset, .unset] [(.int (4 : Int32)), (.int (i1 &&& (7 : Int32)))]))
  refine own_st (fun _ k => XS.isub X0.here hx rfl (hb hby at_5) rfl k) ?_
  show own_G p.tables e below _ (s₁.setTop (mkF m 6 #[.val (.long i0), .second, .val (.int i1), .unset, .unset, .unset, .unset, .unset, .unset, .unset, .unset, .unset] [(.int ((i1 &&& (7 : Int32)) - (4 : Int32)))]))
  refine own_st (fun _ k => XS.i2l X0.here hx rfl (hb hby at_6) rfl k) ?_
  show own_G p.tables e below _ (s₁.setTop (mkF m 7 #[.val (.long i0), .second, .val (.int i1), .unset, .unset, .unset, .unset, .unset, .unset, .unset, .unset, .unset] [(.long (((i1 &&& (7 : Int32)) - (4 : Int32)).toInt64))]))
  refine own_st (fun _ k => XS.lstoreN X0.here hx rfl (hb hby at_7) rfl (l' := #[.val (.long i0), .second, .val (.int i1), .val (.long (((i1 &&& (7 : Int32)) - (4 : Int32)).toInt64)), .second, .unset, .unset, .unset, .unset, .unset, .unset, .unset]) rfl k) ?_
  show own_G p.tables e below _ (s₁.setTop (mkF m 8 #[.val (.long i0), .second, .val (.int i1), .val (.long (((i1 &&& (7 : Int32)) - (4 : Int32)).toInt64)), .second, .unset, .unset, .unset, .unset, .unset, .unset, .unset] []))
  refine own_st (fun _ k => XS.lloadN X0.here hx rfl (hb hby at_8) rfl k) ?_
  show own_G p.tables e below _ (s₁.setTop (mkF m 9 #[.val (.long i0), .second, .val (.int i1), .val (.long (((i1 &&& (7 : Int32)) - (4 : Int32)).toInt64)), .second, .unset, .unset, .unset, .unset, .unset, .unset, .unset] [(.long i0)]))
  obtain ⟨_, _, ⟨T1, L1, k1, n1⟩, -, X1, ⟨Lc1, hQ1, l1, y1, z1⟩, st1⟩ := Jvm.LawKit.callS X0 hx (y := (⟨"com/example/stakan/stakan/core/Order", "isValidQuantity", "(J)Z"⟩ : MethodName)) hown (mvT hZ (hw _ (List.mem_of_getElem? (i := 0) rfl))) (mvT hZ (hw _ (List.mem_of_getElem? (i := 1) rfl))) (mvT hZ (hw _ (List.mem_of_getElem? (i := 2) rfl))) (mvT hZ (hw _ (List.mem_of_getElem? (i := 3) rfl))) (by decide) (backOf (W := 0) (rm1 l Z a0 hw [] i0 h0 n0 Z0 ) hZ (hw _ (List.mem_of_getElem? (i := 3) rfl)) (hw _ (List.mem_of_getElem? (i := 2) rfl)) (by decide) (by decide)) (g := (mkF m 9 #[.val (.long i0), .second, .val (.int i1), .val (.long (((i1 &&& (7 : Int32)) - (4 : Int32)).toInt64)), .second, .unset, .unset, .unset, .unset, .unset, .unset, .unset] [(.long i0)])) rfl (by rw [hml]; rfl) (argsL := [(.long i0)]) (rest := []) (lenOf pd_0 rfl) rfl (by show 2 * 0 + _ ≤ _; exact Nat.le_of_eq rfl) (hb hby at_9) (fun _ _ => ⟨rfl, e0, (by decide : 0 + 0 ≤ _), (by decide : 0 + 0 ≤ _)⟩)
  dsimp only [Pt.U, Pt.locs, Pt.cells, Pt.slots] at X1 l1 y1 z1 st1 hQ1
  subst l1 y1 z1
  obtain ⟨⟨r1, rfl, hr1⟩, N1q, e1⟩ := hQ1
  have N1 := Fr.app N0 N1q
  refine own_st st1 ?_
  show own_G p.tables e below _ (T1.setTop (mkF m 12 #[.val (.long i0), .second, .val (.int i1), .val (.long (((i1 &&& (7 : Int32)) - (4 : Int32)).toInt64)), .second, .unset, .unset, .unset, .unset, .unset, .unset, .unset] [(.int r1)]))
  refine own_st (fun _ k => XS.lloadN X1.here hx rfl (hb hby at_12) rfl k) ?_
  show own_G p.tables e below _ (T1.setTop (mkF m 13 #[.val (.long i0), .second, .val (.int i1), .val (.long (((i1 &&& (7 : Int32)) - (4 : Int32)).toInt64)), .second, .unset, .unset, .unset, .unset, .unset, .unset, .unset] [(.long i0), (.int r1)]))
  refine own_st (fun _ k => XS.lconst X1.here hx rfl (hb hby at_13) k) ?_
  show own_G p.tables e below _ (T1.setTop (mkF m 14 #[.val (.long i0), .second, .val (.int i1), .val (.long (((i1 &&& (7 : Int32)) - (4 : Int32)).toInt64)), .second, .unset, .unset, .unset, .unset, .unset, .unset, .unset] [(.long (0 : Int64)), (.long i0), (.int r1)]))
  refine own_st (fun _ k => XS.lcmp X1.here hx rfl (hb hby at_14) rfl k) ?_
  show own_G p.tables e below _ (T1.setTop (mkF m 15 #[.val (.long i0), .second, .val (.int i1), .val (.long (((i1 &&& (7 : Int32)) - (4 : Int32)).toInt64)), .second, .unset, .unset, .unset, .unset, .unset, .unset, .unset] [(.int (lcmpW i0 (0 : Int64))), (.int r1)]))
  have J31_3 : ∀ (z4 : Int32) (hz4 : z4 = (own_b (((0 : Int64) < i0) ∧ (((i0.toInt32).toInt64) = i0)))), own_G p.tables e below (own_P s (Q0 n0) 0 0) (T1.setTop (mkF m 31 #[.val (.long i0), .second, .val (.int i1), .val (.long (((i1 &&& (7 : Int32)) - (4 : Int32)).toInt64)), .second, .unset, .unset, .unset, .unset, .unset, .unset, .unset] [(.int z4), (.int r1)])) := by
    intro z4 hz4
    have hf5 : r1 = z4 := by subst_vars; exact own_bc (own_w _)
    refine own_st (fun _ k => XS.icmpNo X1.here hx rfl (hb hby at_31) rfl (teq hf5).2 k) ?_
    show own_G p.tables e below _ (T1.setTop (mkF m 34 #[.val (.long i0), .second, .val (.int i1), .val (.long (((i1 &&& (7 : Int32)) - (4 : Int32)).toInt64)), .second, .unset, .unset, .unset, .unset, .unset, .unset, .unset] []))
    refine own_st (fun _ k => XS.iconst X1.here hx rfl (hb hby at_34) k) ?_
    show own_G p.tables e below _ (T1.setTop (mkF m 35 #[.val (.long i0), .second, .val (.int i1), .val (.long (((i1 &&& (7 : Int32)) - (4 : Int32)).toInt64)), .second, .unset, .unset, .unset, .unset, .unset, .unset, .unset] [(.int (1 : Int32))]))
    refine own_st (fun _ k => XS.goto X1.here hx rfl (pc0 := 35) (pc' := 39) rfl (hb hby at_35) (by decide) (by decide) k) ?_
    show own_G p.tables e below _ (T1.setTop (mkF m 39 #[.val (.long i0), .second, .val (.int i1), .val (.long (((i1 &&& (7 : Int32)) - (4 : Int32)).toInt64)), .second, .unset, .unset, .unset, .unset, .unset, .unset, .unset] [(.int (1 : Int32))]))
    refine own_st (fun _ k => XS.istore X1.here hx rfl (hb hby at_39) rfl (l' := #[.val (.long i0), .second, .val (.int i1), .val (.long (((i1 &&& (7 : Int32)) - (4 : Int32)).toInt64)), .second, .val (.int (1 : Int32)), .unset, .unset, .unset, .unset, .unset, .unset]) rfl k) ?_
    show own_G p.tables e below _ (T1.setTop (mkF m 41 #[.val (.long i0), .second, .val (.int i1), .val (.long (((i1 &&& (7 : Int32)) - (4 : Int32)).toInt64)), .second, .val (.int (1 : Int32)), .unset, .unset, .unset, .unset, .unset, .unset] []))
    refine own_st (fun _ k => XS.lconst X1.here hx rfl (hb hby at_41) k) ?_
    show own_G p.tables e below _ (T1.setTop (mkF m 42 #[.val (.long i0), .second, .val (.int i1), .val (.long (((i1 &&& (7 : Int32)) - (4 : Int32)).toInt64)), .second, .val (.int (1 : Int32)), .unset, .unset, .unset, .unset, .unset, .unset] [(.long (1 : Int64))]))
    refine own_st (fun _ k => XS.lloadN X1.here hx rfl (hb hby at_42) rfl k) ?_
    show own_G p.tables e below _ (T1.setTop (mkF m 43 #[.val (.long i0), .second, .val (.int i1), .val (.long (((i1 &&& (7 : Int32)) - (4 : Int32)).toInt64)), .second, .val (.int (1 : Int32)), .unset, .unset, .unset, .unset, .unset, .unset] [(.long (((i1 &&& (7 : Int32)) - (4 : Int32)).toInt64)), (.long (1 : Int64))]))
    refine own_st (fun _ k => XS.ladd X1.here hx rfl (hb hby at_43) rfl k) ?_
    show own_G p.tables e below _ (T1.setTop (mkF m 44 #[.val (.long i0), .second, .val (.int i1), .val (.long (((i1 &&& (7 : Int32)) - (4 : Int32)).toInt64)), .second, .val (.int (1 : Int32)), .unset, .unset, .unset, .unset, .unset, .unset] [(.long ((1 : Int64) + (((i1 &&& (7 : Int32)) - (4 : Int32)).toInt64)))]))
    refine own_st (fun _ k => XS.lstore X1.here hx rfl (hb hby at_44) rfl (l' := #[.val (.long i0), .second, .val (.int i1), .val (.long (((i1 &&& (7 : Int32)) - (4 : Int32)).toInt64)), .second, .val (.int (1 : Int32)), .val (.long ((1 : Int64) + (((i1 &&& (7 : Int32)) - (4 : Int32)).toInt64))), .second, .unset, .unset, .unset, .unset]) rfl k) ?_
    show own_G p.tables e below _ (T1.setTop (mkF m 46 #[.val (.long i0), .second, .val (.int i1), .val (.long (((i1 &&& (7 : Int32)) - (4 : Int32)).toInt64)), .second, .val (.int (1 : Int32)), .val (.long ((1 : Int64) + (((i1 &&& (7 : Int32)) - (4 : Int32)).toInt64))), .second, .unset, .unset, .unset, .unset] []))
    refine own_st (fun _ k => XS.lload X1.here hx rfl (hb hby at_46) rfl k) ?_
    show own_G p.tables e below _ (T1.setTop (mkF m 48 #[.val (.long i0), .second, .val (.int i1), .val (.long (((i1 &&& (7 : Int32)) - (4 : Int32)).toInt64)), .second, .val (.int (1 : Int32)), .val (.long ((1 : Int64) + (((i1 &&& (7 : Int32)) - (4 : Int32)).toInt64))), .second, .unset, .unset, .unset, .unset] [(.long ((1 : Int64) + (((i1 &&& (7 : Int32)) - (4 : Int32)).toInt64)))]))
    obtain ⟨_, _, ⟨T6, L6, k6, n6⟩, -, X6, ⟨Lc6, hQ6, l6, y6, z6⟩, st6⟩ := Jvm.LawKit.callS X1 hx (y := (⟨"com/example/stakan/stakan/core/Order", "isValidQuantity", "(J)Z"⟩ : MethodName)) hown (mvT hZ (hw _ (List.mem_of_getElem? (i := 0) rfl))) (mvT hZ (hw _ (List.mem_of_getElem? (i := 1) rfl))) (mvT hZ (hw _ (List.mem_of_getElem? (i := 2) rfl))) (mvT hZ (hw _ (List.mem_of_getElem? (i := 3) rfl))) (by decide) (backOf (W := 0) (rm1 l Z a0 hw [] ((1 : Int64) + (((i1 &&& (7 : Int32)) - (4 : Int32)).toInt64)) h0 n0 Z0 ) hZ (hw _ (List.mem_of_getElem? (i := 3) rfl)) (hw _ (List.mem_of_getElem? (i := 2) rfl)) (by decide) (by decide)) (g := (mkF m 48 #[.val (.long i0), .second, .val (.int i1), .val (.long (((i1 &&& (7 : Int32)) - (4 : Int32)).toInt64)), .second, .val (.int (1 : Int32)), .val (.long ((1 : Int64) + (((i1 &&& (7 : Int32)) - (4 : Int32)).toInt64))), .second, .unset, .unset, .unset, .unset] [(.long ((1 : Int64) + (((i1 &&& (7 : Int32)) - (4 : Int32)).toInt64)))])) rfl (by rw [hml]; rfl) (argsL := [(.long ((1 : Int64) + (((i1 &&& (7 : Int32)) - (4 : Int32)).toInt64)))]) (rest := []) (lenOf pd_0 rfl) rfl (by show 2 * 0 + _ ≤ _; exact Nat.le_of_eq rfl) (hb hby at_48) (fun _ _ => ⟨rfl, e1, (by decide : 0 + 0 ≤ _), (by decide : 0 + 0 ≤ _)⟩)
    dsimp only [Pt.U, Pt.locs, Pt.cells, Pt.slots] at X6 l6 y6 z6 st6 hQ6
    subst l6 y6 z6
    obtain ⟨⟨r6, rfl, hr6⟩, N6q, e6⟩ := hQ6
    have N6 := Fr.app N1 N6q
    refine own_st st6 ?_
    show own_G p.tables e below _ (T6.setTop (mkF m 51 #[.val (.long i0), .second, .val (.int i1), .val (.long (((i1 &&& (7 : Int32)) - (4 : Int32)).toInt64)), .second, .val (.int (1 : Int32)), .val (.long ((1 : Int64) + (((i1 &&& (7 : Int32)) - (4 : Int32)).toInt64))), .second, .unset, .unset, .unset, .unset] [(.int r6)]))
    refine own_st (fun _ k => XS.lloadN X6.here hx rfl (hb hby at_51) rfl k) ?_
    show own_G p.tables e below _ (T6.setTop (mkF m 52 #[.val (.long i0), .second, .val (.int i1), .val (.long (((i1 &&& (7 : Int32)) - (4 : Int32)).toInt64)), .second, .val (.int (1 : Int32)), .val (.long ((1 : Int64) + (((i1 &&& (7 : Int32)) - (4 : Int32)).toInt64))), .second, .unset, .unset, .unset, .unset] [(.long (((i1 &&& (7 : Int32)) - (4 : Int32)).toInt64)), (.int r6)]))
    refine own_st (fun _ k => XS.lconst X6.here hx rfl (hb hby at_52) k) ?_
    show own_G p.tables e below _ (T6.setTop (mkF m 53 #[.val (.long i0), .second, .val (.int i1), .val (.long (((i1 &&& (7 : Int32)) - (4 : Int32)).toInt64)), .second, .val (.int (1 : Int32)), .val (.long ((1 : Int64) + (((i1 &&& (7 : Int32)) - (4 : Int32)).toInt64))), .second, .unset, .unset, .unset, .unset] [(.long (0 : Int64)), (.long (((i1 &&& (7 : Int32)) - (4 : Int32)).toInt64)), (.int r6)]))
    refine own_st (fun _ k => XS.lcmp X6.here hx rfl (hb hby at_53) rfl k) ?_
    show own_G p.tables e below _ (T6.setTop (mkF m 54 #[.val (.long i0), .second, .val (.int i1), .val (.long (((i1 &&& (7 : Int32)) - (4 : Int32)).toInt64)), .second, .val (.int (1 : Int32)), .val (.long ((1 : Int64) + (((i1 &&& (7 : Int32)) - (4 : Int32)).toInt64))), .second, .unset, .unset, .unset, .unset] [(.int (lcmpW (((i1 &&& (7 : Int32)) - (4 : Int32)).toInt64) (0 : Int64))), (.int r6)]))
    have J62_8 : ∀ (z9 : Int32) (hz9 : z9 = (own_b (¬ ((((i1 &&& (7 : Int32)) - (4 : Int32)).toInt64) < (0 : Int64))))), own_G p.tables e below (own_P s (Q0 n0) 0 0) (T6.setTop (mkF m 62 #[.val (.long i0), .second, .val (.int i1), .val (.long (((i1 &&& (7 : Int32)) - (4 : Int32)).toInt64)), .second, .val (.int (1 : Int32)), .val (.long ((1 : Int64) + (((i1 &&& (7 : Int32)) - (4 : Int32)).toInt64))), .second, .unset, .unset, .unset, .unset] [(.int z9), (.int r6)])) := by
      intro z9 hz9
      have hf10 : r6 = z9 := by subst_vars; exact own_bc (own_lo _)
      refine own_st (fun _ k => XS.icmpNo X6.here hx rfl (hb hby at_62) rfl (teq hf10).2 k) ?_
      show own_G p.tables e below _ (T6.setTop (mkF m 65 #[.val (.long i0), .second, .val (.int i1), .val (.long (((i1 &&& (7 : Int32)) - (4 : Int32)).toInt64)), .second, .val (.int (1 : Int32)), .val (.long ((1 : Int64) + (((i1 &&& (7 : Int32)) - (4 : Int32)).toInt64))), .second, .unset, .unset, .unset, .unset] []))
      refine own_st (fun _ k => XS.iconst X6.here hx rfl (hb hby at_65) k) ?_
      show own_G p.tables e below _ (T6.setTop (mkF m 66 #[.val (.long i0), .second, .val (.int i1), .val (.long (((i1 &&& (7 : Int32)) - (4 : Int32)).toInt64)), .second, .val (.int (1 : Int32)), .val (.long ((1 : Int64) + (((i1 &&& (7 : Int32)) - (4 : Int32)).toInt64))), .second, .unset, .unset, .unset, .unset] [(.int (1 : Int32))]))
      refine own_st (fun _ k => XS.goto X6.here hx rfl (pc0 := 66) (pc' := 70) rfl (hb hby at_66) (by decide) (by decide) k) ?_
      show own_G p.tables e below _ (T6.setTop (mkF m 70 #[.val (.long i0), .second, .val (.int i1), .val (.long (((i1 &&& (7 : Int32)) - (4 : Int32)).toInt64)), .second, .val (.int (1 : Int32)), .val (.long ((1 : Int64) + (((i1 &&& (7 : Int32)) - (4 : Int32)).toInt64))), .second, .unset, .unset, .unset, .unset] [(.int (1 : Int32))]))
      refine own_st (fun _ k => XS.istore X6.here hx rfl (hb hby at_70) rfl (l' := #[.val (.long i0), .second, .val (.int i1), .val (.long (((i1 &&& (7 : Int32)) - (4 : Int32)).toInt64)), .second, .val (.int (1 : Int32)), .val (.long ((1 : Int64) + (((i1 &&& (7 : Int32)) - (4 : Int32)).toInt64))), .second, .val (.int (1 : Int32)), .unset, .unset, .unset]) rfl k) ?_
      show own_G p.tables e below _ (T6.setTop (mkF m 72 #[.val (.long i0), .second, .val (.int i1), .val (.long (((i1 &&& (7 : Int32)) - (4 : Int32)).toInt64)), .second, .val (.int (1 : Int32)), .val (.long ((1 : Int64) + (((i1 &&& (7 : Int32)) - (4 : Int32)).toInt64))), .second, .val (.int (1 : Int32)), .unset, .unset, .unset] []))
      refine own_st (X6.ldc2Long hx hown (mvT hZ (hw _ (List.mem_of_getElem? (i := 5) rfl))) (g := (mkF m 72 #[.val (.long i0), .second, .val (.int i1), .val (.long (((i1 &&& (7 : Int32)) - (4 : Int32)).toInt64)), .second, .val (.int (1 : Int32)), .val (.long ((1 : Int64) + (((i1 &&& (7 : Int32)) - (4 : Int32)).toInt64))), .second, .val (.int (1 : Int32)), .unset, .unset, .unset] [])) rfl (hb hby at_72)) ?_
      show own_G p.tables e below _ (T6.setTop (mkF m 75 #[.val (.long i0), .second, .val (.int i1), .val (.long (((i1 &&& (7 : Int32)) - (4 : Int32)).toInt64)), .second, .val (.int (1 : Int32)), .val (.long ((1 : Int64) + (((i1 &&& (7 : Int32)) - (4 : Int32)).toInt64))), .second, .val (.int (1 : Int32)), .unset, .unset, .unset] [(.long (2147483647 : Int64))]))
      refine own_st (fun _ k => XS.lloadN X6.here hx rfl (hb hby at_75) rfl k) ?_
      show own_G p.tables e below _ (T6.setTop (mkF m 76 #[.val (.long i0), .second, .val (.int i1), .val (.long (((i1 &&& (7 : Int32)) - (4 : Int32)).toInt64)), .second, .val (.int (1 : Int32)), .val (.long ((1 : Int64) + (((i1 &&& (7 : Int32)) - (4 : Int32)).toInt64))), .second, .val (.int (1 : Int32)), .unset, .unset, .unset] [(.long (((i1 &&& (7 : Int32)) - (4 : Int32)).toInt64)), (.long (2147483647 : Int64))]))
      refine own_st (fun _ k => XS.ladd X6.here hx rfl (hb hby at_76) rfl k) ?_
      show own_G p.tables e below _ (T6.setTop (mkF m 77 #[.val (.long i0), .second, .val (.int i1), .val (.long (((i1 &&& (7 : Int32)) - (4 : Int32)).toInt64)), .second, .val (.int (1 : Int32)), .val (.long ((1 : Int64) + (((i1 &&& (7 : Int32)) - (4 : Int32)).toInt64))), .second, .val (.int (1 : Int32)), .unset, .unset, .unset] [(.long ((2147483647 : Int64) + (((i1 &&& (7 : Int32)) - (4 : Int32)).toInt64)))]))
      refine own_st (fun _ k => XS.lstore X6.here hx rfl (hb hby at_77) rfl (l' := #[.val (.long i0), .second, .val (.int i1), .val (.long (((i1 &&& (7 : Int32)) - (4 : Int32)).toInt64)), .second, .val (.int (1 : Int32)), .val (.long ((1 : Int64) + (((i1 &&& (7 : Int32)) - (4 : Int32)).toInt64))), .second, .val (.int (1 : Int32)), .val (.long ((2147483647 : Int64) + (((i1 &&& (7 : Int32)) - (4 : Int32)).toInt64))), .second, .unset]) rfl k) ?_
      show own_G p.tables e below _ (T6.setTop (mkF m 79 #[.val (.long i0), .second, .val (.int i1), .val (.long (((i1 &&& (7 : Int32)) - (4 : Int32)).toInt64)), .second, .val (.int (1 : Int32)), .val (.long ((1 : Int64) + (((i1 &&& (7 : Int32)) - (4 : Int32)).toInt64))), .second, .val (.int (1 : Int32)), .val (.long ((2147483647 : Int64) + (((i1 &&& (7 : Int32)) - (4 : Int32)).toInt64))), .second, .unset] []))
      refine own_st (fun _ k => XS.lload X6.here hx rfl (hb hby at_79) rfl k) ?_
      show own_G p.tables e below _ (T6.setTop (mkF m 81 #[.val (.long i0), .second, .val (.int i1), .val (.long (((i1 &&& (7 : Int32)) - (4 : Int32)).toInt64)), .second, .val (.int (1 : Int32)), .val (.long ((1 : Int64) + (((i1 &&& (7 : Int32)) - (4 : Int32)).toInt64))), .second, .val (.int (1 : Int32)), .val (.long ((2147483647 : Int64) + (((i1 &&& (7 : Int32)) - (4 : Int32)).toInt64))), .second, .unset] [(.long ((2147483647 : Int64) + (((i1 &&& (7 : Int32)) - (4 : Int32)).toInt64)))]))
      obtain ⟨_, _, ⟨T11, L11, k11, n11⟩, -, X11, ⟨Lc11, hQ11, l11, y11, z11⟩, st11⟩ := Jvm.LawKit.callS X6 hx (y := (⟨"com/example/stakan/stakan/core/Order", "isValidQuantity", "(J)Z"⟩ : MethodName)) hown (mvT hZ (hw _ (List.mem_of_getElem? (i := 0) rfl))) (mvT hZ (hw _ (List.mem_of_getElem? (i := 1) rfl))) (mvT hZ (hw _ (List.mem_of_getElem? (i := 2) rfl))) (mvT hZ (hw _ (List.mem_of_getElem? (i := 3) rfl))) (by decide) (backOf (W := 0) (rm1 l Z a0 hw [] ((2147483647 : Int64) + (((i1 &&& (7 : Int32)) - (4 : Int32)).toInt64)) h0 n0 Z0 ) hZ (hw _ (List.mem_of_getElem? (i := 3) rfl)) (hw _ (List.mem_of_getElem? (i := 2) rfl)) (by decide) (by decide)) (g := (mkF m 81 #[.val (.long i0), .second, .val (.int i1), .val (.long (((i1 &&& (7 : Int32)) - (4 : Int32)).toInt64)), .second, .val (.int (1 : Int32)), .val (.long ((1 : Int64) + (((i1 &&& (7 : Int32)) - (4 : Int32)).toInt64))), .second, .val (.int (1 : Int32)), .val (.long ((2147483647 : Int64) + (((i1 &&& (7 : Int32)) - (4 : Int32)).toInt64))), .second, .unset] [(.long ((2147483647 : Int64) + (((i1 &&& (7 : Int32)) - (4 : Int32)).toInt64)))])) rfl (by rw [hml]; rfl) (argsL := [(.long ((2147483647 : Int64) + (((i1 &&& (7 : Int32)) - (4 : Int32)).toInt64)))]) (rest := []) (lenOf pd_0 rfl) rfl (by show 2 * 0 + _ ≤ _; exact Nat.le_of_eq rfl) (hb hby at_81) (fun _ _ => ⟨rfl, e6, (by decide : 0 + 0 ≤ _), (by decide : 0 + 0 ≤ _)⟩)
      dsimp only [Pt.U, Pt.locs, Pt.cells, Pt.slots] at X11 l11 y11 z11 st11 hQ11
      subst l11 y11 z11
      obtain ⟨⟨r11, rfl, hr11⟩, N11q, e11⟩ := hQ11
      have N11 := Fr.app N6 N11q
      refine own_st st11 ?_
      show own_G p.tables e below _ (T11.setTop (mkF m 84 #[.val (.long i0), .second, .val (.int i1), .val (.long (((i1 &&& (7 : Int32)) - (4 : Int32)).toInt64)), .second, .val (.int (1 : Int32)), .val (.long ((1 : Int64) + (((i1 &&& (7 : Int32)) - (4 : Int32)).toInt64))), .second, .val (.int (1 : Int32)), .val (.long ((2147483647 : Int64) + (((i1 &&& (7 : Int32)) - (4 : Int32)).toInt64))), .second, .unset] [(.int r11)]))
      refine own_st (fun _ k => XS.lloadN X11.here hx rfl (hb hby at_84) rfl k) ?_
      show own_G p.tables e below _ (T11.setTop (mkF m 85 #[.val (.long i0), .second, .val (.int i1), .val (.long (((i1 &&& (7 : Int32)) - (4 : Int32)).toInt64)), .second, .val (.int (1 : Int32)), .val (.long ((1 : Int64) + (((i1 &&& (7 : Int32)) - (4 : Int32)).toInt64))), .second, .val (.int (1 : Int32)), .val (.long ((2147483647 : Int64) + (((i1 &&& (7 : Int32)) - (4 : Int32)).toInt64))), .second, .unset] [(.long (((i1 &&& (7 : Int32)) - (4 : Int32)).toInt64)), (.int r11)]))
      refine own_st (fun _ k => XS.lconst X11.here hx rfl (hb hby at_85) k) ?_
      show own_G p.tables e below _ (T11.setTop (mkF m 86 #[.val (.long i0), .second, .val (.int i1), .val (.long (((i1 &&& (7 : Int32)) - (4 : Int32)).toInt64)), .second, .val (.int (1 : Int32)), .val (.long ((1 : Int64) + (((i1 &&& (7 : Int32)) - (4 : Int32)).toInt64))), .second, .val (.int (1 : Int32)), .val (.long ((2147483647 : Int64) + (((i1 &&& (7 : Int32)) - (4 : Int32)).toInt64))), .second, .unset] [(.long (0 : Int64)), (.long (((i1 &&& (7 : Int32)) - (4 : Int32)).toInt64)), (.int r11)]))
      refine own_st (fun _ k => XS.lcmp X11.here hx rfl (hb hby at_86) rfl k) ?_
      show own_G p.tables e below _ (T11.setTop (mkF m 87 #[.val (.long i0), .second, .val (.int i1), .val (.long (((i1 &&& (7 : Int32)) - (4 : Int32)).toInt64)), .second, .val (.int (1 : Int32)), .val (.long ((1 : Int64) + (((i1 &&& (7 : Int32)) - (4 : Int32)).toInt64))), .second, .val (.int (1 : Int32)), .val (.long ((2147483647 : Int64) + (((i1 &&& (7 : Int32)) - (4 : Int32)).toInt64))), .second, .unset] [(.int (lcmpW (((i1 &&& (7 : Int32)) - (4 : Int32)).toInt64) (0 : Int64))), (.int r11)]))
      have J95_13 : ∀ (z14 : Int32) (hz14 : z14 = (own_b (¬ ((0 : Int64) < (((i1 &&& (7 : Int32)) - (4 : Int32)).toInt64))))), own_G p.tables e below (own_P s (Q0 n0) 0 0) (T11.setTop (mkF m 95 #[.val (.long i0), .second, .val (.int i1), .val (.long (((i1 &&& (7 : Int32)) - (4 : Int32)).toInt64)), .second, .val (.int (1 : Int32)), .val (.long ((1 : Int64) + (((i1 &&& (7 : Int32)) - (4 : Int32)).toInt64))), .second, .val (.int (1 : Int32)), .val (.long ((2147483647 : Int64) + (((i1 &&& (7 : Int32)) - (4 : Int32)).toInt64))), .second, .unset] [(.int z14), (.int r11)])) := by
        intro z14 hz14
        have hf15 : r11 = z14 := by subst_vars; exact own_bc (own_hi _)
        refine own_st (fun _ k => XS.icmpNo X11.here hx rfl (hb hby at_95) rfl (teq hf15).2 k) ?_
        show own_G p.tables e below _ (T11.setTop (mkF m 98 #[.val (.long i0), .second, .val (.int i1), .val (.long (((i1 &&& (7 : Int32)) - (4 : Int32)).toInt64)), .second, .val (.int (1 : Int32)), .val (.long ((1 : Int64) + (((i1 &&& (7 : Int32)) - (4 : Int32)).toInt64))), .second, .val (.int (1 : Int32)), .val (.long ((2147483647 : Int64) + (((i1 &&& (7 : Int32)) - (4 : Int32)).toInt64))), .second, .unset] []))
        refine own_st (fun _ k => XS.iconst X11.here hx rfl (hb hby at_98) k) ?_
        show own_G p.tables e below _ (T11.setTop (mkF m 99 #[.val (.long i0), .second, .val (.int i1), .val (.long (((i1 &&& (7 : Int32)) - (4 : Int32)).toInt64)), .second, .val (.int (1 : Int32)), .val (.long ((1 : Int64) + (((i1 &&& (7 : Int32)) - (4 : Int32)).toInt64))), .second, .val (.int (1 : Int32)), .val (.long ((2147483647 : Int64) + (((i1 &&& (7 : Int32)) - (4 : Int32)).toInt64))), .second, .unset] [(.int (1 : Int32))]))
        refine own_st (fun _ k => XS.goto X11.here hx rfl (pc0 := 99) (pc' := 103) rfl (hb hby at_99) (by decide) (by decide) k) ?_
        show own_G p.tables e below _ (T11.setTop (mkF m 103 #[.val (.long i0), .second, .val (.int i1), .val (.long (((i1 &&& (7 : Int32)) - (4 : Int32)).toInt64)), .second, .val (.int (1 : Int32)), .val (.long ((1 : Int64) + (((i1 &&& (7 : Int32)) - (4 : Int32)).toInt64))), .second, .val (.int (1 : Int32)), .val (.long ((2147483647 : Int64) + (((i1 &&& (7 : Int32)) - (4 : Int32)).toInt64))), .second, .unset] [(.int (1 : Int32))]))
        refine own_st (fun _ k => XS.istore X11.here hx rfl (hb hby at_103) rfl (l' := #[.val (.long i0), .second, .val (.int i1), .val (.long (((i1 &&& (7 : Int32)) - (4 : Int32)).toInt64)), .second, .val (.int (1 : Int32)), .val (.long ((1 : Int64) + (((i1 &&& (7 : Int32)) - (4 : Int32)).toInt64))), .second, .val (.int (1 : Int32)), .val (.long ((2147483647 : Int64) + (((i1 &&& (7 : Int32)) - (4 : Int32)).toInt64))), .second, .val (.int (1 : Int32))]) rfl k) ?_
        show own_G p.tables e below _ (T11.setTop (mkF m 105 #[.val (.long i0), .second, .val (.int i1), .val (.long (((i1 &&& (7 : Int32)) - (4 : Int32)).toInt64)), .second, .val (.int (1 : Int32)), .val (.long ((1 : Int64) + (((i1 &&& (7 : Int32)) - (4 : Int32)).toInt64))), .second, .val (.int (1 : Int32)), .val (.long ((2147483647 : Int64) + (((i1 &&& (7 : Int32)) - (4 : Int32)).toInt64))), .second, .val (.int (1 : Int32))] []))
        refine own_st (fun _ k => XS.iload X11.here hx rfl (hb hby at_105) rfl k) ?_
        show own_G p.tables e below _ (T11.setTop (mkF m 107 #[.val (.long i0), .second, .val (.int i1), .val (.long (((i1 &&& (7 : Int32)) - (4 : Int32)).toInt64)), .second, .val (.int (1 : Int32)), .val (.long ((1 : Int64) + (((i1 &&& (7 : Int32)) - (4 : Int32)).toInt64))), .second, .val (.int (1 : Int32)), .val (.long ((2147483647 : Int64) + (((i1 &&& (7 : Int32)) - (4 : Int32)).toInt64))), .second, .val (.int (1 : Int32))] [(.int (1 : Int32))]))
        refine own_st (fun _ k => XS.ifNo X11.here hx rfl (hb hby at_107) rfl (by decide) k) ?_
        show own_G p.tables e below _ (T11.setTop (mkF m 110 #[.val (.long i0), .second, .val (.int i1), .val (.long (((i1 &&& (7 : Int32)) - (4 : Int32)).toInt64)), .second, .val (.int (1 : Int32)), .val (.long ((1 : Int64) + (((i1 &&& (7 : Int32)) - (4 : Int32)).toInt64))), .second, .val (.int (1 : Int32)), .val (.long ((2147483647 : Int64) + (((i1 &&& (7 : Int32)) - (4 : Int32)).toInt64))), .second, .val (.int (1 : Int32))] []))
        refine own_st (fun _ k => XS.iload X11.here hx rfl (hb hby at_110) rfl k) ?_
        show own_G p.tables e below _ (T11.setTop (mkF m 112 #[.val (.long i0), .second, .val (.int i1), .val (.long (((i1 &&& (7 : Int32)) - (4 : Int32)).toInt64)), .second, .val (.int (1 : Int32)), .val (.long ((1 : Int64) + (((i1 &&& (7 : Int32)) - (4 : Int32)).toInt64))), .second, .val (.int (1 : Int32)), .val (.long ((2147483647 : Int64) + (((i1 &&& (7 : Int32)) - (4 : Int32)).toInt64))), .second, .val (.int (1 : Int32))] [(.int (1 : Int32))]))
        refine own_st (fun _ k => XS.ifNo X11.here hx rfl (hb hby at_112) rfl (by decide) k) ?_
        show own_G p.tables e below _ (T11.setTop (mkF m 115 #[.val (.long i0), .second, .val (.int i1), .val (.long (((i1 &&& (7 : Int32)) - (4 : Int32)).toInt64)), .second, .val (.int (1 : Int32)), .val (.long ((1 : Int64) + (((i1 &&& (7 : Int32)) - (4 : Int32)).toInt64))), .second, .val (.int (1 : Int32)), .val (.long ((2147483647 : Int64) + (((i1 &&& (7 : Int32)) - (4 : Int32)).toInt64))), .second, .val (.int (1 : Int32))] []))
        refine own_st (fun _ k => XS.iload X11.here hx rfl (hb hby at_115) rfl k) ?_
        show own_G p.tables e below _ (T11.setTop (mkF m 117 #[.val (.long i0), .second, .val (.int i1), .val (.long (((i1 &&& (7 : Int32)) - (4 : Int32)).toInt64)), .second, .val (.int (1 : Int32)), .val (.long ((1 : Int64) + (((i1 &&& (7 : Int32)) - (4 : Int32)).toInt64))), .second, .val (.int (1 : Int32)), .val (.long ((2147483647 : Int64) + (((i1 &&& (7 : Int32)) - (4 : Int32)).toInt64))), .second, .val (.int (1 : Int32))] [(.int (1 : Int32))]))
        refine own_st (fun _ k => XS.ifNo X11.here hx rfl (hb hby at_117) rfl (by decide) k) ?_
        show own_G p.tables e below _ (T11.setTop (mkF m 120 #[.val (.long i0), .second, .val (.int i1), .val (.long (((i1 &&& (7 : Int32)) - (4 : Int32)).toInt64)), .second, .val (.int (1 : Int32)), .val (.long ((1 : Int64) + (((i1 &&& (7 : Int32)) - (4 : Int32)).toInt64))), .second, .val (.int (1 : Int32)), .val (.long ((2147483647 : Int64) + (((i1 &&& (7 : Int32)) - (4 : Int32)).toInt64))), .second, .val (.int (1 : Int32))] []))
        refine own_st (fun _ k => XS.iconst X11.here hx rfl (hb hby at_120) k) ?_
        show own_G p.tables e below _ (T11.setTop (mkF m 121 #[.val (.long i0), .second, .val (.int i1), .val (.long (((i1 &&& (7 : Int32)) - (4 : Int32)).toInt64)), .second, .val (.int (1 : Int32)), .val (.long ((1 : Int64) + (((i1 &&& (7 : Int32)) - (4 : Int32)).toInt64))), .second, .val (.int (1 : Int32)), .val (.long ((2147483647 : Int64) + (((i1 &&& (7 : Int32)) - (4 : Int32)).toInt64))), .second, .val (.int (1 : Int32))] [(.int (1 : Int32))]))
        refine own_st (fun _ k => XS.goto X11.here hx rfl (pc0 := 121) (pc' := 125) rfl (hb hby at_121) (by decide) (by decide) k) ?_
        show own_G p.tables e below _ (T11.setTop (mkF m 125 #[.val (.long i0), .second, .val (.int i1), .val (.long (((i1 &&& (7 : Int32)) - (4 : Int32)).toInt64)), .second, .val (.int (1 : Int32)), .val (.long ((1 : Int64) + (((i1 &&& (7 : Int32)) - (4 : Int32)).toInt64))), .second, .val (.int (1 : Int32)), .val (.long ((2147483647 : Int64) + (((i1 &&& (7 : Int32)) - (4 : Int32)).toInt64))), .second, .val (.int (1 : Int32))] [(.int (1 : Int32))]))
        exact own_retZ X11 hx hlk Bd.returns (hb hby at_125) (by decide) ⟨rfl, N11⟩ (by decide) (by decide)
      by_cases hc87_12 : (0 : Int64) < (((i1 &&& (7 : Int32)) - (4 : Int32)).toInt64)
      · refine own_st (fun _ k => XS.ifYes X11.here hx rfl (pc0 := 87) (pc' := 94) rfl (hb hby at_87) rfl ((if0 _ _).trans (tlt ((lw_gt (((i1 &&& (7 : Int32)) - (4 : Int32)).toInt64) (0 : Int64)).mpr hc87_12)).2.2.1) (by decide) (by decide) k) ?_
        show own_G p.tables e below _ (T11.setTop (mkF m 94 #[.val (.long i0), .second, .val (.int i1), .val (.long (((i1 &&& (7 : Int32)) - (4 : Int32)).toInt64)), .second, .val (.int (1 : Int32)), .val (.long ((1 : Int64) + (((i1 &&& (7 : Int32)) - (4 : Int32)).toInt64))), .second, .val (.int (1 : Int32)), .val (.long ((2147483647 : Int64) + (((i1 &&& (7 : Int32)) - (4 : Int32)).toInt64))), .second, .unset] [(.int r11)]))
        refine own_st (fun _ k => XS.iconst X11.here hx rfl (hb hby at_94) k) ?_
        show own_G p.tables e below _ (T11.setTop (mkF m 95 #[.val (.long i0), .second, .val (.int i1), .val (.long (((i1 &&& (7 : Int32)) - (4 : Int32)).toInt64)), .second, .val (.int (1 : Int32)), .val (.long ((1 : Int64) + (((i1 &&& (7 : Int32)) - (4 : Int32)).toInt64))), .second, .val (.int (1 : Int32)), .val (.long ((2147483647 : Int64) + (((i1 &&& (7 : Int32)) - (4 : Int32)).toInt64))), .second, .unset] [(.int (0 : Int32)), (.int r11)]))
        exact J95_13 (0 : Int32) ((own_bf (fun q => q hc87_12)).symm)
      · refine own_st (fun _ k => XS.ifNo X11.here hx rfl (hb hby at_87) rfl ((if0 _ _).trans (flt (fun q => hc87_12 ((lw_gt (((i1 &&& (7 : Int32)) - (4 : Int32)).toInt64) (0 : Int64)).mp q))).2.2.1) k) ?_
        show own_G p.tables e below _ (T11.setTop (mkF m 90 #[.val (.long i0), .second, .val (.int i1), .val (.long (((i1 &&& (7 : Int32)) - (4 : Int32)).toInt64)), .second, .val (.int (1 : Int32)), .val (.long ((1 : Int64) + (((i1 &&& (7 : Int32)) - (4 : Int32)).toInt64))), .second, .val (.int (1 : Int32)), .val (.long ((2147483647 : Int64) + (((i1 &&& (7 : Int32)) - (4 : Int32)).toInt64))), .second, .unset] [(.int r11)]))
        refine own_st (fun _ k => XS.iconst X11.here hx rfl (hb hby at_90) k) ?_
        show own_G p.tables e below _ (T11.setTop (mkF m 91 #[.val (.long i0), .second, .val (.int i1), .val (.long (((i1 &&& (7 : Int32)) - (4 : Int32)).toInt64)), .second, .val (.int (1 : Int32)), .val (.long ((1 : Int64) + (((i1 &&& (7 : Int32)) - (4 : Int32)).toInt64))), .second, .val (.int (1 : Int32)), .val (.long ((2147483647 : Int64) + (((i1 &&& (7 : Int32)) - (4 : Int32)).toInt64))), .second, .unset] [(.int (1 : Int32)), (.int r11)]))
        refine own_st (fun _ k => XS.goto X11.here hx rfl (pc0 := 91) (pc' := 95) rfl (hb hby at_91) (by decide) (by decide) k) ?_
        show own_G p.tables e below _ (T11.setTop (mkF m 95 #[.val (.long i0), .second, .val (.int i1), .val (.long (((i1 &&& (7 : Int32)) - (4 : Int32)).toInt64)), .second, .val (.int (1 : Int32)), .val (.long ((1 : Int64) + (((i1 &&& (7 : Int32)) - (4 : Int32)).toInt64))), .second, .val (.int (1 : Int32)), .val (.long ((2147483647 : Int64) + (((i1 &&& (7 : Int32)) - (4 : Int32)).toInt64))), .second, .unset] [(.int (1 : Int32)), (.int r11)]))
        exact J95_13 (1 : Int32) ((own_bt hc87_12).symm)
    by_cases hc54_7 : (((i1 &&& (7 : Int32)) - (4 : Int32)).toInt64) < (0 : Int64)
    · refine own_st (fun _ k => XS.ifYes X6.here hx rfl (pc0 := 54) (pc' := 61) rfl (hb hby at_54) rfl ((if0 _ _).trans (tlt ((lw_lt (((i1 &&& (7 : Int32)) - (4 : Int32)).toInt64) (0 : Int64)).mpr hc54_7)).1) (by decide) (by decide) k) ?_
      show own_G p.tables e below _ (T6.setTop (mkF m 61 #[.val (.long i0), .second, .val (.int i1), .val (.long (((i1 &&& (7 : Int32)) - (4 : Int32)).toInt64)), .second, .val (.int (1 : Int32)), .val (.long ((1 : Int64) + (((i1 &&& (7 : Int32)) - (4 : Int32)).toInt64))), .second, .unset, .unset, .unset, .unset] [(.int r6)]))
      refine own_st (fun _ k => XS.iconst X6.here hx rfl (hb hby at_61) k) ?_
      show own_G p.tables e below _ (T6.setTop (mkF m 62 #[.val (.long i0), .second, .val (.int i1), .val (.long (((i1 &&& (7 : Int32)) - (4 : Int32)).toInt64)), .second, .val (.int (1 : Int32)), .val (.long ((1 : Int64) + (((i1 &&& (7 : Int32)) - (4 : Int32)).toInt64))), .second, .unset, .unset, .unset, .unset] [(.int (0 : Int32)), (.int r6)]))
      exact J62_8 (0 : Int32) ((own_bf (fun q => q hc54_7)).symm)
    · refine own_st (fun _ k => XS.ifNo X6.here hx rfl (hb hby at_54) rfl ((if0 _ _).trans (flt (fun q => hc54_7 ((lw_lt (((i1 &&& (7 : Int32)) - (4 : Int32)).toInt64) (0 : Int64)).mp q))).1) k) ?_
      show own_G p.tables e below _ (T6.setTop (mkF m 57 #[.val (.long i0), .second, .val (.int i1), .val (.long (((i1 &&& (7 : Int32)) - (4 : Int32)).toInt64)), .second, .val (.int (1 : Int32)), .val (.long ((1 : Int64) + (((i1 &&& (7 : Int32)) - (4 : Int32)).toInt64))), .second, .unset, .unset, .unset, .unset] [(.int r6)]))
      refine own_st (fun _ k => XS.iconst X6.here hx rfl (hb hby at_57) k) ?_
      show own_G p.tables e below _ (T6.setTop (mkF m 58 #[.val (.long i0), .second, .val (.int i1), .val (.long (((i1 &&& (7 : Int32)) - (4 : Int32)).toInt64)), .second, .val (.int (1 : Int32)), .val (.long ((1 : Int64) + (((i1 &&& (7 : Int32)) - (4 : Int32)).toInt64))), .second, .unset, .unset, .unset, .unset] [(.int (1 : Int32)), (.int r6)]))
      refine own_st (fun _ k => XS.goto X6.here hx rfl (pc0 := 58) (pc' := 62) rfl (hb hby at_58) (by decide) (by decide) k) ?_
      show own_G p.tables e below _ (T6.setTop (mkF m 62 #[.val (.long i0), .second, .val (.int i1), .val (.long (((i1 &&& (7 : Int32)) - (4 : Int32)).toInt64)), .second, .val (.int (1 : Int32)), .val (.long ((1 : Int64) + (((i1 &&& (7 : Int32)) - (4 : Int32)).toInt64))), .second, .unset, .unset, .unset, .unset] [(.int (1 : Int32)), (.int r6)]))
      exact J62_8 (1 : Int32) ((own_bt hc54_7).symm)
  by_cases hc15_2 : (0 : Int64) < i0
  · refine own_st (fun _ k => XS.ifNo X1.here hx rfl (hb hby at_15) rfl ((if0 _ _).trans (tlt ((lw_gt i0 (0 : Int64)).mpr hc15_2)).2.2.2) k) ?_
    show own_G p.tables e below _ (T1.setTop (mkF m 18 #[.val (.long i0), .second, .val (.int i1), .val (.long (((i1 &&& (7 : Int32)) - (4 : Int32)).toInt64)), .second, .unset, .unset, .unset, .unset, .unset, .unset, .unset] [(.int r1)]))
    refine own_st (fun _ k => XS.lloadN X1.here hx rfl (hb hby at_18) rfl k) ?_
    show own_G p.tables e below _ (T1.setTop (mkF m 19 #[.val (.long i0), .second, .val (.int i1), .val (.long (((i1 &&& (7 : Int32)) - (4 : Int32)).toInt64)), .second, .unset, .unset, .unset, .unset, .unset, .unset, .unset] [(.long i0), (.int r1)]))
    refine own_st (fun _ k => XS.l2i X1.here hx rfl (hb hby at_19) rfl k) ?_
    show own_G p.tables e below _ (T1.setTop (mkF m 20 #[.val (.long i0), .second, .val (.int i1), .val (.long (((i1 &&& (7 : Int32)) - (4 : Int32)).toInt64)), .second, .unset, .unset, .unset, .unset, .unset, .unset, .unset] [(.int (i0.toInt32)), (.int r1)]))
    refine own_st (fun _ k => XS.i2l X1.here hx rfl (hb hby at_20) rfl k) ?_
    show own_G p.tables e below _ (T1.setTop (mkF m 21 #[.val (.long i0), .second, .val (.int i1), .val (.long (((i1 &&& (7 : Int32)) - (4 : Int32)).toInt64)), .second, .unset, .unset, .unset, .unset, .unset, .unset, .unset] [(.long ((i0.toInt32).toInt64)), (.int r1)]))
    refine own_st (fun _ k => XS.lloadN X1.here hx rfl (hb hby at_21) rfl k) ?_
    show own_G p.tables e below _ (T1.setTop (mkF m 22 #[.val (.long i0), .second, .val (.int i1), .val (.long (((i1 &&& (7 : Int32)) - (4 : Int32)).toInt64)), .second, .unset, .unset, .unset, .unset, .unset, .unset, .unset] [(.long i0), (.long ((i0.toInt32).toInt64)), (.int r1)]))
    refine own_st (fun _ k => XS.lcmp X1.here hx rfl (hb hby at_22) rfl k) ?_
    show own_G p.tables e below _ (T1.setTop (mkF m 23 #[.val (.long i0), .second, .val (.int i1), .val (.long (((i1 &&& (7 : Int32)) - (4 : Int32)).toInt64)), .second, .unset, .unset, .unset, .unset, .unset, .unset, .unset] [(.int (lcmpW ((i0.toInt32).toInt64) i0)), (.int r1)]))
    by_cases hc23_16 : ((i0.toInt32).toInt64) = i0
    · refine own_st (fun _ k => XS.ifNo X1.here hx rfl (hb hby at_23) rfl ((if0 _ _).trans (teq ((lw_eq ((i0.toInt32).toInt64) i0).mpr hc23_16)).2) k) ?_
      show own_G p.tables e below _ (T1.setTop (mkF m 26 #[.val (.long i0), .second, .val (.int i1), .val (.long (((i1 &&& (7 : Int32)) - (4 : Int32)).toInt64)), .second, .unset, .unset, .unset, .unset, .unset, .unset, .unset] [(.int r1)]))
      refine own_st (fun _ k => XS.iconst X1.here hx rfl (hb hby at_26) k) ?_
      show own_G p.tables e below _ (T1.setTop (mkF m 27 #[.val (.long i0), .second, .val (.int i1), .val (.long (((i1 &&& (7 : Int32)) - (4 : Int32)).toInt64)), .second, .unset, .unset, .unset, .unset, .unset, .unset, .unset] [(.int (1 : Int32)), (.int r1)]))
      refine own_st (fun _ k => XS.goto X1.here hx rfl (pc0 := 27) (pc' := 31) rfl (hb hby at_27) (by decide) (by decide) k) ?_
      show own_G p.tables e below _ (T1.setTop (mkF m 31 #[.val (.long i0), .second, .val (.int i1), .val (.long (((i1 &&& (7 : Int32)) - (4 : Int32)).toInt64)), .second, .unset, .unset, .unset, .unset, .unset, .unset, .unset] [(.int (1 : Int32)), (.int r1)]))
      exact J31_3 (1 : Int32) ((own_bt ⟨hc15_2, hc23_16⟩).symm)
    · refine own_st (fun _ k => XS.ifYes X1.here hx rfl (pc0 := 23) (pc' := 30) rfl (hb hby at_23) rfl ((if0 _ _).trans (feq (fun q => hc23_16 ((lw_eq ((i0.toInt32).toInt64) i0).mp q))).2) (by decide) (by decide) k) ?_
      show own_G p.tables e below _ (T1.setTop (mkF m 30 #[.val (.long i0), .second, .val (.int i1), .val (.long (((i1 &&& (7 : Int32)) - (4 : Int32)).toInt64)), .second, .unset, .unset, .unset, .unset, .unset, .unset, .unset] [(.int r1)]))
      refine own_st (fun _ k => XS.iconst X1.here hx rfl (hb hby at_30) k) ?_
      show own_G p.tables e below _ (T1.setTop (mkF m 31 #[.val (.long i0), .second, .val (.int i1), .val (.long (((i1 &&& (7 : Int32)) - (4 : Int32)).toInt64)), .second, .unset, .unset, .unset, .unset, .unset, .unset, .unset] [(.int (0 : Int32)), (.int r1)]))
      exact J31_3 (0 : Int32) ((own_bf (fun q => hc23_16 q.2)).symm)
  · refine own_st (fun _ k => XS.ifYes X1.here hx rfl (pc0 := 15) (pc' := 30) rfl (hb hby at_15) rfl ((if0 _ _).trans (flt (fun q => hc15_2 ((lw_gt i0 (0 : Int64)).mp q))).2.2.2) (by decide) (by decide) k) ?_
    show own_G p.tables e below _ (T1.setTop (mkF m 30 #[.val (.long i0), .second, .val (.int i1), .val (.long (((i1 &&& (7 : Int32)) - (4 : Int32)).toInt64)), .second, .unset, .unset, .unset, .unset, .unset, .unset, .unset] [(.int r1)]))
    refine own_st (fun _ k => XS.iconst X1.here hx rfl (hb hby at_30) k) ?_
    show own_G p.tables e below _ (T1.setTop (mkF m 31 #[.val (.long i0), .second, .val (.int i1), .val (.long (((i1 &&& (7 : Int32)) - (4 : Int32)).toInt64)), .second, .unset, .unset, .unset, .unset, .unset, .unset, .unset] [(.int (0 : Int32)), (.int r1)]))
    exact J31_3 (0 : Int32) ((own_bf (fun q => hc15_2 q.1)).symm)
set_option maxRecDepth 65536 in
set_option maxHeartbeats 40000000 in
theorem comes_1 {Post : Tables → Env → Array Value → State → Outcome → State → Prop} (hpost : ∀ tb e args s v u, (limb_1_1.after args s (.returned v) u = true ∧ limb_1_2.after args s (.returned v) u = true ∧ True) → FrameEnd s (.returned v) u (Jvm.fieldLocs frame_1_writes args s ++ Jvm.arrayLocs frame_1_arrays args s ++ Jvm.staticLocs frame_1_statics s) 0 0 → Post tb e args s (.returned v) u) :
    ArmFor flags0 classFile x code maxLocals ret World_1 tables_1 room_1 Calls_1 rest_1 Pre_1 Post := by
  intro l hfl _ _ p e ha hc hk s m args below hf hA hF happ hP
  obtain ⟨hcalls, hrest, hpre⟩ := hP
  obtain ⟨-, -, -, hnamed, -, -, -, hat⟩ := (Spec.applies_iff hf).mp happ
  obtain ⟨hg, hn⟩ := and_e (Cond.before_iff.mp (show (Jvm.Cond.and given_1 narrow_1).before args s = true from hpre))
  obtain ⟨gc, g0⟩ := and_e hg
  obtain ⟨ga0, g1⟩ := and_e g0
  obtain ⟨w0, w1, rfl⟩ : ∃ w0 w1 : Value, args = #[w0, w1] := by
    have hs : args.size = 2 := by simpa [Cond.value, given_1] using gc
    obtain ⟨L⟩ := args
    match L, hs with
    | [w0, w1], _ => exact ⟨w0, w1, rfl⟩
  have hw := fun d (hd : d ∈ tables_1) => atoms_spec (ws := Jvm.Cond.code x code maxLocals ret :: tables_1) hat d (List.mem_cons_of_mem _ hd)
  have hfit : Fit s := fun {y c} hc i hi => by
    obtain ⟨ha, rfl⟩ := Array.getElem?_eq_some_iff.mp hc
    have q := List.all_eq_true.mp ((Array.all_eq_true_iff_forall_mem.mp hF) _ (Array.getElem_mem ha)) i (List.mem_range.mpr hi)
    simpa [Array.getElem?_eq_getElem hi] using q
  obtain ⟨i0, ei0⟩ := isL_v ga0
  obtain rfl : w0 = (.long i0) := Option.some.inj ei0
  obtain ⟨i1, ei1⟩ := is_v g1
  obtain rfl : w1 = (.int i1) := Option.some.inj ei1
  obtain ⟨n, o, h1, h2, h3, _, L, rfl, ⟨rfl, N⟩, hq⟩ := rm0 l s _ hw tables_1 i0 i1  s.heap s.heap.size (Nat.le_refl _)   p e ha hc hk s m _ below hf ((Spec.applies_iff_loose hf).mp happ).1 ⟨rfl, State.Warmed39.refl s, rfl⟩ trivial
  refine ⟨n, _, h1, h2, h3, hpost _ _ _ _ _ _ ⟨Cond.after_iff.mpr rfl, Cond.after_iff.mpr (eq_i res_at (Term.int_eval (1)) rfl), trivial⟩ ⟨hq.1, hq.2.1, (hq.2.2.sift fun y hy => Or.inr (N y hy)).mono (by decide) (by decide)⟩⟩
theorem main_1_1 : Claimed_1_1 := comes_1 fun _ _ _ _ _ _ h hF => ⟨h.1, hF⟩
theorem main_1_2 : Claimed_1_2 := comes_1 fun _ _ _ _ _ _ h hF => ⟨h.2.1, hF⟩
end Jvm.Pilot.@@N@@
namespace Jvm.Pilot.@@N@@
open Jvm Jvm.ClassFile Sem Op Lib Jvm.Free Jvm.Stand Jvm.Pilot.@@N@@.Jvm.D
/-! MADE BY PROGRAM (witnessworld.py) out of the Statement's table words and the real class files: 9 classes; the members and pool entries that the words name. The judged class is class 1, her method 1. -/
namespace start1
open Jvm.ClassFile
def u (s : String) : CpInfo := .utf8 (stringToUtf16 s)
/-- a pool by its gaps: so many unusable entries, then the entry; so many at the end -/
def gap : Nat → List CpInfo → List CpInfo
  | 0, r => r
  | n + 1, r => .unusable :: gap n r
def poolList (es : List (Nat × CpInfo)) (last : Nat) : List CpInfo := es.foldr (fun e r => gap e.1 (e.2 :: r)) (gap last [])
def pool (es : List (Nat × CpInfo)) (last : Nat) : Array CpInfo := ⟨poolList es last⟩
def fileOf (pool : Array CpInfo) (this : Nat) (attrs : Array Attribute := #[]) (ms : Array MethodInfo := #[]) (fl : Nat := 33) (sup : Nat := 0) (ifs : Array Nat := #[]) (fds : Array FieldInfo := #[]) : ClassFile where
  minorVersion := 0
  majorVersion := 65
  constantPool := pool
  accessFlags := fl
  thisClass := this
  superClass := sup
  interfaces := ifs
  fields := fds
  methods := ms
  attributes := attrs
def plain (name : String) (sup : Option ClassId) : Class where
  name := name
  kind := .ordinary
  loader := none
  accessFlags := 33
  super := sup
  interfaces := #[]
  cf := none
  fields := #[]
  methods := #[]
  instanceTypes := #[]
  staticTypes := #[]
  resolved := #[]
  callSites := []
  init := .initialized
  statics := none
  mirror := none

def pool0 : Array CpInfo := pool [(5, u "<init>"), (0, u "()V"), (1, .class_ 10), (1, u "java/lang/Object")] 113

def k0m0 : Method := { name := "<init>", desc := "()V", sig := { parameters := [], returnType := none }, accessFlags := 1, code := none }
/-- java/lang/Object -/
def k0 : Class := { plain "java/lang/Object" none with
  accessFlags := 33
  interfaces := #[]
  cf := some (fileOf pool0 8 #[] #[{ accessFlags := 1, nameIndex := 5, descriptorIndex := 6, attributes := #[] }] 33 0 #[] #[])
  fields := #[]
  methods := #[k0m0]
  instanceTypes := #[]
  staticTypes := #[]
  resolved := Array.replicate 124 none
  statics := none }

def pool1 : Array CpInfo := pool [(2, .class_ 4), (1, u "java/lang/Object"), (0, u "<init>"), (0, u "()V"), (0, .methodref 8 9), (0, .class_ 10), (0, .nameAndType 11 12), (0, u "com/example/stakan/stakan/core/Order"), (0, u "isValidQuantity"), (0, u "(J)Z"), (0, .long 2147483647), (1, .class_ 16), (0, u "com/example/stakan/stakan/core/OrderIsValidQuantityPinLaw"), (2, u "law"), (0, u "(JI)Z")] 3

def k1m0 : Method := { name := "<init>", desc := "()V", sig := { parameters := [], returnType := none }, accessFlags := 2, code := none }
def k1c1 : Code := { maxStack := 5, maxLocals := 12, code := code, exceptionTable := #[], attributes := #[] }
def k1m1 : Method := { name := "law", desc := "(JI)Z", sig := { parameters := [.long, .int], returnType := some .boolean }, accessFlags := 9, code := some k1c1 }
/-- com/example/stakan/stakan/core/OrderIsValidQuantityPinLaw -/
def k1 : Class := { plain "com/example/stakan/stakan/core/OrderIsValidQuantityPinLaw" (some 0) with
  accessFlags := 49
  interfaces := #[]
  cf := some (fileOf pool1 15 #[] #[{ accessFlags := 2, nameIndex := 5, descriptorIndex := 6, attributes := #[] }, { accessFlags := 9, nameIndex := 19, descriptorIndex := 20, attributes := #[] }] 49 2 #[] #[])
  fields := #[]
  methods := #[k1m0, k1m1]
  instanceTypes := #[]
  staticTypes := #[]
  resolved := Array.replicate 24 none
  statics := none }

def pool2 : Array CpInfo := pool [(4, .class_ 6), (1, u "com/example/stakan/stakan/core/Order"), (3, .class_ 12), (1, u "java/lang/Object"), (2, u "id"), (10, u "Ljava/lang/String;"), (1, u "instrument"), (4, u "Lcom/example/stakan/stakan/core/Instrument;"), (1, u "side"), (4, u "Lcom/example/stakan/stakan/core/Side;"), (1, u "account"), (4, u "isValidQuantity"), (0, u "(J)Z"), (11, u "price"), (0, u "J"), (2, u "limit"), (0, u "Z"), (2, u "openQuantity"), (0, .long 2147483647), (3, u "level"), (0, u "Lcom/example/stakan/stakan/core/PriceLevel;"), (0, u "MAX_QUANTITY"), (1, u "previous"), (0, u "Lcom/example/stakan/stakan/core/Order;"), (0, u "next"), (0, u "sequence")] 32

def k2c0 : Code := { maxStack := 4, maxLocals := 2, code := prog_14_method_4_code, exceptionTable := #[], attributes := #[] }
def k2m0 : Method := { name := "isValidQuantity", desc := "(J)Z", sig := { parameters := [.long], returnType := some .boolean }, accessFlags := 9, code := some k2c0 }
/-- com/example/stakan/stakan/core/Order -/
def k2 : Class := { plain "com/example/stakan/stakan/core/Order" (some 0) with
  accessFlags := 49
  interfaces := #[]
  cf := some (fileOf pool2 4 #[] #[{ accessFlags := 9, nameIndex := 47, descriptorIndex := 48, attributes := #[] }] 49 10 #[] #[{ accessFlags := 25, nameIndex := 75, descriptorIndex := 61, attributes := #[] }, { accessFlags := 18, nameIndex := 15, descriptorIndex := 26, attributes := #[] }, { accessFlags := 18, nameIndex := 28, descriptorIndex := 33, attributes := #[] }, { accessFlags := 18, nameIndex := 35, descriptorIndex := 40, attributes := #[] }, { accessFlags := 18, nameIndex := 60, descriptorIndex := 61, attributes := #[] }, { accessFlags := 18, nameIndex := 64, descriptorIndex := 65, attributes := #[] }, { accessFlags := 18, nameIndex := 42, descriptorIndex := 26, attributes := #[] }, { accessFlags := 2, nameIndex := 68, descriptorIndex := 61, attributes := #[] }, { accessFlags := 0, nameIndex := 73, descriptorIndex := 74, attributes := #[] }, { accessFlags := 0, nameIndex := 77, descriptorIndex := 78, attributes := #[] }, { accessFlags := 0, nameIndex := 79, descriptorIndex := 78, attributes := #[] }, { accessFlags := 0, nameIndex := 80, descriptorIndex := 61, attributes := #[] }])
  fields := #[{ name := "MAX_QUANTITY", type := .long, accessFlags := 25, slot := 0, constantValue := 0 }, { name := "id", type := (.object "java/lang/String"), accessFlags := 18, slot := 0, constantValue := 0 }, { name := "instrument", type := (.object "com/example/stakan/stakan/core/Instrument"), accessFlags := 18, slot := 1, constantValue := 0 }, { name := "side", type := (.object "com/example/stakan/stakan/core/Side"), accessFlags := 18, slot := 2, constantValue := 0 }, { name := "price", type := .long, accessFlags := 18, slot := 3, constantValue := 0 }, { name := "limit", type := .boolean, accessFlags := 18, slot := 4, constantValue := 0 }, { name := "account", type := (.object "java/lang/String"), accessFlags := 18, slot := 5, constantValue := 0 }, { name := "openQuantity", type := .long, accessFlags := 2, slot := 6, constantValue := 0 }, { name := "level", type := (.object "com/example/stakan/stakan/core/PriceLevel"), accessFlags := 0, slot := 7, constantValue := 0 }, { name := "previous", type := (.object "com/example/stakan/stakan/core/Order"), accessFlags := 0, slot := 8, constantValue := 0 }, { name := "next", type := (.object "com/example/stakan/stakan/core/Order"), accessFlags := 0, slot := 9, constantValue := 0 }, { name := "sequence", type := .long, accessFlags := 0, slot := 10, constantValue := 0 }]
  methods := #[k2m0]
  instanceTypes := #[(.object "java/lang/String"), (.object "com/example/stakan/stakan/core/Instrument"), (.object "com/example/stakan/stakan/core/Side"), .long, .boolean, (.object "java/lang/String"), .long, (.object "com/example/stakan/stakan/core/PriceLevel"), (.object "com/example/stakan/stakan/core/Order"), (.object "com/example/stakan/stakan/core/Order"), .long]
  staticTypes := #[.long]
  resolved := Array.replicate 113 none
  statics := none }

def pool3 : Array CpInfo := pool [(1, u "java/lang/Cloneable"), (0, .class_ 1), (0, u "java/lang/Object"), (0, .class_ 3)] 3

/-- java/lang/Cloneable -/
def k3 : Class := { plain "java/lang/Cloneable" (some 0) with
  accessFlags := 1537
  interfaces := #[]
  cf := some (fileOf pool3 2 #[] #[] 1537 4 #[] #[])
  fields := #[]
  methods := #[]
  instanceTypes := #[]
  staticTypes := #[]
  resolved := Array.replicate 8 none
  statics := none }

def pool4 : Array CpInfo := pool [(1, u "java/io/Serializable"), (0, .class_ 1), (0, u "java/lang/Object"), (0, .class_ 3)] 3

/-- java/io/Serializable -/
def k4 : Class := { plain "java/io/Serializable" (some 0) with
  accessFlags := 1537
  interfaces := #[]
  cf := some (fileOf pool4 2 #[] #[] 1537 4 #[] #[])
  fields := #[]
  methods := #[]
  instanceTypes := #[]
  staticTypes := #[]
  resolved := Array.replicate 8 none
  statics := none }

/-- the primitive byte -/
def k5 : Class := { plain "byte" none with kind := .primitive 'B', accessFlags := 0x411 }
/-- [B -/
def k6 : Class := { plain "[B" (some 0) with kind := .array 5 .byte, interfaces := #[3, 4], accessFlags := 1041 }

/-- the primitive int -/
def k7 : Class := { plain "int" none with kind := .primitive 'I', accessFlags := 0x411 }
/-- [I -/
def k8 : Class := { plain "[I" (some 0) with kind := .array 7 .int, interfaces := #[3, 4], accessFlags := 1041 }

def heap : Heap := #[]
def classes : Array Class := #[k0, k1, k2, k3, k4, k5, k6, k7, k8]
def interned : List (Array UInt16 × Addr) := []
def slotsUsed : Nat := 0
def theMethod : MethodId := ⟨1, 1⟩
def args0 : Array Value := #[.long 5, .int 5]
def aboutOver (below : List Frame) : State where
  vm := { classes := classes, interned := interned.toArray }
  heap := heap
  slotsUsed := slotsUsed
  threads := #[{ frames := .invoking theMethod args0 :: below }]
def below0 : List Frame := [.native { method := ⟨0, 0⟩, args := #[] }]
def about1 : State := aboutOver below0
def p0 : Program := .bare "" "" ""
def e0 : Env := launch0.env 0 0 0
theorem w_frames : about1.frames = Frame.invoking theMethod args0 :: below0 := rfl
set_option maxRecDepth 65536 in
theorem w_args : argsFit about1.vm theMethod args0 = true := by decide +kernel
set_option maxRecDepth 65536 in
theorem w_heap : heapFits about1 = true := by decide +kernel
set_option maxRecDepth 65536 in
theorem w_runnable : about1.curStatus? = some .runnable := by decide +kernel
set_option maxRecDepth 65536 in
theorem w_alone : about1.alone = true := by decide +kernel
set_option maxRecDepth 65536 in
theorem w_named : about1.methodNamed? x = some theMethod := by decide +kernel
set_option maxRecDepth 65536 in
theorem w_hears : about1.hears theMethod below0 = true := by decide +kernel
set_option maxRecDepth 65536 in
theorem w_ripe : about1.ripe theMethod args0 below0 = true := by decide +kernel
theorem w_running : about1.status = .running := rfl
set_option maxRecDepth 65536 in
theorem w_room : about1.hasRoom e0.platform room_1 = true :=
  launch0.hasRoom_least _ room_1 (by decide +kernel) (by decide +kernel) (by decide +kernel) (by decide +kernel) (by decide +kernel) (by decide +kernel)
theorem allAtoms_all (ts : List Jvm.Cond) (a : Array Jvm.Value) (st : Jvm.State) : (allAtoms ts).before a st = ts.all (fun c => c.before a st) := by
  induction ts with
  | nil => rfl
  | cons c t ih =>
    show (Jvm.Cond.and c (allAtoms t)).before a st = _
    rw [Jvm.Cond.before_and, ih, List.all_cons]
def words1 : List Jvm.Cond := Jvm.Cond.code x code maxLocals ret :: tables_1
/-- a 'code' word, met by the world's own term for the bytes: nothing is compared byte by byte -/
theorem code_word {y : MethodName} {bytes : ByteArray} {mx : Nat} {rt : Option FieldType} {a : Array Value} {s : State} {m : MethodId} {meth : Method} {c : Code} (h1 : s.methodNamed? y = some m) (h2 : s.vm.method? m = some meth) (h3 : meth.code = some c) (h4 : c.code = bytes)
    (h5 : (c.maxLocals == mx && c.exceptionTable.isEmpty && decide (c.maxStack ≤ mostOperands) && decide (meth.sig.returnType = rt) && !meth.locks && decide (parseMethodDescriptor y.desc = some meth.sig)) = true) : (Jvm.Cond.code y bytes mx rt).before a s = true := by
  simp only [Bool.and_eq_true, beq_iff_eq, Bool.not_eq_true', decide_eq_true_eq] at h5
  obtain ⟨⟨⟨⟨⟨g1, g2⟩, g3⟩, g4⟩, g5⟩, g6⟩ := h5
  simp [Cond.before, Cond.holds, Cond.value, h1, h2, h3, h4, g1, g2, g3, g4, g5, g6]
def isCode : Jvm.Cond → Bool
  | .code _ _ _ _ => true
  | _ => false
theorem all_split {L : List Jvm.Cond} {P : Jvm.Cond → Bool} (h1 : L.all (fun c => isCode c || P c) = true) (h2 : ∀ c ∈ L.filter isCode, P c = true) : L.all P = true := by
  refine List.all_eq_true.mpr fun c hc => ?_
  have h := List.all_eq_true.mp h1 c hc
  rcases Bool.eq_false_or_eq_true (isCode c) with hi | hi
  · exact h2 c (List.mem_filter.mpr ⟨hc, hi⟩)
  · simpa [hi] using h
set_option maxRecDepth 65536 in
theorem w_c0 : (Jvm.Cond.code x code maxLocals ret).before args0 about1 = true := code_word (m := ⟨1, 1⟩) (meth := k1m1) (c := k1c1) (by decide +kernel) rfl rfl rfl (by decide +kernel)
set_option maxRecDepth 65536 in
theorem w_c1 : (Jvm.Cond.code ({ cls := "com/example/stakan/stakan/core/Order", name := "isValidQuantity", desc := "(J)Z" } : Jvm.MethodName) prog_14_method_4_code (2 : Nat) (Option.some Jvm.ClassFile.FieldType.boolean)).before args0 about1 = true := code_word (m := ⟨2, 0⟩) (meth := k2m0) (c := k2c0) (by decide +kernel) rfl rfl rfl (by decide +kernel)
def codes1 : List Jvm.Cond := [Jvm.Cond.code x code maxLocals ret, Jvm.Cond.code ({ cls := "com/example/stakan/stakan/core/Order", name := "isValidQuantity", desc := "(J)Z" } : Jvm.MethodName) prog_14_method_4_code (2 : Nat) (Option.some Jvm.ClassFile.FieldType.boolean)]
set_option maxRecDepth 65536 in
theorem codes_eq : words1.filter isCode = codes1 := rfl
theorem w_codes : ∀ c ∈ words1.filter isCode, c.before args0 about1 = true := by
  rw [codes_eq]
  intro c hc
  simp only [codes1, List.mem_cons, List.not_mem_nil, or_false] at hc
  rcases hc with rfl | rfl
  · exact w_c0
  · exact w_c1
set_option maxRecDepth 65536 in
theorem w_t1 : words1.all (fun c => isCode c || c.before args0 about1) = true := by decide +kernel
theorem w_tables : (allAtoms (Jvm.Cond.code x code maxLocals ret :: tables_1)).before args0 about1 = true := by
  rw [allAtoms_all]
  show words1.all (fun c => c.before args0 about1) = true
  refine all_split ?_ w_codes
  rw [w_t1]
set_option maxRecDepth 65536 in
theorem w_case : (Jvm.Cond.and given_1 narrow_1).before args0 about1 = true := by decide +kernel
theorem w_applies : (headSpec (Jvm.Cond.code x code maxLocals ret :: tables_1) room_1).applies x e0.platform about1 = true :=
  (Spec.applies_iff w_frames).mpr ⟨w_running, w_runnable, w_alone, w_named, w_hears, w_ripe, w_room, w_tables⟩
theorem atStart : AtStart classFile x code maxLocals ret World_1 tables_1 room_1 Calls_1 rest_1 Pre_1 launch0 p0 e0 about1 theMethod args0 below0 :=
  ⟨lists_1, trivial, launch0.admits_env _ _ _, launch0.least_env, fairChoices_fair.cas, fairChoices_fair.clock, w_frames, w_args, w_heap, w_applies, trivial, trivial, w_case⟩
end start1
theorem witness_1 : WitnessClaimed_1 := ⟨start1.p0, start1.e0, start1.about1, start1.theMethod, start1.args0, start1.below0, start1.atStart⟩
end Jvm.Pilot.@@N@@
