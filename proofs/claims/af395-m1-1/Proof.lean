import JvmDerived
import JvmDerived.Pilot.@@N@@Statement
import JvmDerived.Pilot.@@N@@Code
set_option linter.unusedVariables false
set_option linter.unusedSimpArgs false
namespace Jvm.RoadKit
open Sem ClassFile Op Lib Jvm.Stand Jvm.Free Jvm.LawKit
section New
variable {p : Program} {l : Launch} {e : Env} {R : Room} {s : State} {m : MethodId} {args : Array Value} {below : List Frame} {meth : Method} {c : Code} {T : State} {locs : List Loc} {cells slots : Nat}
theorem retI (X : Stand p l e R s m args below meth c T locs cells slots) (hx : p.tables.exec = Jvm.exec) {pc : Nat} {Ls : Array Slot} {z : Int32} {rest : List Value} (hret : meth.sig.returnType = some .int) (hd : decode c.code pc = .ok (.ireturn, 1)) {fs : List Frame}
    (hl : ∀ (f : JFrame) (acts : List Action), f.method = m → f.locked = none → f.entered = [] → (doReturn e (T.setTop f) acts (some (.int z))).1 = T.setFrames fs) : Steps p.tables e below (T.setTop (mkF m pc Ls (.int z :: rest))) (T.setFrames fs) := by
  have hm' : T.vm.method? m = some meth := X.method'
  have hn : narrow .int (.int z) = .int z := rfl
  show Steps p.tables e below (T.setTop { method := m, pc := pc, locals := Ls, stack := _ :: rest, locked := none }) _
  jvm_step X.here [X.here.top, hx, hd, hm', hret, hn]
  first | (intro acts; rw [hl _ acts rfl rfl rfl]) | rw [hl _ _ rfl rfl rfl]
  exact Steps.refl _
end New
end Jvm.RoadKit
namespace Jvm.Pilot.@@N@@
open Jvm Jvm.ClassFile Sem Op Lib Jvm.Free Jvm.Stand Jvm.LawKit Jvm.RoadKit Bundle Jvm.Pilot.@@N@@.Jvm.D
theorem own_le {a b : Nat} (h : a = b) : 2 * 0 + a ≤ b := by omega
theorem own_m (i : Nat) {d : Jvm.Cond} (h : tables_1[i]? = some d) : d ∈ tables_1 := List.mem_of_getElem? h
/-- from the state T at the frame g the method comes to its return, with Q of what it returns -/
def own_Goes (tb : Tables) (e : Env) (below : List Frame) (s : State) (Q : Option Value → Heap → List Loc → Prop) (rc rs : Nat) (T : State) (g : JFrame) : Prop :=
  ∃ s₂ o, Steps tb e below (T.setTop g) s₂ ∧ s₂.status = .running ∧ Ended s₂ below o ∧ ∃ v L, o = .returned v ∧ Q v s₂.heap L ∧ FrameEnd s o s₂ L rc rs
theorem own_by {tb : Tables} {e : Env} {below : List Frame} {s : State} {Q : Option Value → Heap → List Loc → Prop} {rc rs : Nat} {T T' : State} {g g' : JFrame} (h : ∀ t, Steps tb e below (T'.setTop g') t → Steps tb e below (T.setTop g) t) (k : own_Goes tb e below s Q rc rs T' g') : own_Goes tb e below s Q rc rs T g := by
  obtain ⟨s₂, o, h1, h2⟩ := k
  exact ⟨s₂, o, h _ h1, h2⟩
section OwnRet
variable {p : Program} {l : Launch} {e : Env} {R : Room} {s : State} {m : MethodId} {args : Array Value} {below : List Frame} {meth : Method} {c : Code} {T : State} {locs : List Loc} {cells slots : Nat} {Q : Option Value → Heap → List Loc → Prop} {rc rs : Nat} {pc : Nat} {Ls : Array Slot} {rest : List Value}
theorem own_retI (X : Stand p l e R s m args below meth c T locs cells slots) (hx : p.tables.exec = Jvm.exec) {z : Int32} (hlk : meth.locks = false) (hret : meth.sig.returnType = some .int) (hd : decode c.code pc = .ok (.ireturn, 1)) (hc : cells ≤ rc) (hs : slots ≤ rs)
    (hQ : Q (some (.int z)) T.heap locs) : own_Goes p.tables e below s Q rc rs T (mkF m pc Ls (.int z :: rest)) := by
  obtain ⟨fs, hr, hrun, hended, hW, hsame⟩ := X.leave (v := some (.int z)) (fun h => by rw [hret] at h; cases h)
  exact ⟨_, _, retI X hx hret hd hr, hrun, hended, _, _, rfl, hQ, ⟨_, rfl⟩, hW, hsame.mono hc hs⟩
theorem own_retN (X : Stand p l e R s m args below meth c T locs cells slots) (hx : p.tables.exec = Jvm.exec) {z : Int32} {t : FieldType} (hlk : meth.locks = false) (hret : meth.sig.returnType = some t) (ht : t = .boolean ∨ t = .byte ∨ t = .char ∨ t = .short) (hd : decode c.code pc = .ok (.ireturn, 1)) (hc : cells ≤ rc) (hs : slots ≤ rs)
    (hQ : Q (some (.int (nar t z))) T.heap locs) : own_Goes p.tables e below s Q rc rs T (mkF m pc Ls (.int z :: rest)) := by
  obtain ⟨fs, hr, hrun, hended, hW, hsame⟩ := X.leave (v := some (.int (nar t z))) (fun h => by rw [hret] at h; cases h)
  exact ⟨_, _, retN X hx hret ht hd hr, hrun, hended, _, _, rfl, hQ, ⟨_, rfl⟩, hW, hsame.mono hc hs⟩
theorem own_retV (X : Stand p l e R s m args below meth c T locs cells slots) (hx : p.tables.exec = Jvm.exec) (hlk : meth.locks = false) (hret : meth.sig.returnType = none) (hd : decode c.code pc = .ok (.return_, 1)) (hc : cells ≤ rc) (hs : slots ≤ rs)
    (hQ : Q none T.heap locs) : own_Goes p.tables e below s Q rc rs T (mkF m pc Ls []) := by
  obtain ⟨fs, hr, hrun, hended, hW, hsame⟩ := X.leave (v := none) (fun _ => rfl)
  exact ⟨_, _, X.returnOut hx hret hd hr, hrun, hended, _, _, rfl, hQ, ⟨_, rfl⟩, hW, hsame.mono hc hs⟩
theorem own_retJ (X : Stand p l e R s m args below meth c T locs cells slots) (hx : p.tables.exec = Jvm.exec) {z : Int64} (hlk : meth.locks = false) (hret : meth.sig.returnType = some .long) (hd : decode c.code pc = .ok (.lreturn, 1)) (hc : cells ≤ rc) (hs : slots ≤ rs)
    (hQ : Q (some (.long z)) T.heap locs) : own_Goes p.tables e below s Q rc rs T (mkF m pc Ls (.long z :: rest)) := by
  obtain ⟨fs, hr, hrun, hended, hW, hsame⟩ := X.leave (v := some (.long z)) (fun h => by rw [hret] at h; cases h)
  exact ⟨_, _, retOut X hx hret rfl (Or.inr (Or.inl ⟨rfl, rfl, _, rfl⟩)) hd hr, hrun, hended, _, _, rfl, hQ, ⟨_, rfl⟩, hW, hsame.mono hc hs⟩
theorem own_retA (X : Stand p l e R s m args below meth c T locs cells slots) (hx : p.tables.exec = Jvm.exec) {w : Value} {t : FieldType} (hlk : meth.locks = false) (hret : meth.sig.returnType = some t) (ht : t.isReference = true) (hw : w.isRef = true) (hn : narrow t w = w) (hd : decode c.code pc = .ok (.areturn, 1)) (hc : cells ≤ rc) (hs : slots ≤ rs)
    (hQ : Q (some w) T.heap locs) : own_Goes p.tables e below s Q rc rs T (mkF m pc Ls (w :: rest)) := by
  obtain ⟨fs, hr, hrun, hended, hW, hsame⟩ := X.leave (v := some w) (fun h => by rw [hret] at h; cases h)
  exact ⟨_, _, retOut X hx hret hn (Or.inr (Or.inr (Or.inr (Or.inr ⟨rfl, ht, hw⟩)))) hd hr, hrun, hended, _, _, rfl, hQ, ⟨_, rfl⟩, hW, hsame.mono hc hs⟩
end OwnRet
theorem own_nsE {Z : State} {h : Heap} {a : Addr} {C : String} (E : Exa Z h a C) : ∃ c : Cell, h[a]? = some c ∧ c.vm.isStatics = false := by
  obtain ⟨c, k, h1, -, -, h4, -⟩ := E
  exact ⟨c, h1, h4⟩
theorem own_nsV {Z : State} {h : Heap} {a : Addr} {k : ClassId} {ty : FieldType} {n : Int32} {vs : List Value} {d : Value} (F : Arv Z h a k ty n vs d) : ∃ c : Cell, h[a]? = some c ∧ c.vm.isStatics = false := by
  obtain ⟨c, A, -⟩ := F
  exact ⟨c, A.1, A.plain⟩
theorem own_staKeep {Z : State} {h h' : Heap} {C n d : String} {v : Value} {ws : List Addr} (S : Sta Z h C n d v) (K : Keep h h' ws) (q : ∀ x ∈ ws, ∃ c : Cell, h[x]? = some c ∧ c.vm.isStatics = false) : Sta Z h' C n d v := by
  obtain ⟨cf, i, k, f, st, cell, h1, h2, h3, h4, h5, h6, h7⟩ := S
  refine ⟨cf, i, k, f, st, cell, h1, h2, h3, h4, K.2.1 st cell h5 (fun hin => ?_), h6, h7⟩
  obtain ⟨c, hc, hs⟩ := q st hin
  rw [h5] at hc
  cases hc
  rw [h6] at hs
  cases hs
theorem own_arrKeep {Z : State} {h h' : Heap} {a : Addr} {c : Cell} {ty : FieldType} {ws : List Addr} (A : Arr Z h a c ty) (K : Keep h h' ws) (q : a ∉ ws) : Arr Z h' a c ty := ⟨K.2.1 a c A.1 q, A.2⟩
theorem own_law (a b : Int64) : ¬ ((1000 : Int64) * ((((((b + ((a &&& (1099511627775 : Int64)) - (999 : Int64))) - b) + (999 : Int64)) / (1000 : Int64)).toInt32).toInt64) < ((a &&& (1099511627775 : Int64)) - (999 : Int64))) ∧
    (((1000 : Int64) * ((((((b + ((a &&& (1099511627775 : Int64)) - (999 : Int64))) - b) + (999 : Int64)) / (1000 : Int64)).toInt32).toInt64)) - (1000 : Int64)) < ((a &&& (1099511627775 : Int64)) - (999 : Int64)) := by
  have h1 : (a &&& (1099511627775 : Int64)).toInt = a.toInt % (2 ^ 40 : Nat) := c_maskL a 1099511627775 40 (by decide) (by decide)
  generalize (a &&& (1099511627775 : Int64)) = m at *
  have e999 : (999 : Int64).toInt = 999 := by decide
  have e1000 : (1000 : Int64).toInt = 1000 := by decide
  have s1 := c_lsub m 999
  generalize hd : m - 999 = d at *
  have s2 := c_ladd b d
  generalize b + d = u at *
  have s3 := c_lsub u b
  generalize u - b = v at *
  have s4 := c_ladd v 999
  generalize v + 999 = x at *
  have s5 := c_ldiv x 1000 1000 (by decide) (by decide)
  generalize x / 1000 = y at *
  have s6 := c_l2i y
  have s6' := c_i2l y.toInt32
  have r1 := rng64 m
  have r2 := rng64 d
  have r3 := rng64 u
  have r4 := rng64 b
  have r5 := rng64 v
  have r6 := rng64 x
  have r7 := rng64 y
  have r8 := rng32 y.toInt32
  generalize y.toInt32.toInt64 = z at *
  generalize y.toInt32 = z0 at *
  have s7 := c_lmul 1000 z
  have r9 := rng64 (1000 * z)
  generalize 1000 * z = q at *
  have s8 := c_lsub q 1000
  have r10 := rng64 (q - 1000)
  generalize q - 1000 = q2 at *
  rw [e999] at s1 s4
  rw [e1000] at s7 s8
  have hx : x.toInt = m.toInt := by omega
  have hy : y.toInt = m.toInt / 1000 := by
    have := s5.1 (by omega)
    omega
  have hz : z.toInt = m.toInt / 1000 := by omega
  have hq : q.toInt = 1000 * (m.toInt / 1000) := by omega
  rw [Int64.lt_iff_toInt_lt, Int64.lt_iff_toInt_lt]
  omega

theorem pn_com_example_gate2_gate2_Interval : plainName "com/example/gate2/gate2/Interval" = true := by first | (simp [plainName, overriddenIn]; done) | decide +kernel
theorem ef_1 (m : MethodId) (q1 : Int64) (q2 : Int64) : entryFrame m #[(.long q1), (.long q2)] 4 = mkF m 0 #[.val (.long q1), .second, .val (.long q2), .second] [] := by first | (simp [entryFrame, mkF, argsToLocals, Value.category]; done) | rfl
theorem d1_0 : decode prog_8_method_9_code 0 = .ok (.lload_n 0, 1) := by decide +kernel
theorem d1_1 : decode prog_8_method_9_code 1 = .ok (.lload_n 2, 1) := by decide +kernel
theorem d1_2 : decode prog_8_method_9_code 2 = .ok (.lsub, 1) := by decide +kernel
theorem d1_3 : decode prog_8_method_9_code 3 = .ok (.ldc2_w 105, 3) := by decide +kernel
theorem d1_6 : decode prog_8_method_9_code 6 = .ok (.ladd, 1) := by decide +kernel
theorem d1_7 : decode prog_8_method_9_code 7 = .ok (.ldc2_w 107, 3) := by decide +kernel
theorem d1_10 : decode prog_8_method_9_code 10 = .ok (.ldiv, 1) := by decide +kernel
theorem d1_11 : decode prog_8_method_9_code 11 = .ok (.l2i, 1) := by decide +kernel
theorem d1_12 : decode prog_8_method_9_code 12 = .ok (.ireturn, 1) := by decide +kernel
def Q1 (Z : State) (q1 : Int64) (q2 : Int64) (h0 : Heap) (n0 : Nat) (v : Option Value) (h : Heap) (L : List Loc) : Prop := v = some (.int ((((q1 - q2) + (999 : Int64)) / (1000 : Int64)).toInt32)) ∧ Fr n0 L ∧ h = h0
set_option maxRecDepth 65536 in
set_option maxHeartbeats 40000000 in
theorem rm1 (l : Launch) (Z : State) (a0 : Array Value) (hw : ∀ d ∈ tables_1, d.before a0 Z = true) (ws : List Jvm.Cond) (q1 : Int64) (q2 : Int64) (h0 : Heap) (n0 : Nat) (Zle : n0 ≤ h0.size) :
    MetFree l (⟨"com/example/gate2/gate2/Interval", "secondsUntil", "(JJ)I"⟩ : MethodName) (head1 (Jvm.Cond.code (⟨"com/example/gate2/gate2/Interval", "secondsUntil", "(JJ)I"⟩ : MethodName) prog_8_method_9_code 4 (some .int) :: ws) ({ frames := 0, cells := 0, slots := 0, locals := 0 } : Room)) (fun a U => a = #[(.long q1), (.long q2)] ∧ Z.Warmed39 U.vm ∧ U.heap = h0) (fun _ _ _ _ _ => True) (fun _ U o U' => ∃ v L, o = .returned v ∧ Q1 Z q1 q2 h0 n0 v U'.heap L ∧ FrameEnd U o U' L ({ frames := 0, cells := 0, slots := 0, locals := 0 } : Room).cells ({ frames := 0, cells := 0, slots := 0, locals := 0 } : Room).slots) := by
  refine MetFree.of_bodySF (plainFor_of_name pn_com_example_gate2_gate2_Interval) hisR ?_
  intro p e s m args below meth c s₁ Bd hml0 hP hK
  obtain ⟨rfl, hZ, hh⟩ := hP
  have hx := Bd.exec
  have hby := Bd.bytes
  have hml : c.maxLocals = 4 := hml0
  have hown : s.vm.findClass "com/example/gate2/gate2/Interval" = some m.cls := findClass_of_methodNamed Bd.named
  have hnm := (name_of_methodNamed Bd.named Bd.method).1
  have X0 : Stand p l e ({ frames := 0, cells := 0, slots := 0, locals := 0 } : Room) s m #[(.long q1), (.long q2)] below meth c s₁ [] 0 0 := Stand.of_body Bd
  have e0 : s₁.heap = h0 := by rw [← hh, Bd.state]; rfl
  have N_ := Fr.nil n0
  have K_ := Keep.refl h0 []
  show own_Goes p.tables e below s (Q1 Z q1 q2 h0 n0) ({ frames := 0, cells := 0, slots := 0, locals := 0 } : Room).cells ({ frames := 0, cells := 0, slots := 0, locals := 0 } : Room).slots s₁ (entryFrame m #[(.long q1), (.long q2)] 4)
  refine own_by (T' := s₁) (g' := (mkF m 0 #[.val (.long q1), .second, .val (.long q2), .second] [])) (fun t k => castTop (ef_1 m q1 q2) k) ?_
  refine own_by (T' := s₁) (g' := (mkF m 1 #[.val (.long q1), .second, .val (.long q2), .second] [(.long q1)])) (fun t k => XS.lloadN X0.here hx rfl (hb hby d1_0) rfl k) ?_
  refine own_by (T' := s₁) (g' := (mkF m 2 #[.val (.long q1), .second, .val (.long q2), .second] [(.long q2), (.long q1)])) (fun t k => XS.lloadN X0.here hx rfl (hb hby d1_1) rfl k) ?_
  refine own_by (T' := s₁) (g' := (mkF m 3 #[.val (.long q1), .second, .val (.long q2), .second] [(.long (q1 - q2))])) (fun t k => XS.lsub X0.here hx rfl (hb hby d1_2) rfl k) ?_
  refine own_by (T' := s₁) (g' := (mkF m 6 #[.val (.long q1), .second, .val (.long q2), .second] [(.long 999), (.long (q1 - q2))])) (fun t k => X0.ldc2Long hx hown (mvT hZ (hw _ (own_m 6 rfl))) (g := (mkF m 3 #[.val (.long q1), .second, .val (.long q2), .second] [(.long (q1 - q2))])) rfl (hb hby d1_3) _ k) ?_
  refine own_by (T' := s₁) (g' := (mkF m 7 #[.val (.long q1), .second, .val (.long q2), .second] [(.long ((q1 - q2) + (999 : Int64)))])) (fun t k => XS.ladd X0.here hx rfl (hb hby d1_6) rfl k) ?_
  refine own_by (T' := s₁) (g' := (mkF m 10 #[.val (.long q1), .second, .val (.long q2), .second] [(.long 1000), (.long ((q1 - q2) + (999 : Int64)))])) (fun t k => X0.ldc2Long hx hown (mvT hZ (hw _ (own_m 7 rfl))) (g := (mkF m 7 #[.val (.long q1), .second, .val (.long q2), .second] [(.long ((q1 - q2) + (999 : Int64)))])) rfl (hb hby d1_7) _ k) ?_
  refine own_by (T' := s₁) (g' := (mkF m 11 #[.val (.long q1), .second, .val (.long q2), .second] [(.long (((q1 - q2) + (999 : Int64)) / (1000 : Int64)))])) (fun t k => XS.ldiv X0.here hx rfl (hb hby d1_10) rfl (by decide) k) ?_
  refine own_by (T' := s₁) (g' := (mkF m 12 #[.val (.long q1), .second, .val (.long q2), .second] [(.int ((((q1 - q2) + (999 : Int64)) / (1000 : Int64)).toInt32))])) (fun t k => XS.l2i X0.here hx rfl (hb hby d1_11) rfl k) ?_
  exact own_retI X0 hx Bd.notSynchronized Bd.returns (hb hby d1_12) (by decide) (by decide) (by rw [e0]; exact ⟨rfl, N_, rfl⟩)

theorem pn_com_example_gate2_gate2_IntervalSecondsUntilPinLaw : plainName "com/example/gate2/gate2/IntervalSecondsUntilPinLaw" = true := by first | (simp [plainName, overriddenIn]; done) | decide +kernel
theorem ef_0 (m : MethodId) (x1 : Int64) (x2 : Int64) : entryFrame m #[(.long x1), (.long x2)] maxLocals = mkF m 0 #[.val (.long x1), .second, .val (.long x2), .second, .unset, .unset, .unset, .unset, .unset, .unset, .unset, .unset] [] := by first | (simp [entryFrame, mkF, argsToLocals, Value.category, maxLocals]; done) | rfl
theorem pd_0 : parseMethodDescriptor "(JJ)I" = some ⟨[.long, .long], some .int⟩ := by decide +kernel
def Q0 (Z : State) (x1 : Int64) (x2 : Int64) (h0 : Heap) (n0 : Nat) (v : Option Value) (h : Heap) (L : List Loc) : Prop := v = some (.int 1) ∧ Fr n0 L
set_option maxRecDepth 65536 in
set_option maxHeartbeats 40000000 in
theorem rm0 (l : Launch) (Z : State) (a0 : Array Value) (hw : ∀ d ∈ tables_1, d.before a0 Z = true) (ws : List Jvm.Cond) (x1 : Int64) (x2 : Int64) (h0 : Heap) (n0 : Nat) (Zle : n0 ≤ h0.size) :
    MetFree l x (head1 (Jvm.Cond.code x code maxLocals ret :: ws) room_1) (fun a U => a = #[(.long x1), (.long x2)] ∧ Z.Warmed39 U.vm ∧ U.heap = h0) (fun _ _ _ _ _ => True) (fun _ U o U' => ∃ v L, o = .returned v ∧ Q0 Z x1 x2 h0 n0 v U'.heap L ∧ FrameEnd U o U' L room_1.cells room_1.slots) := by
  refine MetFree.of_bodySF (plainFor_of_name pn_com_example_gate2_gate2_IntervalSecondsUntilPinLaw) hisR ?_
  intro p e s m args below meth c s₁ Bd hml0 hP hK
  obtain ⟨rfl, hZ, hh⟩ := hP
  have hx := Bd.exec
  have hby := Bd.bytes
  have hml : c.maxLocals = 12 := hml0
  have hown : s.vm.findClass "com/example/gate2/gate2/IntervalSecondsUntilPinLaw" = some m.cls := findClass_of_methodNamed Bd.named
  have hnm := (name_of_methodNamed Bd.named Bd.method).1
  have X0 : Stand p l e room_1 s m #[(.long x1), (.long x2)] below meth c s₁ [] 0 0 := Stand.of_body Bd
  have e0 : s₁.heap = h0 := by rw [← hh, Bd.state]; rfl
  have N_ := Fr.nil n0
  show own_Goes p.tables e below s (Q0 Z x1 x2 h0 n0) room_1.cells room_1.slots s₁ (entryFrame m #[(.long x1), (.long x2)] maxLocals)
  refine own_by (T' := s₁) (g' := (mkF m 0 #[.val (.long x1), .second, .val (.long x2), .second, .unset, .unset, .unset, .unset, .unset, .unset, .unset, .unset] [])) (fun t k => castTop (ef_0 m x1 x2) k) ?_
  refine own_by (T' := s₁) (g' := (mkF m 1 #[.val (.long x1), .second, .val (.long x2), .second, .unset, .unset, .unset, .unset, .unset, .unset, .unset, .unset] [(.long x1)])) (fun t k => XS.lloadN X0.here hx rfl (hb hby at_0) rfl k) ?_
  refine own_by (T' := s₁) (g' := (mkF m 4 #[.val (.long x1), .second, .val (.long x2), .second, .unset, .unset, .unset, .unset, .unset, .unset, .unset, .unset] [(.long 1099511627775), (.long x1)])) (fun t k => X0.ldc2Long hx hown (mvT hZ (hw _ (own_m 0 rfl))) (g := (mkF m 1 #[.val (.long x1), .second, .val (.long x2), .second, .unset, .unset, .unset, .unset, .unset, .unset, .unset, .unset] [(.long x1)])) rfl (hb hby at_1) _ k) ?_
  refine own_by (T' := s₁) (g' := (mkF m 5 #[.val (.long x1), .second, .val (.long x2), .second, .unset, .unset, .unset, .unset, .unset, .unset, .unset, .unset] [(.long (x1 &&& (1099511627775 : Int64)))])) (fun t k => XS.land X0.here hx rfl (hb hby at_4) rfl k) ?_
  refine own_by (T' := s₁) (g' := (mkF m 8 #[.val (.long x1), .second, .val (.long x2), .second, .unset, .unset, .unset, .unset, .unset, .unset, .unset, .unset] [(.long 999), (.long (x1 &&& (1099511627775 : Int64)))])) (fun t k => X0.ldc2Long hx hown (mvT hZ (hw _ (own_m 1 rfl))) (g := (mkF m 5 #[.val (.long x1), .second, .val (.long x2), .second, .unset, .unset, .unset, .unset, .unset, .unset, .unset, .unset] [(.long (x1 &&& (1099511627775 : Int64)))])) rfl (hb hby at_5) _ k) ?_
  refine own_by (T' := s₁) (g' := (mkF m 9 #[.val (.long x1), .second, .val (.long x2), .second, .unset, .unset, .unset, .unset, .unset, .unset, .unset, .unset] [(.long ((x1 &&& (1099511627775 : Int64)) - (999 : Int64)))])) (fun t k => XS.lsub X0.here hx rfl (hb hby at_8) rfl k) ?_
  refine own_by (T' := s₁) (g' := (mkF m 11 #[.val (.long x1), .second, .val (.long x2), .second, .val (.long ((x1 &&& (1099511627775 : Int64)) - (999 : Int64))), .second, .unset, .unset, .unset, .unset, .unset, .unset] [])) (fun t k => XS.lstore X0.here hx rfl (hb hby at_9) rfl (l' := #[.val (.long x1), .second, .val (.long x2), .second, .val (.long ((x1 &&& (1099511627775 : Int64)) - (999 : Int64))), .second, .unset, .unset, .unset, .unset, .unset, .unset]) rfl k) ?_
  refine own_by (T' := s₁) (g' := (mkF m 12 #[.val (.long x1), .second, .val (.long x2), .second, .val (.long ((x1 &&& (1099511627775 : Int64)) - (999 : Int64))), .second, .unset, .unset, .unset, .unset, .unset, .unset] [(.long x2)])) (fun t k => XS.lloadN X0.here hx rfl (hb hby at_11) rfl k) ?_
  refine own_by (T' := s₁) (g' := (mkF m 14 #[.val (.long x1), .second, .val (.long x2), .second, .val (.long ((x1 &&& (1099511627775 : Int64)) - (999 : Int64))), .second, .val (.long x2), .second, .unset, .unset, .unset, .unset] [])) (fun t k => XS.lstore X0.here hx rfl (hb hby at_12) rfl (l' := #[.val (.long x1), .second, .val (.long x2), .second, .val (.long ((x1 &&& (1099511627775 : Int64)) - (999 : Int64))), .second, .val (.long x2), .second, .unset, .unset, .unset, .unset]) rfl k) ?_
  refine own_by (T' := s₁) (g' := (mkF m 16 #[.val (.long x1), .second, .val (.long x2), .second, .val (.long ((x1 &&& (1099511627775 : Int64)) - (999 : Int64))), .second, .val (.long x2), .second, .unset, .unset, .unset, .unset] [(.long x2)])) (fun t k => XS.lload X0.here hx rfl (hb hby at_14) rfl k) ?_
  refine own_by (T' := s₁) (g' := (mkF m 18 #[.val (.long x1), .second, .val (.long x2), .second, .val (.long ((x1 &&& (1099511627775 : Int64)) - (999 : Int64))), .second, .val (.long x2), .second, .unset, .unset, .unset, .unset] [(.long ((x1 &&& (1099511627775 : Int64)) - (999 : Int64))), (.long x2)])) (fun t k => XS.lload X0.here hx rfl (hb hby at_16) rfl k) ?_
  refine own_by (T' := s₁) (g' := (mkF m 19 #[.val (.long x1), .second, .val (.long x2), .second, .val (.long ((x1 &&& (1099511627775 : Int64)) - (999 : Int64))), .second, .val (.long x2), .second, .unset, .unset, .unset, .unset] [(.long (x2 + ((x1 &&& (1099511627775 : Int64)) - (999 : Int64))))])) (fun t k => XS.ladd X0.here hx rfl (hb hby at_18) rfl k) ?_
  refine own_by (T' := s₁) (g' := (mkF m 21 #[.val (.long x1), .second, .val (.long x2), .second, .val (.long ((x1 &&& (1099511627775 : Int64)) - (999 : Int64))), .second, .val (.long x2), .second, .val (.long (x2 + ((x1 &&& (1099511627775 : Int64)) - (999 : Int64)))), .second, .unset, .unset] [])) (fun t k => XS.lstore X0.here hx rfl (hb hby at_19) rfl (l' := #[.val (.long x1), .second, .val (.long x2), .second, .val (.long ((x1 &&& (1099511627775 : Int64)) - (999 : Int64))), .second, .val (.long x2), .second, .val (.long (x2 + ((x1 &&& (1099511627775 : Int64)) - (999 : Int64)))), .second, .unset, .unset]) rfl k) ?_
  refine own_by (T' := s₁) (g' := (mkF m 23 #[.val (.long x1), .second, .val (.long x2), .second, .val (.long ((x1 &&& (1099511627775 : Int64)) - (999 : Int64))), .second, .val (.long x2), .second, .val (.long (x2 + ((x1 &&& (1099511627775 : Int64)) - (999 : Int64)))), .second, .unset, .unset] [(.long (x2 + ((x1 &&& (1099511627775 : Int64)) - (999 : Int64))))])) (fun t k => XS.lload X0.here hx rfl (hb hby at_21) rfl k) ?_
  refine own_by (T' := s₁) (g' := (mkF m 25 #[.val (.long x1), .second, .val (.long x2), .second, .val (.long ((x1 &&& (1099511627775 : Int64)) - (999 : Int64))), .second, .val (.long x2), .second, .val (.long (x2 + ((x1 &&& (1099511627775 : Int64)) - (999 : Int64)))), .second, .unset, .unset] [(.long x2), (.long (x2 + ((x1 &&& (1099511627775 : Int64)) - (999 : Int64))))])) (fun t k => XS.lload X0.here hx rfl (hb hby at_23) rfl k) ?_
  obtain ⟨_, _, ⟨T1, L1, k1, n1⟩, -, X1, ⟨Lc1, hQ1, l1, y1, z1⟩, st1⟩ := Jvm.LawKit.callS X0 hx (y := (⟨"com/example/gate2/gate2/Interval", "secondsUntil", "(JJ)I"⟩ : MethodName)) hown (mvT hZ (hw _ (own_m 2 rfl))) (mvT hZ (hw _ (own_m 3 rfl))) (mvT hZ (hw _ (own_m 4 rfl))) (mvT hZ (hw _ (own_m 5 rfl))) (by decide) (backOf (W := 0) (rm1 l Z a0 hw [] (x2 + ((x1 &&& (1099511627775 : Int64)) - (999 : Int64))) x2 h0 n0 Zle ) hZ (hw _ (own_m 5 rfl)) (hw _ (own_m 4 rfl)) (by decide) (by decide)) (g := (mkF m 25 #[.val (.long x1), .second, .val (.long x2), .second, .val (.long ((x1 &&& (1099511627775 : Int64)) - (999 : Int64))), .second, .val (.long x2), .second, .val (.long (x2 + ((x1 &&& (1099511627775 : Int64)) - (999 : Int64)))), .second, .unset, .unset] [(.long x2), (.long (x2 + ((x1 &&& (1099511627775 : Int64)) - (999 : Int64))))])) rfl (by rw [hml]; rfl) (argsL := [(.long (x2 + ((x1 &&& (1099511627775 : Int64)) - (999 : Int64)))), (.long x2)]) (rest := []) (lenOf pd_0 rfl) rfl (own_le rfl) (hb hby at_25) (fun _ _ => ⟨rfl, e0, (by decide : 0 + 0 ≤ _), (by decide : 0 + 0 ≤ _)⟩)
  dsimp only [Pt.U, Pt.locs, Pt.cells, Pt.slots] at X1 l1 y1 z1 st1 hQ1
  subst l1 y1 z1
  obtain ⟨rfl, Nq1, e1⟩ := hQ1
  have N_ := Fr.app N_ Nq1
  refine own_by (T' := T1) (g' := (mkF m 28 #[.val (.long x1), .second, .val (.long x2), .second, .val (.long ((x1 &&& (1099511627775 : Int64)) - (999 : Int64))), .second, .val (.long x2), .second, .val (.long (x2 + ((x1 &&& (1099511627775 : Int64)) - (999 : Int64)))), .second, .unset, .unset] [(.int (((((x2 + ((x1 &&& (1099511627775 : Int64)) - (999 : Int64))) - x2) + (999 : Int64)) / (1000 : Int64)).toInt32))])) (fun t k => st1 _ k) ?_
  refine own_by (T' := T1) (g' := (mkF m 29 #[.val (.long x1), .second, .val (.long x2), .second, .val (.long ((x1 &&& (1099511627775 : Int64)) - (999 : Int64))), .second, .val (.long x2), .second, .val (.long (x2 + ((x1 &&& (1099511627775 : Int64)) - (999 : Int64)))), .second, .unset, .unset] [(.long ((((((x2 + ((x1 &&& (1099511627775 : Int64)) - (999 : Int64))) - x2) + (999 : Int64)) / (1000 : Int64)).toInt32).toInt64))])) (fun t k => XS.i2l X1.here hx rfl (hb hby at_28) rfl k) ?_
  refine own_by (T' := T1) (g' := (mkF m 31 #[.val (.long x1), .second, .val (.long x2), .second, .val (.long ((x1 &&& (1099511627775 : Int64)) - (999 : Int64))), .second, .val (.long x2), .second, .val (.long (x2 + ((x1 &&& (1099511627775 : Int64)) - (999 : Int64)))), .second, .val (.long ((((((x2 + ((x1 &&& (1099511627775 : Int64)) - (999 : Int64))) - x2) + (999 : Int64)) / (1000 : Int64)).toInt32).toInt64)), .second] [])) (fun t k => XS.lstore X1.here hx rfl (hb hby at_29) rfl (l' := #[.val (.long x1), .second, .val (.long x2), .second, .val (.long ((x1 &&& (1099511627775 : Int64)) - (999 : Int64))), .second, .val (.long x2), .second, .val (.long (x2 + ((x1 &&& (1099511627775 : Int64)) - (999 : Int64)))), .second, .val (.long ((((((x2 + ((x1 &&& (1099511627775 : Int64)) - (999 : Int64))) - x2) + (999 : Int64)) / (1000 : Int64)).toInt32).toInt64)), .second]) rfl k) ?_
  refine own_by (T' := T1) (g' := (mkF m 34 #[.val (.long x1), .second, .val (.long x2), .second, .val (.long ((x1 &&& (1099511627775 : Int64)) - (999 : Int64))), .second, .val (.long x2), .second, .val (.long (x2 + ((x1 &&& (1099511627775 : Int64)) - (999 : Int64)))), .second, .val (.long ((((((x2 + ((x1 &&& (1099511627775 : Int64)) - (999 : Int64))) - x2) + (999 : Int64)) / (1000 : Int64)).toInt32).toInt64)), .second] [(.long 1000)])) (fun t k => X1.ldc2Long hx hown (mvT hZ (hw _ (own_m 8 rfl))) (g := (mkF m 31 #[.val (.long x1), .second, .val (.long x2), .second, .val (.long ((x1 &&& (1099511627775 : Int64)) - (999 : Int64))), .second, .val (.long x2), .second, .val (.long (x2 + ((x1 &&& (1099511627775 : Int64)) - (999 : Int64)))), .second, .val (.long ((((((x2 + ((x1 &&& (1099511627775 : Int64)) - (999 : Int64))) - x2) + (999 : Int64)) / (1000 : Int64)).toInt32).toInt64)), .second] [])) rfl (hb hby at_31) _ k) ?_
  refine own_by (T' := T1) (g' := (mkF m 36 #[.val (.long x1), .second, .val (.long x2), .second, .val (.long ((x1 &&& (1099511627775 : Int64)) - (999 : Int64))), .second, .val (.long x2), .second, .val (.long (x2 + ((x1 &&& (1099511627775 : Int64)) - (999 : Int64)))), .second, .val (.long ((((((x2 + ((x1 &&& (1099511627775 : Int64)) - (999 : Int64))) - x2) + (999 : Int64)) / (1000 : Int64)).toInt32).toInt64)), .second] [(.long ((((((x2 + ((x1 &&& (1099511627775 : Int64)) - (999 : Int64))) - x2) + (999 : Int64)) / (1000 : Int64)).toInt32).toInt64)), (.long 1000)])) (fun t k => XS.lload X1.here hx rfl (hb hby at_34) rfl k) ?_
  refine own_by (T' := T1) (g' := (mkF m 37 #[.val (.long x1), .second, .val (.long x2), .second, .val (.long ((x1 &&& (1099511627775 : Int64)) - (999 : Int64))), .second, .val (.long x2), .second, .val (.long (x2 + ((x1 &&& (1099511627775 : Int64)) - (999 : Int64)))), .second, .val (.long ((((((x2 + ((x1 &&& (1099511627775 : Int64)) - (999 : Int64))) - x2) + (999 : Int64)) / (1000 : Int64)).toInt32).toInt64)), .second] [(.long ((1000 : Int64) * ((((((x2 + ((x1 &&& (1099511627775 : Int64)) - (999 : Int64))) - x2) + (999 : Int64)) / (1000 : Int64)).toInt32).toInt64)))])) (fun t k => XS.lmul X1.here hx rfl (hb hby at_36) rfl k) ?_
  refine own_by (T' := T1) (g' := (mkF m 39 #[.val (.long x1), .second, .val (.long x2), .second, .val (.long ((x1 &&& (1099511627775 : Int64)) - (999 : Int64))), .second, .val (.long x2), .second, .val (.long (x2 + ((x1 &&& (1099511627775 : Int64)) - (999 : Int64)))), .second, .val (.long ((((((x2 + ((x1 &&& (1099511627775 : Int64)) - (999 : Int64))) - x2) + (999 : Int64)) / (1000 : Int64)).toInt32).toInt64)), .second] [(.long ((x1 &&& (1099511627775 : Int64)) - (999 : Int64))), (.long ((1000 : Int64) * ((((((x2 + ((x1 &&& (1099511627775 : Int64)) - (999 : Int64))) - x2) + (999 : Int64)) / (1000 : Int64)).toInt32).toInt64)))])) (fun t k => XS.lload X1.here hx rfl (hb hby at_37) rfl k) ?_
  refine own_by (T' := T1) (g' := (mkF m 40 #[.val (.long x1), .second, .val (.long x2), .second, .val (.long ((x1 &&& (1099511627775 : Int64)) - (999 : Int64))), .second, .val (.long x2), .second, .val (.long (x2 + ((x1 &&& (1099511627775 : Int64)) - (999 : Int64)))), .second, .val (.long ((((((x2 + ((x1 &&& (1099511627775 : Int64)) - (999 : Int64))) - x2) + (999 : Int64)) / (1000 : Int64)).toInt32).toInt64)), .second] [(.int (lcmpW ((1000 : Int64) * ((((((x2 + ((x1 &&& (1099511627775 : Int64)) - (999 : Int64))) - x2) + (999 : Int64)) / (1000 : Int64)).toInt32).toInt64)) ((x1 &&& (1099511627775 : Int64)) - (999 : Int64))))])) (fun t k => XS.lcmp X1.here hx rfl (hb hby at_39) rfl k) ?_
  refine own_by (T' := T1) (g' := (mkF m 43 #[.val (.long x1), .second, .val (.long x2), .second, .val (.long ((x1 &&& (1099511627775 : Int64)) - (999 : Int64))), .second, .val (.long x2), .second, .val (.long (x2 + ((x1 &&& (1099511627775 : Int64)) - (999 : Int64)))), .second, .val (.long ((((((x2 + ((x1 &&& (1099511627775 : Int64)) - (999 : Int64))) - x2) + (999 : Int64)) / (1000 : Int64)).toInt32).toInt64)), .second] [])) (fun t k => XS.ifNo X1.here hx rfl (hb hby at_40) rfl ((if0 _ _).trans (flt (fun q => (own_law x1 x2).1 ((lw_lt _ _).mp q))).1) k) ?_
  refine own_by (T' := T1) (g' := (mkF m 46 #[.val (.long x1), .second, .val (.long x2), .second, .val (.long ((x1 &&& (1099511627775 : Int64)) - (999 : Int64))), .second, .val (.long x2), .second, .val (.long (x2 + ((x1 &&& (1099511627775 : Int64)) - (999 : Int64)))), .second, .val (.long ((((((x2 + ((x1 &&& (1099511627775 : Int64)) - (999 : Int64))) - x2) + (999 : Int64)) / (1000 : Int64)).toInt32).toInt64)), .second] [(.long 1000)])) (fun t k => X1.ldc2Long hx hown (mvT hZ (hw _ (own_m 8 rfl))) (g := (mkF m 43 #[.val (.long x1), .second, .val (.long x2), .second, .val (.long ((x1 &&& (1099511627775 : Int64)) - (999 : Int64))), .second, .val (.long x2), .second, .val (.long (x2 + ((x1 &&& (1099511627775 : Int64)) - (999 : Int64)))), .second, .val (.long ((((((x2 + ((x1 &&& (1099511627775 : Int64)) - (999 : Int64))) - x2) + (999 : Int64)) / (1000 : Int64)).toInt32).toInt64)), .second] [])) rfl (hb hby at_43) _ k) ?_
  refine own_by (T' := T1) (g' := (mkF m 48 #[.val (.long x1), .second, .val (.long x2), .second, .val (.long ((x1 &&& (1099511627775 : Int64)) - (999 : Int64))), .second, .val (.long x2), .second, .val (.long (x2 + ((x1 &&& (1099511627775 : Int64)) - (999 : Int64)))), .second, .val (.long ((((((x2 + ((x1 &&& (1099511627775 : Int64)) - (999 : Int64))) - x2) + (999 : Int64)) / (1000 : Int64)).toInt32).toInt64)), .second] [(.long ((((((x2 + ((x1 &&& (1099511627775 : Int64)) - (999 : Int64))) - x2) + (999 : Int64)) / (1000 : Int64)).toInt32).toInt64)), (.long 1000)])) (fun t k => XS.lload X1.here hx rfl (hb hby at_46) rfl k) ?_
  refine own_by (T' := T1) (g' := (mkF m 49 #[.val (.long x1), .second, .val (.long x2), .second, .val (.long ((x1 &&& (1099511627775 : Int64)) - (999 : Int64))), .second, .val (.long x2), .second, .val (.long (x2 + ((x1 &&& (1099511627775 : Int64)) - (999 : Int64)))), .second, .val (.long ((((((x2 + ((x1 &&& (1099511627775 : Int64)) - (999 : Int64))) - x2) + (999 : Int64)) / (1000 : Int64)).toInt32).toInt64)), .second] [(.long ((1000 : Int64) * ((((((x2 + ((x1 &&& (1099511627775 : Int64)) - (999 : Int64))) - x2) + (999 : Int64)) / (1000 : Int64)).toInt32).toInt64)))])) (fun t k => XS.lmul X1.here hx rfl (hb hby at_48) rfl k) ?_
  refine own_by (T' := T1) (g' := (mkF m 52 #[.val (.long x1), .second, .val (.long x2), .second, .val (.long ((x1 &&& (1099511627775 : Int64)) - (999 : Int64))), .second, .val (.long x2), .second, .val (.long (x2 + ((x1 &&& (1099511627775 : Int64)) - (999 : Int64)))), .second, .val (.long ((((((x2 + ((x1 &&& (1099511627775 : Int64)) - (999 : Int64))) - x2) + (999 : Int64)) / (1000 : Int64)).toInt32).toInt64)), .second] [(.long 1000), (.long ((1000 : Int64) * ((((((x2 + ((x1 &&& (1099511627775 : Int64)) - (999 : Int64))) - x2) + (999 : Int64)) / (1000 : Int64)).toInt32).toInt64)))])) (fun t k => X1.ldc2Long hx hown (mvT hZ (hw _ (own_m 8 rfl))) (g := (mkF m 49 #[.val (.long x1), .second, .val (.long x2), .second, .val (.long ((x1 &&& (1099511627775 : Int64)) - (999 : Int64))), .second, .val (.long x2), .second, .val (.long (x2 + ((x1 &&& (1099511627775 : Int64)) - (999 : Int64)))), .second, .val (.long ((((((x2 + ((x1 &&& (1099511627775 : Int64)) - (999 : Int64))) - x2) + (999 : Int64)) / (1000 : Int64)).toInt32).toInt64)), .second] [(.long ((1000 : Int64) * ((((((x2 + ((x1 &&& (1099511627775 : Int64)) - (999 : Int64))) - x2) + (999 : Int64)) / (1000 : Int64)).toInt32).toInt64)))])) rfl (hb hby at_49) _ k) ?_
  refine own_by (T' := T1) (g' := (mkF m 53 #[.val (.long x1), .second, .val (.long x2), .second, .val (.long ((x1 &&& (1099511627775 : Int64)) - (999 : Int64))), .second, .val (.long x2), .second, .val (.long (x2 + ((x1 &&& (1099511627775 : Int64)) - (999 : Int64)))), .second, .val (.long ((((((x2 + ((x1 &&& (1099511627775 : Int64)) - (999 : Int64))) - x2) + (999 : Int64)) / (1000 : Int64)).toInt32).toInt64)), .second] [(.long (((1000 : Int64) * ((((((x2 + ((x1 &&& (1099511627775 : Int64)) - (999 : Int64))) - x2) + (999 : Int64)) / (1000 : Int64)).toInt32).toInt64)) - (1000 : Int64)))])) (fun t k => XS.lsub X1.here hx rfl (hb hby at_52) rfl k) ?_
  refine own_by (T' := T1) (g' := (mkF m 55 #[.val (.long x1), .second, .val (.long x2), .second, .val (.long ((x1 &&& (1099511627775 : Int64)) - (999 : Int64))), .second, .val (.long x2), .second, .val (.long (x2 + ((x1 &&& (1099511627775 : Int64)) - (999 : Int64)))), .second, .val (.long ((((((x2 + ((x1 &&& (1099511627775 : Int64)) - (999 : Int64))) - x2) + (999 : Int64)) / (1000 : Int64)).toInt32).toInt64)), .second] [(.long ((x1 &&& (1099511627775 : Int64)) - (999 : Int64))), (.long (((1000 : Int64) * ((((((x2 + ((x1 &&& (1099511627775 : Int64)) - (999 : Int64))) - x2) + (999 : Int64)) / (1000 : Int64)).toInt32).toInt64)) - (1000 : Int64)))])) (fun t k => XS.lload X1.here hx rfl (hb hby at_53) rfl k) ?_
  refine own_by (T' := T1) (g' := (mkF m 56 #[.val (.long x1), .second, .val (.long x2), .second, .val (.long ((x1 &&& (1099511627775 : Int64)) - (999 : Int64))), .second, .val (.long x2), .second, .val (.long (x2 + ((x1 &&& (1099511627775 : Int64)) - (999 : Int64)))), .second, .val (.long ((((((x2 + ((x1 &&& (1099511627775 : Int64)) - (999 : Int64))) - x2) + (999 : Int64)) / (1000 : Int64)).toInt32).toInt64)), .second] [(.int (lcmpW (((1000 : Int64) * ((((((x2 + ((x1 &&& (1099511627775 : Int64)) - (999 : Int64))) - x2) + (999 : Int64)) / (1000 : Int64)).toInt32).toInt64)) - (1000 : Int64)) ((x1 &&& (1099511627775 : Int64)) - (999 : Int64))))])) (fun t k => XS.lcmp X1.here hx rfl (hb hby at_55) rfl k) ?_
  refine own_by (T' := T1) (g' := (mkF m 59 #[.val (.long x1), .second, .val (.long x2), .second, .val (.long ((x1 &&& (1099511627775 : Int64)) - (999 : Int64))), .second, .val (.long x2), .second, .val (.long (x2 + ((x1 &&& (1099511627775 : Int64)) - (999 : Int64)))), .second, .val (.long ((((((x2 + ((x1 &&& (1099511627775 : Int64)) - (999 : Int64))) - x2) + (999 : Int64)) / (1000 : Int64)).toInt32).toInt64)), .second] [])) (fun t k => XS.ifNo X1.here hx rfl (hb hby at_56) rfl ((if0 _ _).trans (tlt ((lw_lt _ _).mpr (own_law x1 x2).2)).2.1) k) ?_
  refine own_by (T' := T1) (g' := (mkF m 60 #[.val (.long x1), .second, .val (.long x2), .second, .val (.long ((x1 &&& (1099511627775 : Int64)) - (999 : Int64))), .second, .val (.long x2), .second, .val (.long (x2 + ((x1 &&& (1099511627775 : Int64)) - (999 : Int64)))), .second, .val (.long ((((((x2 + ((x1 &&& (1099511627775 : Int64)) - (999 : Int64))) - x2) + (999 : Int64)) / (1000 : Int64)).toInt32).toInt64)), .second] [(.int 1)])) (fun t k => XS.iconst X1.here hx rfl (hb hby at_59) k) ?_
  refine own_by (T' := T1) (g' := (mkF m 64 #[.val (.long x1), .second, .val (.long x2), .second, .val (.long ((x1 &&& (1099511627775 : Int64)) - (999 : Int64))), .second, .val (.long x2), .second, .val (.long (x2 + ((x1 &&& (1099511627775 : Int64)) - (999 : Int64)))), .second, .val (.long ((((((x2 + ((x1 &&& (1099511627775 : Int64)) - (999 : Int64))) - x2) + (999 : Int64)) / (1000 : Int64)).toInt32).toInt64)), .second] [(.int 1)])) (fun t k => XS.goto X1.here hx rfl (pc0 := 60) (pc' := 64) rfl (hb hby at_60) (by decide) (by decide) k) ?_
  exact own_retN X1 hx (t := .boolean) Bd.notSynchronized Bd.returns (by simp) (hb hby at_64) (by decide) (by decide) (by rw [e1]; exact ⟨rfl, N_⟩)

set_option maxRecDepth 65536 in
set_option maxHeartbeats 40000000 in
theorem comes_1 {Post : Tables → Env → Array Value → State → Outcome → State → Prop} (hpost : ∀ tb e args s v u, (limb_1_1.after args s (.returned v) u = true ∧ limb_1_2.after args s (.returned v) u = true ∧ True) → FrameEnd s (.returned v) u (Jvm.fieldLocs frame_1_writes args s ++ Jvm.arrayLocs frame_1_arrays args s ++ Jvm.staticLocs frame_1_statics s) 0 0 → Post tb e args s (.returned v) u) :
    ArmFor flags0 classFile x code maxLocals ret World_1 tables_1 room_1 Calls_1 rest_1 Pre_1 Post := by
  intro l hfl _ _ p e ha hc hk s m args below hf hA hF happ hP
  obtain ⟨hcalls, hrest, hpre⟩ := hP
  obtain ⟨-, -, -, hnamed, -, -, -, hat⟩ := (Spec.applies_iff hf).mp happ
  obtain ⟨hg, hn⟩ := and_e (Cond.before_iff.mp (show (Jvm.Cond.and given_1 narrow_1).before args s = true from hpre))
  obtain ⟨hcount, g0⟩ := and_e hg
  obtain ⟨a0, g1⟩ := and_e g0
  obtain ⟨w0, w1, rfl⟩ : ∃ w0 w1 : Value, args = #[w0, w1] := by
    have hs : args.size = 2 := by simpa [Cond.value, given_1] using hcount
    obtain ⟨L⟩ := args
    match L, hs with
    | [w0, w1], _ => exact ⟨w0, w1, rfl⟩
  have hw := fun d (hd : d ∈ tables_1) => atoms_spec (ws := Jvm.Cond.code x code maxLocals ret :: tables_1) hat d (List.mem_cons_of_mem _ hd)
  have hfit : Fit s := fun {y c} hc i hi => by
    obtain ⟨ha, rfl⟩ := Array.getElem?_eq_some_iff.mp hc
    have q := List.all_eq_true.mp ((Array.all_eq_true_iff_forall_mem.mp hF) _ (Array.getElem_mem ha)) i (List.mem_range.mpr hi)
    simpa [Array.getElem?_eq_getElem hi] using q
  obtain ⟨i0, ei0⟩ := isL_v a0
  obtain rfl : w0 = (.long i0) := Option.some.inj ei0
  obtain ⟨i1, ei1⟩ := isL_v g1
  obtain rfl : w1 = (.long i1) := Option.some.inj ei1
  obtain ⟨n, o, h1, h2, h3, _, L, rfl, ⟨rfl, N⟩, hq⟩ := rm0 l s _ hw tables_1 i0 i1 s.heap s.heap.size (Nat.le_refl _)  p e ha hc hk s m _ below hf ((Spec.applies_iff_loose hf).mp happ).1 ⟨rfl, State.Warmed39.refl s, rfl⟩ trivial
  refine ⟨n, _, h1, h2, h3, hpost _ _ _ _ _ _ ⟨Cond.after_iff.mpr rfl, Cond.after_iff.mpr (eq_i res_at (Term.int_eval (1)) rfl), trivial⟩ ⟨hq.1, hq.2.1, (hq.2.2.sift fun y hy => Or.inr (N y hy)).mono (by decide) (by decide)⟩⟩
theorem main_1_1 : Claimed_1_1 := comes_1 fun _ _ _ _ _ _ h hF => ⟨h.1, hF⟩
theorem main_1_2 : Claimed_1_2 := comes_1 fun _ _ _ _ _ _ h hF => ⟨h.2.1, hF⟩

end Jvm.Pilot.@@N@@
namespace Jvm.Pilot.@@N@@
open Jvm Jvm.ClassFile Sem Op Lib Jvm.Free Jvm.Stand Jvm.Pilot.@@N@@.Jvm.D
/-! MADE BY PROGRAM (witnessworld.py) out of the Statement's table words and the real class files: 12 classes; the members and pool entries that the words name. The judged class is class 1, her method 1. -/
namespace start1
open Jvm.ClassFile
def u (s : String) : CpInfo := .utf8 (stringToUtf16 s)
/-- a pool by its gaps: so many unusable entries, then the entry; so many at the end -/
def gap : Nat → List CpInfo → List CpInfo
  | 0, r => r
  | n + 1, r => .unusable :: gap n r
def poolList (es : List (Nat × CpInfo)) (last : Nat) : List CpInfo := es.foldr (fun e r => gap e.1 (e.2 :: r)) (gap last [])
def pool (es : List (Nat × CpInfo)) (last : Nat) : Array CpInfo := ⟨poolList es last⟩
def fileOf (pool : Array CpInfo) (this : Nat) (attrs : Array Attribute := #[]) (ms : Array MethodInfo := #[]) (fl : Nat := 33) (sup : Nat := 0) (ifs : Array Nat := #[]) (fds : Array FieldInfo := #[]) : ClassFile where
  minorVersion := 0
  majorVersion := 65
  constantPool := pool
  accessFlags := fl
  thisClass := this
  superClass := sup
  interfaces := ifs
  fields := fds
  methods := ms
  attributes := attrs
def plain (name : String) (sup : Option ClassId) : Class where
  name := name
  kind := .ordinary
  loader := none
  accessFlags := 33
  super := sup
  interfaces := #[]
  cf := none
  fields := #[]
  methods := #[]
  instanceTypes := #[]
  staticTypes := #[]
  resolved := #[]
  callSites := []
  init := .initialized
  statics := none
  mirror := none

def pool0 : Array CpInfo := pool [(5, u "<init>"), (0, u "()V"), (1, .class_ 10), (1, u "java/lang/Object")] 113

def k0m0 : Method := { name := "<init>", desc := "()V", sig := { parameters := [], returnType := none }, accessFlags := 1, code := none }
/-- java/lang/Object -/
def k0 : Class := { plain "java/lang/Object" none with
  accessFlags := 33
  interfaces := #[]
  cf := some (fileOf pool0 8 #[] #[{ accessFlags := 1, nameIndex := 5, descriptorIndex := 6, attributes := #[] }] 33 0 #[] #[])
  fields := #[]
  methods := #[k0m0]
  instanceTypes := #[]
  staticTypes := #[]
  resolved := Array.replicate 124 none
  statics := none }

def pool1 : Array CpInfo := pool [(2, .class_ 4), (1, u "java/lang/Object"), (0, u "<init>"), (0, u "()V"), (0, .long 1099511627775), (1, .long 999), (1, .methodref 12 13), (0, .class_ 14), (0, .nameAndType 15 16), (0, u "com/example/gate2/gate2/Interval"), (0, u "secondsUntil"), (0, u "(JJ)I"), (0, .long 1000), (1, .class_ 20), (0, u "com/example/gate2/gate2/IntervalSecondsUntilPinLaw"), (2, u "law"), (0, u "(JJ)Z")] 3

def k1m0 : Method := { name := "<init>", desc := "()V", sig := { parameters := [], returnType := none }, accessFlags := 1, code := none }
def k1c1 : Code := { maxStack := 4, maxLocals := 12, code := code, exceptionTable := #[], attributes := #[] }
def k1m1 : Method := { name := "law", desc := "(JJ)Z", sig := { parameters := [.long, .long], returnType := some .boolean }, accessFlags := 9, code := some k1c1 }
/-- com/example/gate2/gate2/IntervalSecondsUntilPinLaw -/
def k1 : Class := { plain "com/example/gate2/gate2/IntervalSecondsUntilPinLaw" (some 0) with
  accessFlags := 49
  interfaces := #[]
  cf := some (fileOf pool1 19 #[] #[{ accessFlags := 1, nameIndex := 5, descriptorIndex := 6, attributes := #[] }, { accessFlags := 9, nameIndex := 23, descriptorIndex := 24, attributes := #[] }] 49 2 #[] #[])
  fields := #[]
  methods := #[k1m0, k1m1]
  instanceTypes := #[]
  staticTypes := #[]
  resolved := Array.replicate 28 none
  statics := none }

def pool2 : Array CpInfo := pool [(1, .class_ 2), (0, u "java/lang/constant/Constable"), (0, .class_ 4), (0, u "java/lang/Object")] 6

/-- java/lang/constant/Constable -/
def k2 : Class := { plain "java/lang/constant/Constable" (some 0) with
  accessFlags := 1537
  interfaces := #[]
  cf := some (fileOf pool2 1 #[] #[] 1537 3 #[] #[])
  fields := #[]
  methods := #[]
  instanceTypes := #[]
  staticTypes := #[]
  resolved := Array.replicate 11 none
  statics := none }

def pool3 : Array CpInfo := pool [(1, .class_ 2), (0, u "java/lang/Comparable"), (0, .class_ 4), (0, u "java/lang/Object")] 7

/-- java/lang/Comparable -/
def k3 : Class := { plain "java/lang/Comparable" (some 0) with
  accessFlags := 1537
  interfaces := #[]
  cf := some (fileOf pool3 1 #[] #[] 1537 3 #[] #[])
  fields := #[]
  methods := #[]
  instanceTypes := #[]
  staticTypes := #[]
  resolved := Array.replicate 12 none
  statics := none }

def pool4 : Array CpInfo := pool [(1, .class_ 2), (0, u "java/io/Serializable"), (0, .class_ 4), (0, u "java/lang/Object")] 2

/-- java/io/Serializable -/
def k4 : Class := { plain "java/io/Serializable" (some 0) with
  accessFlags := 1537
  interfaces := #[]
  cf := some (fileOf pool4 1 #[] #[] 1537 3 #[] #[])
  fields := #[]
  methods := #[]
  instanceTypes := #[]
  staticTypes := #[]
  resolved := Array.replicate 7 none
  statics := none }

def pool5 : Array CpInfo := pool [(2, .class_ 4), (1, u "java/lang/Enum"), (0, u "name"), (0, u "Ljava/lang/String;"), (2, u "ordinal"), (0, u "I"), (1, .class_ 14), (1, u "java/lang/Object"), (4, u "hash"), (86, .class_ 108), (1, u "java/lang/Enum$EnumDesc"), (2, .class_ 112), (0, u "java/lang/constant/Constable"), (0, .class_ 114), (0, u "java/lang/Comparable"), (0, .class_ 116), (0, u "java/io/Serializable")] 87

/-- java/lang/Enum -/
def k5 : Class := { plain "java/lang/Enum" (some 0) with
  accessFlags := 1057
  interfaces := #[2, 3, 4]
  cf := some (fileOf pool5 2 #[.nestMembers #[106]] #[] 1057 12 #[111, 113, 115] #[{ accessFlags := 18, nameIndex := 5, descriptorIndex := 6, attributes := #[] }, { accessFlags := 18, nameIndex := 9, descriptorIndex := 10, attributes := #[] }, { accessFlags := 2, nameIndex := 19, descriptorIndex := 10, attributes := #[] }])
  fields := #[{ name := "name", type := (.object "java/lang/String"), accessFlags := 18, slot := 0, constantValue := 0 }, { name := "ordinal", type := .int, accessFlags := 18, slot := 1, constantValue := 0 }, { name := "hash", type := .int, accessFlags := 2, slot := 2, constantValue := 0 }]
  methods := #[]
  instanceTypes := #[(.object "java/lang/String"), .int, .int]
  staticTypes := #[]
  resolved := Array.replicate 204 none
  statics := none }

def pool6 : Array CpInfo := pool [(1, .class_ 2), (0, u "com/example/gate2/gate2/Interval"), (2, u "MINUTE"), (0, u "Lcom/example/gate2/gate2/Interval;"), (2, u "DAY"), (2, u "$VALUES"), (0, u "[Lcom/example/gate2/gate2/Interval;"), (6, .class_ 22), (1, u "java/lang/Enum"), (8, u "word"), (0, u "Ljava/lang/String;"), (2, u "refusalReason"), (69, .long 999), (1, .long 1000), (34, u "MINUTE_MILLIS"), (0, u "J"), (15, u "secondsUntil"), (0, u "(JJ)I")] 5

def k6c0 : Code := { maxStack := 4, maxLocals := 4, code := prog_8_method_9_code, exceptionTable := #[], attributes := #[] }
def k6m0 : Method := { name := "secondsUntil", desc := "(JJ)I", sig := { parameters := [.long, .long], returnType := some .int }, accessFlags := 9, code := some k6c0 }
/-- com/example/gate2/gate2/Interval -/
def k6 : Class := { plain "com/example/gate2/gate2/Interval" (some 5) with
  accessFlags := 16433
  interfaces := #[]
  cf := some (fileOf pool6 1 #[] #[{ accessFlags := 9, nameIndex := 159, descriptorIndex := 160, attributes := #[] }] 16433 20 #[] #[{ accessFlags := 16409, nameIndex := 5, descriptorIndex := 6, attributes := #[] }, { accessFlags := 16409, nameIndex := 9, descriptorIndex := 6, attributes := #[] }, { accessFlags := 26, nameIndex := 142, descriptorIndex := 143, attributes := #[] }, { accessFlags := 18, nameIndex := 31, descriptorIndex := 32, attributes := #[] }, { accessFlags := 18, nameIndex := 35, descriptorIndex := 32, attributes := #[] }, { accessFlags := 4122, nameIndex := 12, descriptorIndex := 13, attributes := #[] }])
  fields := #[{ name := "MINUTE", type := (.object "com/example/gate2/gate2/Interval"), accessFlags := 16409, slot := 0, constantValue := 0 }, { name := "DAY", type := (.object "com/example/gate2/gate2/Interval"), accessFlags := 16409, slot := 1, constantValue := 0 }, { name := "MINUTE_MILLIS", type := .long, accessFlags := 26, slot := 2, constantValue := 0 }, { name := "word", type := (.object "java/lang/String"), accessFlags := 18, slot := 3, constantValue := 0 }, { name := "refusalReason", type := (.object "java/lang/String"), accessFlags := 18, slot := 4, constantValue := 0 }, { name := "$VALUES", type := (.array (.object "com/example/gate2/gate2/Interval")), accessFlags := 4122, slot := 3, constantValue := 0 }]
  methods := #[k6m0]
  instanceTypes := #[(.object "java/lang/String"), .int, .int, (.object "java/lang/String"), (.object "java/lang/String")]
  staticTypes := #[(.object "com/example/gate2/gate2/Interval"), (.object "com/example/gate2/gate2/Interval"), .long, (.array (.object "com/example/gate2/gate2/Interval"))]
  resolved := Array.replicate 166 none
  statics := none }

def pool7 : Array CpInfo := pool [(1, u "java/lang/Cloneable"), (0, .class_ 1), (0, u "java/lang/Object"), (0, .class_ 3)] 3

/-- java/lang/Cloneable -/
def k7 : Class := { plain "java/lang/Cloneable" (some 0) with
  accessFlags := 1537
  interfaces := #[]
  cf := some (fileOf pool7 2 #[] #[] 1537 4 #[] #[])
  fields := #[]
  methods := #[]
  instanceTypes := #[]
  staticTypes := #[]
  resolved := Array.replicate 8 none
  statics := none }

/-- the primitive byte -/
def k8 : Class := { plain "byte" none with kind := .primitive 'B', accessFlags := 0x411 }
/-- [B -/
def k9 : Class := { plain "[B" (some 0) with kind := .array 8 .byte, interfaces := #[7, 4], accessFlags := 1041 }

/-- the primitive int -/
def k10 : Class := { plain "int" none with kind := .primitive 'I', accessFlags := 0x411 }
/-- [I -/
def k11 : Class := { plain "[I" (some 0) with kind := .array 10 .int, interfaces := #[7, 4], accessFlags := 1041 }

def heap : Heap := #[]
def classes : Array Class := #[k0, k1, k2, k3, k4, k5, k6, k7, k8, k9, k10, k11]
def interned : List (Array UInt16 × Addr) := []
def slotsUsed : Nat := 0
def theMethod : MethodId := ⟨1, 1⟩
def args0 : Array Value := #[.long 5, .long 7]
def aboutOver (below : List Frame) : State where
  vm := { classes := classes, interned := interned.toArray }
  heap := heap
  slotsUsed := slotsUsed
  threads := #[{ frames := .invoking theMethod args0 :: below }]
def below0 : List Frame := [.native { method := ⟨0, 0⟩, args := #[] }]
def about1 : State := aboutOver below0
def p0 : Program := .bare "" "" ""
def e0 : Env := launch0.env 0 0 0
theorem w_frames : about1.frames = Frame.invoking theMethod args0 :: below0 := rfl
set_option maxRecDepth 65536 in
theorem w_args : argsFit about1.vm theMethod args0 = true := by decide +kernel
set_option maxRecDepth 65536 in
theorem w_heap : heapFits about1 = true := by decide +kernel
set_option maxRecDepth 65536 in
theorem w_runnable : about1.curStatus? = some .runnable := by decide +kernel
set_option maxRecDepth 65536 in
theorem w_alone : about1.alone = true := by decide +kernel
set_option maxRecDepth 65536 in
theorem w_named : about1.methodNamed? x = some theMethod := by decide +kernel
set_option maxRecDepth 65536 in
theorem w_hears : about1.hears theMethod below0 = true := by decide +kernel
set_option maxRecDepth 65536 in
theorem w_ripe : about1.ripe theMethod args0 below0 = true := by decide +kernel
theorem w_running : about1.status = .running := rfl
set_option maxRecDepth 65536 in
theorem w_room : about1.hasRoom e0.platform room_1 = true :=
  launch0.hasRoom_least _ room_1 (by decide +kernel) (by decide +kernel) (by decide +kernel) (by decide +kernel) (by decide +kernel) (by decide +kernel)
theorem allAtoms_all (ts : List Jvm.Cond) (a : Array Jvm.Value) (st : Jvm.State) : (allAtoms ts).before a st = ts.all (fun c => c.before a st) := by
  induction ts with
  | nil => rfl
  | cons c t ih =>
    show (Jvm.Cond.and c (allAtoms t)).before a st = _
    rw [Jvm.Cond.before_and, ih, List.all_cons]
def words1 : List Jvm.Cond := Jvm.Cond.code x code maxLocals ret :: tables_1
/-- a 'code' word, met by the world's own term for the bytes: nothing is compared byte by byte -/
theorem code_word {y : MethodName} {bytes : ByteArray} {mx : Nat} {rt : Option FieldType} {a : Array Value} {s : State} {m : MethodId} {meth : Method} {c : Code} (h1 : s.methodNamed? y = some m) (h2 : s.vm.method? m = some meth) (h3 : meth.code = some c) (h4 : c.code = bytes)
    (h5 : (c.maxLocals == mx && c.exceptionTable.isEmpty && decide (c.maxStack ≤ mostOperands) && decide (meth.sig.returnType = rt) && !meth.locks && decide (parseMethodDescriptor y.desc = some meth.sig)) = true) : (Jvm.Cond.code y bytes mx rt).before a s = true := by
  simp only [Bool.and_eq_true, beq_iff_eq, Bool.not_eq_true', decide_eq_true_eq] at h5
  obtain ⟨⟨⟨⟨⟨g1, g2⟩, g3⟩, g4⟩, g5⟩, g6⟩ := h5
  simp [Cond.before, Cond.holds, Cond.value, h1, h2, h3, h4, g1, g2, g3, g4, g5, g6]
def isCode : Jvm.Cond → Bool
  | .code _ _ _ _ => true
  | _ => false
theorem all_split {L : List Jvm.Cond} {P : Jvm.Cond → Bool} (h1 : L.all (fun c => isCode c || P c) = true) (h2 : ∀ c ∈ L.filter isCode, P c = true) : L.all P = true := by
  refine List.all_eq_true.mpr fun c hc => ?_
  have h := List.all_eq_true.mp h1 c hc
  rcases Bool.eq_false_or_eq_true (isCode c) with hi | hi
  · exact h2 c (List.mem_filter.mpr ⟨hc, hi⟩)
  · simpa [hi] using h
set_option maxRecDepth 65536 in
theorem w_c0 : (Jvm.Cond.code x code maxLocals ret).before args0 about1 = true := code_word (m := ⟨1, 1⟩) (meth := k1m1) (c := k1c1) (by decide +kernel) rfl rfl rfl (by decide +kernel)
set_option maxRecDepth 65536 in
theorem w_c1 : (Jvm.Cond.code ({ cls := "com/example/gate2/gate2/Interval", name := "secondsUntil", desc := "(JJ)I" } : Jvm.MethodName) prog_8_method_9_code (4 : Nat) (Option.some Jvm.ClassFile.FieldType.int)).before args0 about1 = true := code_word (m := ⟨6, 0⟩) (meth := k6m0) (c := k6c0) (by decide +kernel) rfl rfl rfl (by decide +kernel)
def codes1 : List Jvm.Cond := [Jvm.Cond.code x code maxLocals ret, Jvm.Cond.code ({ cls := "com/example/gate2/gate2/Interval", name := "secondsUntil", desc := "(JJ)I" } : Jvm.MethodName) prog_8_method_9_code (4 : Nat) (Option.some Jvm.ClassFile.FieldType.int)]
set_option maxRecDepth 65536 in
theorem codes_eq : words1.filter isCode = codes1 := rfl
theorem w_codes : ∀ c ∈ words1.filter isCode, c.before args0 about1 = true := by
  rw [codes_eq]
  intro c hc
  simp only [codes1, List.mem_cons, List.not_mem_nil, or_false] at hc
  rcases hc with rfl | rfl
  · exact w_c0
  · exact w_c1
set_option maxRecDepth 65536 in
theorem w_t1 : words1.all (fun c => isCode c || c.before args0 about1) = true := by decide +kernel
theorem w_tables : (allAtoms (Jvm.Cond.code x code maxLocals ret :: tables_1)).before args0 about1 = true := by
  rw [allAtoms_all]
  show words1.all (fun c => c.before args0 about1) = true
  refine all_split ?_ w_codes
  rw [w_t1]
set_option maxRecDepth 65536 in
theorem w_case : (Jvm.Cond.and given_1 narrow_1).before args0 about1 = true := by decide +kernel
theorem w_applies : (headSpec (Jvm.Cond.code x code maxLocals ret :: tables_1) room_1).applies x e0.platform about1 = true :=
  (Spec.applies_iff w_frames).mpr ⟨w_running, w_runnable, w_alone, w_named, w_hears, w_ripe, w_room, w_tables⟩
theorem atStart : AtStart classFile x code maxLocals ret World_1 tables_1 room_1 Calls_1 rest_1 Pre_1 launch0 p0 e0 about1 theMethod args0 below0 :=
  ⟨lists_1, trivial, launch0.admits_env _ _ _, launch0.least_env, fairChoices_fair.cas, fairChoices_fair.clock, w_frames, w_args, w_heap, w_applies, trivial, trivial, w_case⟩
end start1
theorem witness_1 : WitnessClaimed_1 := ⟨start1.p0, start1.e0, start1.about1, start1.theMethod, start1.args0, start1.below0, start1.atStart⟩
end Jvm.Pilot.@@N@@
