import JvmDerived
import JvmDerived.Pilot.@@N@@Statement
import JvmDerived.Pilot.@@N@@Code
set_option linter.unusedVariables false
set_option linter.unusedSimpArgs false
namespace Jvm.RoadKit
open Sem ClassFile Op Lib Jvm.Stand Jvm.Free Jvm.LawKit
section New
variable {p : Program} {l : Launch} {e : Env} {R : Room} {s : State} {m : MethodId} {args : Array Value} {below : List Frame} {meth : Method} {c : Code} {T : State} {locs : List Loc} {cells slots : Nat}
theorem retI (X : Stand p l e R s m args below meth c T locs cells slots) (hx : p.tables.exec = Jvm.exec) {pc : Nat} {Ls : Array Slot} {z : Int32} {rest : List Value} (hret : meth.sig.returnType = some .int) (hd : decode c.code pc = .ok (.ireturn, 1)) {fs : List Frame}
    (hl : ∀ (f : JFrame) (acts : List Action), f.method = m → f.locked = none → f.entered = [] → (doReturn e (T.setTop f) acts (some (.int z))).1 = T.setFrames fs) : Steps p.tables e below (T.setTop (mkF m pc Ls (.int z :: rest))) (T.setFrames fs) := by
  have hm' : T.vm.method? m = some meth := X.method'
  have hn : narrow .int (.int z) = .int z := rfl
  show Steps p.tables e below (T.setTop { method := m, pc := pc, locals := Ls, stack := _ :: rest, locked := none }) _
  jvm_step X.here [X.here.top, hx, hd, hm', hret, hn]
  first | (intro acts; rw [hl _ acts rfl rfl rfl]) | rw [hl _ _ rfl rfl rfl]
  exact Steps.refl _
end New
end Jvm.RoadKit
namespace Jvm.Pilot.@@N@@
open Jvm Jvm.ClassFile Sem Op Lib Jvm.Free Jvm.Stand Jvm.LawKit Jvm.RoadKit Bundle Jvm.Pilot.@@N@@.Jvm.D
theorem own_le {a b : Nat} (h : a = b) : 2 * 0 + a ≤ b := by omega
theorem own_m (i : Nat) {d : Jvm.Cond} (h : tables_1[i]? = some d) : d ∈ tables_1 := List.mem_of_getElem? h
/-- from the state T at the frame g the method comes to its return, with Q of what it returns -/
def own_Goes (tb : Tables) (e : Env) (below : List Frame) (s : State) (Q : Option Value → Heap → List Loc → Prop) (rc rs : Nat) (T : State) (g : JFrame) : Prop :=
  ∃ s₂ o, Steps tb e below (T.setTop g) s₂ ∧ s₂.status = .running ∧ Ended s₂ below o ∧ ∃ v L, o = .returned v ∧ Q v s₂.heap L ∧ FrameEnd s o s₂ L rc rs
theorem own_by {tb : Tables} {e : Env} {below : List Frame} {s : State} {Q : Option Value → Heap → List Loc → Prop} {rc rs : Nat} {T T' : State} {g g' : JFrame} (h : ∀ t, Steps tb e below (T'.setTop g') t → Steps tb e below (T.setTop g) t) (k : own_Goes tb e below s Q rc rs T' g') : own_Goes tb e below s Q rc rs T g := by
  obtain ⟨s₂, o, h1, h2⟩ := k
  exact ⟨s₂, o, h _ h1, h2⟩
section OwnRet
variable {p : Program} {l : Launch} {e : Env} {R : Room} {s : State} {m : MethodId} {args : Array Value} {below : List Frame} {meth : Method} {c : Code} {T : State} {locs : List Loc} {cells slots : Nat} {Q : Option Value → Heap → List Loc → Prop} {rc rs : Nat} {pc : Nat} {Ls : Array Slot} {rest : List Value}
theorem own_retI (X : Stand p l e R s m args below meth c T locs cells slots) (hx : p.tables.exec = Jvm.exec) {z : Int32} (hlk : meth.locks = false) (hret : meth.sig.returnType = some .int) (hd : decode c.code pc = .ok (.ireturn, 1)) (hc : cells ≤ rc) (hs : slots ≤ rs)
    (hQ : Q (some (.int z)) T.heap locs) : own_Goes p.tables e below s Q rc rs T (mkF m pc Ls (.int z :: rest)) := by
  obtain ⟨fs, hr, hrun, hended, hW, hsame⟩ := X.leave (v := some (.int z)) (fun h => by rw [hret] at h; cases h)
  exact ⟨_, _, retI X hx hret hd hr, hrun, hended, _, _, rfl, hQ, ⟨_, rfl⟩, hW, hsame.mono hc hs⟩
theorem own_retN (X : Stand p l e R s m args below meth c T locs cells slots) (hx : p.tables.exec = Jvm.exec) {z : Int32} {t : FieldType} (hlk : meth.locks = false) (hret : meth.sig.returnType = some t) (ht : t = .boolean ∨ t = .byte ∨ t = .char ∨ t = .short) (hd : decode c.code pc = .ok (.ireturn, 1)) (hc : cells ≤ rc) (hs : slots ≤ rs)
    (hQ : Q (some (.int (nar t z))) T.heap locs) : own_Goes p.tables e below s Q rc rs T (mkF m pc Ls (.int z :: rest)) := by
  obtain ⟨fs, hr, hrun, hended, hW, hsame⟩ := X.leave (v := some (.int (nar t z))) (fun h => by rw [hret] at h; cases h)
  exact ⟨_, _, retN X hx hret ht hd hr, hrun, hended, _, _, rfl, hQ, ⟨_, rfl⟩, hW, hsame.mono hc hs⟩
theorem own_retV (X : Stand p l e R s m args below meth c T locs cells slots) (hx : p.tables.exec = Jvm.exec) (hlk : meth.locks = false) (hret : meth.sig.returnType = none) (hd : decode c.code pc = .ok (.return_, 1)) (hc : cells ≤ rc) (hs : slots ≤ rs)
    (hQ : Q none T.heap locs) : own_Goes p.tables e below s Q rc rs T (mkF m pc Ls []) := by
  obtain ⟨fs, hr, hrun, hended, hW, hsame⟩ := X.leave (v := none) (fun _ => rfl)
  exact ⟨_, _, X.returnOut hx hret hd hr, hrun, hended, _, _, rfl, hQ, ⟨_, rfl⟩, hW, hsame.mono hc hs⟩
theorem own_retJ (X : Stand p l e R s m args below meth c T locs cells slots) (hx : p.tables.exec = Jvm.exec) {z : Int64} (hlk : meth.locks = false) (hret : meth.sig.returnType = some .long) (hd : decode c.code pc = .ok (.lreturn, 1)) (hc : cells ≤ rc) (hs : slots ≤ rs)
    (hQ : Q (some (.long z)) T.heap locs) : own_Goes p.tables e below s Q rc rs T (mkF m pc Ls (.long z :: rest)) := by
  obtain ⟨fs, hr, hrun, hended, hW, hsame⟩ := X.leave (v := some (.long z)) (fun h => by rw [hret] at h; cases h)
  exact ⟨_, _, retOut X hx hret rfl (Or.inr (Or.inl ⟨rfl, rfl, _, rfl⟩)) hd hr, hrun, hended, _, _, rfl, hQ, ⟨_, rfl⟩, hW, hsame.mono hc hs⟩
theorem own_retA (X : Stand p l e R s m args below meth c T locs cells slots) (hx : p.tables.exec = Jvm.exec) {w : Value} {t : FieldType} (hlk : meth.locks = false) (hret : meth.sig.returnType = some t) (ht : t.isReference = true) (hw : w.isRef = true) (hn : narrow t w = w) (hd : decode c.code pc = .ok (.areturn, 1)) (hc : cells ≤ rc) (hs : slots ≤ rs)
    (hQ : Q (some w) T.heap locs) : own_Goes p.tables e below s Q rc rs T (mkF m pc Ls (w :: rest)) := by
  obtain ⟨fs, hr, hrun, hended, hW, hsame⟩ := X.leave (v := some w) (fun h => by rw [hret] at h; cases h)
  exact ⟨_, _, retOut X hx hret hn (Or.inr (Or.inr (Or.inr (Or.inr ⟨rfl, ht, hw⟩)))) hd hr, hrun, hended, _, _, rfl, hQ, ⟨_, rfl⟩, hW, hsame.mono hc hs⟩
end OwnRet
theorem own_nsE {Z : State} {h : Heap} {a : Addr} {C : String} (E : Exa Z h a C) : ∃ c : Cell, h[a]? = some c ∧ c.vm.isStatics = false := by
  obtain ⟨c, k, h1, -, -, h4, -⟩ := E
  exact ⟨c, h1, h4⟩
theorem own_nsV {Z : State} {h : Heap} {a : Addr} {k : ClassId} {ty : FieldType} {n : Int32} {vs : List Value} {d : Value} (F : Arv Z h a k ty n vs d) : ∃ c : Cell, h[a]? = some c ∧ c.vm.isStatics = false := by
  obtain ⟨c, A, -⟩ := F
  exact ⟨c, A.1, A.plain⟩
theorem own_staKeep {Z : State} {h h' : Heap} {C n d : String} {v : Value} {ws : List Addr} (S : Sta Z h C n d v) (K : Keep h h' ws) (q : ∀ x ∈ ws, ∃ c : Cell, h[x]? = some c ∧ c.vm.isStatics = false) : Sta Z h' C n d v := by
  obtain ⟨cf, i, k, f, st, cell, h1, h2, h3, h4, h5, h6, h7⟩ := S
  refine ⟨cf, i, k, f, st, cell, h1, h2, h3, h4, K.2.1 st cell h5 (fun hin => ?_), h6, h7⟩
  obtain ⟨c, hc, hs⟩ := q st hin
  rw [h5] at hc
  cases hc
  rw [h6] at hs
  cases hs
theorem own_arrKeep {Z : State} {h h' : Heap} {a : Addr} {c : Cell} {ty : FieldType} {ws : List Addr} (A : Arr Z h a c ty) (K : Keep h h' ws) (q : a ∉ ws) : Arr Z h' a c ty := ⟨K.2.1 a c A.1 q, A.2⟩
theorem own_eq_int {args : Array Value} {s : State} {t : Term} {k : Int32} (h : (Jvm.Cond.eq t (.int k)).value args s none s [] = some true) : t.eval args s none [] s = some (.int k) := by
  obtain ⟨x, y, h1, h2, k1, k2⟩ := cmp_v (Or.inl h)
  cases h2
  obtain ⟨z, rfl⟩ := k2
  have : z = k := by simpa [Jvm.Cond.value, h1, Term.eval] using h
  rw [h1, this]
theorem own_eq_ref {args : Array Value} {s : State} {t u : Term} {b : Addr} (h : (Jvm.Cond.eq t u).value args s none s [] = some true) (hu : u.eval args s none [] s = some (.ref b)) : t.eval args s none [] s = some (.ref b) := by
  obtain ⟨x, y, h1, h2, k1, k2⟩ := cmp_v (Or.inl h)
  cases hu.symm.trans h2
  have hr : x.isRef = true := k2.2
  rcases ref_cases hr with rfl | ⟨z, rfl⟩
  · simp [Jvm.Cond.value, h1, h2] at h
  · have : z = b := by simpa [Jvm.Cond.value, h1, h2] using h
    rw [h1, this]

theorem own_rem3 (x : Int32) : (x &&& (2147483647 : Int32)) % (3 : Int32) = 0 ∨ (x &&& (2147483647 : Int32)) % (3 : Int32) = 1 ∨ (x &&& (2147483647 : Int32)) % (3 : Int32) = 2 := by
  have h1 := c_mask x 2147483647 31 (by decide) (by decide)
  have h2 := (c_irem (x &&& (2147483647 : Int32)) 3 3 (by decide)).1 (by omega)
  generalize (x &&& (2147483647 : Int32)) % (3 : Int32) = k at *
  have h3 : k.toInt = 0 ∨ k.toInt = 1 ∨ k.toInt = 2 := by omega
  rcases h3 with h | h | h
  · exact Or.inl (Int32.toInt_inj.mp h)
  · exact Or.inr (Or.inl (Int32.toInt_inj.mp h))
  · exact Or.inr (Or.inr (Int32.toInt_inj.mp h))

theorem pn_java_lang_Record : plainName "java/lang/Record" = true := by first | (simp [plainName, overriddenIn]; done) | decide +kernel
theorem ef_2 (m : MethodId) (ob : Addr) : entryFrame m #[(.ref ob)] 1 = mkF m 0 #[.val (.ref ob)] [] := by first | (simp [entryFrame, mkF, argsToLocals, Value.category]; done) | rfl
theorem d2_0 : decode jdk_30_method_1_code 0 = .ok (.aload_n 0, 1) := by decide +kernel
theorem d2_1 : decode jdk_30_method_1_code 1 = .ok (.invokespecial 1, 3) := by decide +kernel
theorem d2_4 : decode jdk_30_method_1_code 4 = .ok (.return_, 1) := by decide +kernel
def Q2 (Z : State) (ob : Addr) (h0 : Heap) (n0 : Nat) (v : Option Value) (h : Heap) (L : List Loc) : Prop := v = none ∧ Fr n0 L ∧ h = h0
set_option maxRecDepth 65536 in
set_option maxHeartbeats 40000000 in
theorem rm2 (l : Launch) (Z : State) (a0 : Array Value) (hw : ∀ d ∈ tables_1, d.before a0 Z = true) (ws : List Jvm.Cond) (ob : Addr) (h0 : Heap) (n0 : Nat) (Zle : n0 ≤ h0.size) :
    MetFree l (⟨"java/lang/Record", "<init>", "()V"⟩ : MethodName) (head1 (Jvm.Cond.code (⟨"java/lang/Record", "<init>", "()V"⟩ : MethodName) jdk_30_method_1_code 1 none :: ws) ({ frames := 1, cells := 0, slots := 0, locals := 12 } : Room)) (fun a U => a = #[(.ref ob)] ∧ Z.Warmed39 U.vm ∧ U.heap = h0) (fun _ _ _ _ _ => True) (fun _ U o U' => ∃ v L, o = .returned v ∧ Q2 Z ob h0 n0 v U'.heap L ∧ FrameEnd U o U' L ({ frames := 1, cells := 0, slots := 0, locals := 12 } : Room).cells ({ frames := 1, cells := 0, slots := 0, locals := 12 } : Room).slots) := by
  refine MetFree.of_bodySF (plainFor_of_name pn_java_lang_Record) hisR ?_
  intro p e s m args below meth c s₁ Bd hml0 hP hK
  obtain ⟨rfl, hZ, hh⟩ := hP
  have hx := Bd.exec
  have hby := Bd.bytes
  have hml : c.maxLocals = 1 := hml0
  have hown : s.vm.findClass "java/lang/Record" = some m.cls := findClass_of_methodNamed Bd.named
  have hnm := (name_of_methodNamed Bd.named Bd.method).1
  have X0 : Stand p l e ({ frames := 1, cells := 0, slots := 0, locals := 12 } : Room) s m #[(.ref ob)] below meth c s₁ [] 0 0 := Stand.of_body Bd
  have e0 : s₁.heap = h0 := by rw [← hh, Bd.state]; rfl
  have N_ := Fr.nil n0
  have K_ := Keep.refl h0 []
  show own_Goes p.tables e below s (Q2 Z ob h0 n0) ({ frames := 1, cells := 0, slots := 0, locals := 12 } : Room).cells ({ frames := 1, cells := 0, slots := 0, locals := 12 } : Room).slots s₁ (entryFrame m #[(.ref ob)] 1)
  refine own_by (T' := s₁) (g' := (mkF m 0 #[.val (.ref ob)] [])) (fun t k => castTop (ef_2 m ob) k) ?_
  refine own_by (T' := s₁) (g' := (mkF m 1 #[.val (.ref ob)] [(.ref ob)])) (fun t k => XS.aloadN X0.here hx rfl (hb hby d2_0) rfl rfl k) ?_
  obtain ⟨T1, X1, e1, st1⟩ := initO X0 hx hZ hown (hw _ (own_m 15 rfl)) (hw _ (own_m 16 rfl)) (hw _ (own_m 17 rfl)) e0 (g := (mkF m 1 #[.val (.ref ob)] [(.ref ob)])) rfl (by rw [hml]; rfl) rfl (hb hby d2_1) (by decide) (W := 0) (own_le rfl) (by decide)
  refine own_by (T' := T1) (g' := (mkF m 4 #[.val (.ref ob)] [])) (fun t k => st1 t k) ?_
  exact own_retV X1 hx Bd.notSynchronized Bd.returns (hb hby d2_4) (by decide) (by decide) (by rw [e1]; exact ⟨rfl, N_, rfl⟩)

theorem pn_com_example_gate2_gate2_Decision : plainName "com/example/gate2/gate2/Decision" = true := by first | (simp [plainName, overriddenIn]; done) | decide +kernel
theorem ef_1 (m : MethodId) (ob : Addr) (w : Addr) (p1 : Int32) (p2 : Int32) : entryFrame m #[(.ref ob), (.ref w), .null, (.int p1), (.int p2)] 5 = mkF m 0 #[.val (.ref ob), .val (.ref w), .val .null, .val (.int p1), .val (.int p2)] [] := by first | (simp [entryFrame, mkF, argsToLocals, Value.category]; done) | rfl
theorem d1_0 : decode prog_4_method_1_code 0 = .ok (.aload_n 0, 1) := by decide +kernel
theorem d1_1 : decode prog_4_method_1_code 1 = .ok (.invokespecial 1, 3) := by decide +kernel
theorem pd_1 : parseMethodDescriptor "()V" = some ⟨[], none⟩ := by decide +kernel
theorem d1_4 : decode prog_4_method_1_code 4 = .ok (.aload_n 0, 1) := by decide +kernel
theorem d1_5 : decode prog_4_method_1_code 5 = .ok (.aload_n 1, 1) := by decide +kernel
theorem d1_6 : decode prog_4_method_1_code 6 = .ok (.putfield 7, 3) := by decide +kernel
theorem d1_9 : decode prog_4_method_1_code 9 = .ok (.aload_n 0, 1) := by decide +kernel
theorem d1_10 : decode prog_4_method_1_code 10 = .ok (.aload_n 2, 1) := by decide +kernel
theorem d1_11 : decode prog_4_method_1_code 11 = .ok (.putfield 13, 3) := by decide +kernel
theorem d1_14 : decode prog_4_method_1_code 14 = .ok (.aload_n 0, 1) := by decide +kernel
theorem d1_15 : decode prog_4_method_1_code 15 = .ok (.iload_n 3, 1) := by decide +kernel
theorem d1_16 : decode prog_4_method_1_code 16 = .ok (.putfield 17, 3) := by decide +kernel
theorem d1_19 : decode prog_4_method_1_code 19 = .ok (.aload_n 0, 1) := by decide +kernel
theorem d1_20 : decode prog_4_method_1_code 20 = .ok (.iload 4, 2) := by decide +kernel
theorem d1_22 : decode prog_4_method_1_code 22 = .ok (.putfield 21, 3) := by decide +kernel
theorem d1_25 : decode prog_4_method_1_code 25 = .ok (.return_, 1) := by decide +kernel
def Q1 (Z : State) (ob : Addr) (w : Addr) (p1 : Int32) (p2 : Int32) (h0 : Heap) (n0 : Nat) (v : Option Value) (h : Heap) (L : List Loc) : Prop := v = none ∧ Fr n0 L ∧ Keep h0 h [ob] ∧ Exa Z h ob "com/example/gate2/gate2/Decision" ∧ Fld Z h ob "com/example/gate2/gate2/Decision" "outcome" "Lcom/example/gate2/gate2/Decision$Outcome;" (.ref w) ∧ Fld Z h ob "com/example/gate2/gate2/Decision" "quota" "Lcom/example/gate2/gate2/Quota;" .null ∧ Fld Z h ob "com/example/gate2/gate2/Decision" "remaining" "I" (.int p1) ∧ Fld Z h ob "com/example/gate2/gate2/Decision" "resetSeconds" "I" (.int p2)
set_option maxRecDepth 65536 in
set_option maxHeartbeats 40000000 in
theorem rm1 (l : Launch) (Z : State) (a0 : Array Value) (hw : ∀ d ∈ tables_1, d.before a0 Z = true) (ws : List Jvm.Cond) (ob : Addr) (w : Addr) (p1 : Int32) (p2 : Int32) (h0 : Heap) (n0 : Nat) (Zle : n0 ≤ h0.size) (E_ob : Exa Z h0 ob "com/example/gate2/gate2/Decision") (g_ob : n0 ≤ ob) (F_outcome_ob : Fld Z h0 ob "com/example/gate2/gate2/Decision" "outcome" "Lcom/example/gate2/gate2/Decision$Outcome;" .null) (F_quota_ob : Fld Z h0 ob "com/example/gate2/gate2/Decision" "quota" "Lcom/example/gate2/gate2/Quota;" .null) (F_remaining_ob : Fld Z h0 ob "com/example/gate2/gate2/Decision" "remaining" "I" (.int 0)) (F_resetSeconds_ob : Fld Z h0 ob "com/example/gate2/gate2/Decision" "resetSeconds" "I" (.int 0)) :
    MetFree l (⟨"com/example/gate2/gate2/Decision", "<init>", "(Lcom/example/gate2/gate2/Decision$Outcome;Lcom/example/gate2/gate2/Quota;II)V"⟩ : MethodName) (head1 (Jvm.Cond.code (⟨"com/example/gate2/gate2/Decision", "<init>", "(Lcom/example/gate2/gate2/Decision$Outcome;Lcom/example/gate2/gate2/Quota;II)V"⟩ : MethodName) prog_4_method_1_code 5 none :: ws) ({ frames := 2, cells := 0, slots := 0, locals := 24 } : Room)) (fun a U => a = #[(.ref ob), (.ref w), .null, (.int p1), (.int p2)] ∧ Z.Warmed39 U.vm ∧ U.heap = h0) (fun _ _ _ _ _ => True) (fun _ U o U' => ∃ v L, o = .returned v ∧ Q1 Z ob w p1 p2 h0 n0 v U'.heap L ∧ FrameEnd U o U' L ({ frames := 2, cells := 0, slots := 0, locals := 24 } : Room).cells ({ frames := 2, cells := 0, slots := 0, locals := 24 } : Room).slots) := by
  refine MetFree.of_bodySF (plainFor_of_name pn_com_example_gate2_gate2_Decision) hisR ?_
  intro p e s m args below meth c s₁ Bd hml0 hP hK
  obtain ⟨rfl, hZ, hh⟩ := hP
  have hx := Bd.exec
  have hby := Bd.bytes
  have hml : c.maxLocals = 5 := hml0
  have hown : s.vm.findClass "com/example/gate2/gate2/Decision" = some m.cls := findClass_of_methodNamed Bd.named
  have hnm := (name_of_methodNamed Bd.named Bd.method).1
  have X0 : Stand p l e ({ frames := 2, cells := 0, slots := 0, locals := 24 } : Room) s m #[(.ref ob), (.ref w), .null, (.int p1), (.int p2)] below meth c s₁ [] 0 0 := Stand.of_body Bd
  have e0 : s₁.heap = h0 := by rw [← hh, Bd.state]; rfl
  have N_ := Fr.nil n0
  have K_ := Keep.refl h0 [ob]
  show own_Goes p.tables e below s (Q1 Z ob w p1 p2 h0 n0) ({ frames := 2, cells := 0, slots := 0, locals := 24 } : Room).cells ({ frames := 2, cells := 0, slots := 0, locals := 24 } : Room).slots s₁ (entryFrame m #[(.ref ob), (.ref w), .null, (.int p1), (.int p2)] 5)
  refine own_by (T' := s₁) (g' := (mkF m 0 #[.val (.ref ob), .val (.ref w), .val .null, .val (.int p1), .val (.int p2)] [])) (fun t k => castTop (ef_1 m ob w p1 p2) k) ?_
  refine own_by (T' := s₁) (g' := (mkF m 1 #[.val (.ref ob), .val (.ref w), .val .null, .val (.int p1), .val (.int p2)] [(.ref ob)])) (fun t k => XS.aloadN X0.here hx rfl (hb hby d1_0) rfl rfl k) ?_
  obtain ⟨_, _, ⟨T1, L1, k1, n1⟩, -, X1, ⟨Lc1, hQ1, l1, y1, z1⟩, st1⟩ := X0.specialBack hx (y := (⟨"java/lang/Record", "<init>", "()V"⟩ : MethodName)) rfl hown (mvT hZ (hw _ (own_m 10 rfl))) (mvT hZ (hw _ (own_m 11 rfl))) (mvT hZ (hw _ (own_m 14 rfl))) (by decide) (backOf (W := 0) (rm2 l Z a0 hw [] ob h0 n0 Zle ) hZ (hw _ (own_m 14 rfl)) (hw _ (own_m 13 rfl)) (by decide) (by decide)) (g := (mkF m 1 #[.val (.ref ob), .val (.ref w), .val .null, .val (.int p1), .val (.int p2)] [(.ref ob)])) rfl (by rw [hml]; rfl) (Steps.refl _) (a := ob) (argsL := []) (rest := []) (lenOf pd_1 rfl) rfl (own_le rfl) (hb hby d1_1) (fun _ _ => ⟨rfl, e0, (by decide : 0 + 0 ≤ _), (by decide : 0 + 0 ≤ _)⟩)
  dsimp only [Pt.U, Pt.locs, Pt.cells, Pt.slots] at X1 l1 y1 z1 st1 hQ1
  subst l1 y1 z1
  obtain ⟨rfl, Nq1, e1⟩ := hQ1
  have N_ := Fr.app N_ Nq1
  refine own_by (T' := T1) (g' := (mkF m 4 #[.val (.ref ob), .val (.ref w), .val .null, .val (.int p1), .val (.int p2)] [])) (fun t k => st1.trans k) ?_
  refine own_by (T' := T1) (g' := (mkF m 5 #[.val (.ref ob), .val (.ref w), .val .null, .val (.int p1), .val (.int p2)] [(.ref ob)])) (fun t k => XS.aloadN X1.here hx rfl (hb hby d1_4) rfl rfl k) ?_
  refine own_by (T' := T1) (g' := (mkF m 6 #[.val (.ref ob), .val (.ref w), .val .null, .val (.int p1), .val (.int p2)] [(.ref w), (.ref ob)])) (fun t k => XS.aloadN X1.here hx rfl (hb hby d1_5) rfl rfl k) ?_
  obtain ⟨T2, h2, X2, e2, W2, st2⟩ := putF X1 hx hZ hown (host := "") (Or.inl (hw _ (own_m 18 rfl))) Via.refl e1 F_outcome_ob E_ob (Or.inr ⟨(hw _ (own_m 19 rfl)), rfl, hnm⟩) (hw _ (own_m 5 rfl)) (ty := (.object "com/example/gate2/gate2/Decision$Outcome")) (by decide) rfl rfl (g := (mkF m 6 #[.val (.ref ob), .val (.ref w), .val .null, .val (.int p1), .val (.int p2)] [(.ref w), (.ref ob)])) rfl rfl (hb hby d1_6)
  have F_outcome_ob_ := F_outcome_ob.same W2
  have E_ob := E_ob.wr W2
  have F_quota_ob := F_quota_ob.other W2 (Or.inr (slot_ne (Or.inr (hw _ (own_m 21 rfl))) (Or.inr (hw _ (own_m 19 rfl))) (by decide) (t := (.object "com/example/gate2/gate2/Quota")) (t' := (.object "com/example/gate2/gate2/Decision$Outcome")) (by decide) (by decide)))
  have F_remaining_ob := F_remaining_ob.other W2 (Or.inr (slot_ne (Or.inr (hw _ (own_m 23 rfl))) (Or.inr (hw _ (own_m 19 rfl))) (by decide) (t := .int) (t' := (.object "com/example/gate2/gate2/Decision$Outcome")) (by decide) (by decide)))
  have F_resetSeconds_ob := F_resetSeconds_ob.other W2 (Or.inr (slot_ne (Or.inr (hw _ (own_m 25 rfl))) (Or.inr (hw _ (own_m 19 rfl))) (by decide) (t := .int) (t' := (.object "com/example/gate2/gate2/Decision$Outcome")) (by decide) (by decide)))
  have Zle := Nat.le_trans Zle (Keep.of_wr W2).1
  have K_ := K_.wr W2 (Or.inl (List.mem_of_getElem? (i := 0) rfl))
  have F_outcome_ob := F_outcome_ob_
  have N_ := Fr.snoc X2 N_ g_ob
  refine own_by (T' := T2) (g' := (mkF m 9 #[.val (.ref ob), .val (.ref w), .val .null, .val (.int p1), .val (.int p2)] [])) (fun t k => st2 t k) ?_
  refine own_by (T' := T2) (g' := (mkF m 10 #[.val (.ref ob), .val (.ref w), .val .null, .val (.int p1), .val (.int p2)] [(.ref ob)])) (fun t k => XS.aloadN X2.here hx rfl (hb hby d1_9) rfl rfl k) ?_
  refine own_by (T' := T2) (g' := (mkF m 11 #[.val (.ref ob), .val (.ref w), .val .null, .val (.int p1), .val (.int p2)] [.null, (.ref ob)])) (fun t k => XS.aloadN X2.here hx rfl (hb hby d1_10) rfl rfl k) ?_
  obtain ⟨T3, h3, X3, e3, W3, st3⟩ := putF X2 hx hZ hown (host := "") (Or.inl (hw _ (own_m 20 rfl))) Via.refl e2 F_quota_ob E_ob (Or.inr ⟨(hw _ (own_m 21 rfl)), rfl, hnm⟩) (hw _ (own_m 5 rfl)) (ty := (.object "com/example/gate2/gate2/Quota")) (by decide) rfl rfl (g := (mkF m 11 #[.val (.ref ob), .val (.ref w), .val .null, .val (.int p1), .val (.int p2)] [.null, (.ref ob)])) rfl rfl (hb hby d1_11)
  have F_quota_ob_ := F_quota_ob.same W3
  have E_ob := E_ob.wr W3
  have F_remaining_ob := F_remaining_ob.other W3 (Or.inr (slot_ne (Or.inr (hw _ (own_m 23 rfl))) (Or.inr (hw _ (own_m 21 rfl))) (by decide) (t := .int) (t' := (.object "com/example/gate2/gate2/Quota")) (by decide) (by decide)))
  have F_resetSeconds_ob := F_resetSeconds_ob.other W3 (Or.inr (slot_ne (Or.inr (hw _ (own_m 25 rfl))) (Or.inr (hw _ (own_m 21 rfl))) (by decide) (t := .int) (t' := (.object "com/example/gate2/gate2/Quota")) (by decide) (by decide)))
  have Zle := Nat.le_trans Zle (Keep.of_wr W3).1
  have K_ := K_.wr W3 (Or.inl (List.mem_of_getElem? (i := 0) rfl))
  have F_outcome_ob := F_outcome_ob.other W3 (Or.inr (slot_ne (Or.inr (hw _ (own_m 19 rfl))) (Or.inr (hw _ (own_m 21 rfl))) (by decide) (t := (.object "com/example/gate2/gate2/Decision$Outcome")) (t' := (.object "com/example/gate2/gate2/Quota")) (by decide) (by decide)))
  have F_quota_ob := F_quota_ob_
  have N_ := Fr.snoc X3 N_ g_ob
  refine own_by (T' := T3) (g' := (mkF m 14 #[.val (.ref ob), .val (.ref w), .val .null, .val (.int p1), .val (.int p2)] [])) (fun t k => st3 t k) ?_
  refine own_by (T' := T3) (g' := (mkF m 15 #[.val (.ref ob), .val (.ref w), .val .null, .val (.int p1), .val (.int p2)] [(.ref ob)])) (fun t k => XS.aloadN X3.here hx rfl (hb hby d1_14) rfl rfl k) ?_
  refine own_by (T' := T3) (g' := (mkF m 16 #[.val (.ref ob), .val (.ref w), .val .null, .val (.int p1), .val (.int p2)] [(.int p1), (.ref ob)])) (fun t k => XS.iloadN X3.here hx rfl (hb hby d1_15) rfl k) ?_
  obtain ⟨T4, h4, X4, e4, W4, st4⟩ := putF X3 hx hZ hown (host := "") (Or.inl (hw _ (own_m 22 rfl))) Via.refl e3 F_remaining_ob E_ob (Or.inr ⟨(hw _ (own_m 23 rfl)), rfl, hnm⟩) (hw _ (own_m 5 rfl)) (ty := .int) (by decide) rfl rfl (g := (mkF m 16 #[.val (.ref ob), .val (.ref w), .val .null, .val (.int p1), .val (.int p2)] [(.int p1), (.ref ob)])) rfl rfl (hb hby d1_16)
  have F_remaining_ob_ := F_remaining_ob.same W4
  have E_ob := E_ob.wr W4
  have F_resetSeconds_ob := F_resetSeconds_ob.other W4 (Or.inr (slot_ne (Or.inr (hw _ (own_m 25 rfl))) (Or.inr (hw _ (own_m 23 rfl))) (by decide) (t := .int) (t' := .int) (by decide) (by decide)))
  have Zle := Nat.le_trans Zle (Keep.of_wr W4).1
  have K_ := K_.wr W4 (Or.inl (List.mem_of_getElem? (i := 0) rfl))
  have F_outcome_ob := F_outcome_ob.other W4 (Or.inr (slot_ne (Or.inr (hw _ (own_m 19 rfl))) (Or.inr (hw _ (own_m 23 rfl))) (by decide) (t := (.object "com/example/gate2/gate2/Decision$Outcome")) (t' := .int) (by decide) (by decide)))
  have F_quota_ob := F_quota_ob.other W4 (Or.inr (slot_ne (Or.inr (hw _ (own_m 21 rfl))) (Or.inr (hw _ (own_m 23 rfl))) (by decide) (t := (.object "com/example/gate2/gate2/Quota")) (t' := .int) (by decide) (by decide)))
  have F_remaining_ob := F_remaining_ob_
  have N_ := Fr.snoc X4 N_ g_ob
  refine own_by (T' := T4) (g' := (mkF m 19 #[.val (.ref ob), .val (.ref w), .val .null, .val (.int p1), .val (.int p2)] [])) (fun t k => st4 t k) ?_
  refine own_by (T' := T4) (g' := (mkF m 20 #[.val (.ref ob), .val (.ref w), .val .null, .val (.int p1), .val (.int p2)] [(.ref ob)])) (fun t k => XS.aloadN X4.here hx rfl (hb hby d1_19) rfl rfl k) ?_
  refine own_by (T' := T4) (g' := (mkF m 22 #[.val (.ref ob), .val (.ref w), .val .null, .val (.int p1), .val (.int p2)] [(.int p2), (.ref ob)])) (fun t k => XS.iload X4.here hx rfl (hb hby d1_20) rfl k) ?_
  obtain ⟨T5, h5, X5, e5, W5, st5⟩ := putF X4 hx hZ hown (host := "") (Or.inl (hw _ (own_m 24 rfl))) Via.refl e4 F_resetSeconds_ob E_ob (Or.inr ⟨(hw _ (own_m 25 rfl)), rfl, hnm⟩) (hw _ (own_m 5 rfl)) (ty := .int) (by decide) rfl rfl (g := (mkF m 22 #[.val (.ref ob), .val (.ref w), .val .null, .val (.int p1), .val (.int p2)] [(.int p2), (.ref ob)])) rfl rfl (hb hby d1_22)
  have F_resetSeconds_ob_ := F_resetSeconds_ob.same W5
  have E_ob := E_ob.wr W5
  have Zle := Nat.le_trans Zle (Keep.of_wr W5).1
  have K_ := K_.wr W5 (Or.inl (List.mem_of_getElem? (i := 0) rfl))
  have F_outcome_ob := F_outcome_ob.other W5 (Or.inr (slot_ne (Or.inr (hw _ (own_m 19 rfl))) (Or.inr (hw _ (own_m 25 rfl))) (by decide) (t := (.object "com/example/gate2/gate2/Decision$Outcome")) (t' := .int) (by decide) (by decide)))
  have F_quota_ob := F_quota_ob.other W5 (Or.inr (slot_ne (Or.inr (hw _ (own_m 21 rfl))) (Or.inr (hw _ (own_m 25 rfl))) (by decide) (t := (.object "com/example/gate2/gate2/Quota")) (t' := .int) (by decide) (by decide)))
  have F_remaining_ob := F_remaining_ob.other W5 (Or.inr (slot_ne (Or.inr (hw _ (own_m 23 rfl))) (Or.inr (hw _ (own_m 25 rfl))) (by decide) (t := .int) (t' := .int) (by decide) (by decide)))
  have F_resetSeconds_ob := F_resetSeconds_ob_
  have N_ := Fr.snoc X5 N_ g_ob
  refine own_by (T' := T5) (g' := (mkF m 25 #[.val (.ref ob), .val (.ref w), .val .null, .val (.int p1), .val (.int p2)] [])) (fun t k => st5 t k) ?_
  exact own_retV X5 hx Bd.notSynchronized Bd.returns (hb hby d1_25) (by decide) (by decide) (by rw [e5]; exact ⟨rfl, N_, K_, E_ob, F_outcome_ob, F_quota_ob, F_remaining_ob, F_resetSeconds_ob⟩)

theorem ef_4y (m : MethodId) (ob : Addr) : entryFrame m #[(.ref ob)] 1 = mkF m 0 #[.val (.ref ob)] [] := by first | (simp [entryFrame, mkF, argsToLocals, Value.category]; done) | rfl
theorem d4_0 : decode prog_4_method_2_code 0 = .ok (.aload_n 0, 1) := by decide +kernel
theorem d4_1 : decode prog_4_method_2_code 1 = .ok (.getfield 7, 3) := by decide +kernel
theorem d4_4 : decode prog_4_method_2_code 4 = .ok (.getstatic 24, 3) := by decide +kernel
theorem d4_7 : decode prog_4_method_2_code 7 = .ok (.if_acmp .ne 7, 3) := by decide +kernel
theorem d4_10 : decode prog_4_method_2_code 10 = .ok (.iconst 1, 1) := by decide +kernel
theorem d4_11 : decode prog_4_method_2_code 11 = .ok (.goto 4, 3) := by decide +kernel
theorem d4_15 : decode prog_4_method_2_code 15 = .ok (.ireturn, 1) := by decide +kernel
def Q4y (Z : State) (ob : Addr) (w : Addr) (h0 : Heap) (n0 : Nat) (v : Option Value) (h : Heap) (L : List Loc) : Prop := v = some (.int 1) ∧ Fr n0 L ∧ h = h0
set_option maxRecDepth 65536 in
set_option maxHeartbeats 40000000 in
theorem rm4y (l : Launch) (Z : State) (a0 : Array Value) (hw : ∀ d ∈ tables_1, d.before a0 Z = true) (ws : List Jvm.Cond) (ob : Addr) (w : Addr) (h0 : Heap) (n0 : Nat) (Zle : n0 ≤ h0.size) (F_outcome_ob : Fld Z h0 ob "com/example/gate2/gate2/Decision" "outcome" "Lcom/example/gate2/gate2/Decision$Outcome;" (.ref w)) (S_ADMITTED : Sta Z h0 "com/example/gate2/gate2/Decision$Outcome" "ADMITTED" "Lcom/example/gate2/gate2/Decision$Outcome;" (.ref w)) :
    MetFree l (⟨"com/example/gate2/gate2/Decision", "allowed", "()Z"⟩ : MethodName) (head1 (Jvm.Cond.code (⟨"com/example/gate2/gate2/Decision", "allowed", "()Z"⟩ : MethodName) prog_4_method_2_code 1 (some .boolean) :: ws) ({ frames := 0, cells := 0, slots := 0, locals := 0 } : Room)) (fun a U => a = #[(.ref ob)] ∧ Z.Warmed39 U.vm ∧ U.heap = h0) (fun _ _ _ _ _ => True) (fun _ U o U' => ∃ v L, o = .returned v ∧ Q4y Z ob w h0 n0 v U'.heap L ∧ FrameEnd U o U' L ({ frames := 0, cells := 0, slots := 0, locals := 0 } : Room).cells ({ frames := 0, cells := 0, slots := 0, locals := 0 } : Room).slots) := by
  refine MetFree.of_bodySF (plainFor_of_name pn_com_example_gate2_gate2_Decision) hisR ?_
  intro p e s m args below meth c s₁ Bd hml0 hP hK
  obtain ⟨rfl, hZ, hh⟩ := hP
  have hx := Bd.exec
  have hby := Bd.bytes
  have hml : c.maxLocals = 1 := hml0
  have hown : s.vm.findClass "com/example/gate2/gate2/Decision" = some m.cls := findClass_of_methodNamed Bd.named
  have hnm := (name_of_methodNamed Bd.named Bd.method).1
  have X0 : Stand p l e ({ frames := 0, cells := 0, slots := 0, locals := 0 } : Room) s m #[(.ref ob)] below meth c s₁ [] 0 0 := Stand.of_body Bd
  have e0 : s₁.heap = h0 := by rw [← hh, Bd.state]; rfl
  have N_ := Fr.nil n0
  show own_Goes p.tables e below s (Q4y Z ob w h0 n0) ({ frames := 0, cells := 0, slots := 0, locals := 0 } : Room).cells ({ frames := 0, cells := 0, slots := 0, locals := 0 } : Room).slots s₁ (entryFrame m #[(.ref ob)] 1)
  refine own_by (T' := s₁) (g' := (mkF m 0 #[.val (.ref ob)] [])) (fun t k => castTop (ef_4y m ob) k) ?_
  refine own_by (T' := s₁) (g' := (mkF m 1 #[.val (.ref ob)] [(.ref ob)])) (fun t k => XS.aloadN X0.here hx rfl (hb hby d4_0) rfl rfl k) ?_
  obtain ⟨T1, X1, e1, st1⟩ := getF X0 hx hZ hown (host := "") (Or.inl (hw _ (own_m 18 rfl))) Via.refl e0 F_outcome_ob (g := (mkF m 1 #[.val (.ref ob)] [(.ref ob)])) rfl rfl (hb hby d4_1)
  refine own_by (T' := T1) (g' := (mkF m 4 #[.val (.ref ob)] [(.ref w)])) (fun t k => st1 t k) ?_
  obtain ⟨T2, X2, e2, st2⟩ := getS2 X1 hx hZ hown (host := "") (Or.inl (hw _ (own_m 31 rfl))) Via.refl e1 S_ADMITTED (g := (mkF m 4 #[.val (.ref ob)] [(.ref w)])) rfl (hb hby d4_4)
  refine own_by (T' := T2) (g' := (mkF m 7 #[.val (.ref ob)] [(.ref w), (.ref w)])) (fun t k => st2 t k) ?_
  refine own_by (T' := T2) (g' := (mkF m 10 #[.val (.ref ob)] [])) (fun t k => Jvm.RoadKit.acmp (g := (mkF m 7 #[.val (.ref ob)] [(.ref w), (.ref w)])) X2 hx rfl rfl rfl (pc0 := 7) (pc' := 10) (same := true) rfl (hb hby d4_7) rfl (decide_eq_true rfl) (by decide) (by decide) k) ?_
  refine own_by (T' := T2) (g' := (mkF m 11 #[.val (.ref ob)] [(.int 1)])) (fun t k => XS.iconst X2.here hx rfl (hb hby d4_10) k) ?_
  refine own_by (T' := T2) (g' := (mkF m 15 #[.val (.ref ob)] [(.int 1)])) (fun t k => XS.goto X2.here hx rfl (pc0 := 11) (pc' := 15) rfl (hb hby d4_11) (by decide) (by decide) k) ?_
  exact own_retN X2 hx (t := .boolean) Bd.notSynchronized Bd.returns (by simp) (hb hby d4_15) (by decide) (by decide) (by rw [e2]; exact ⟨rfl, N_, rfl⟩)

theorem ef_4n (m : MethodId) (ob : Addr) : entryFrame m #[(.ref ob)] 1 = mkF m 0 #[.val (.ref ob)] [] := by first | (simp [entryFrame, mkF, argsToLocals, Value.category]; done) | rfl
theorem d4_14 : decode prog_4_method_2_code 14 = .ok (.iconst 0, 1) := by decide +kernel
def Q4n (Z : State) (ob : Addr) (w : Addr) (u1 : Addr) (h0 : Heap) (n0 : Nat) (v : Option Value) (h : Heap) (L : List Loc) : Prop := v = some (.int 0) ∧ Fr n0 L ∧ h = h0
set_option maxRecDepth 65536 in
set_option maxHeartbeats 40000000 in
theorem rm4n (l : Launch) (Z : State) (a0 : Array Value) (hw : ∀ d ∈ tables_1, d.before a0 Z = true) (ws : List Jvm.Cond) (ob : Addr) (w : Addr) (u1 : Addr) (h0 : Heap) (n0 : Nat) (Zle : n0 ≤ h0.size) (F_outcome_ob : Fld Z h0 ob "com/example/gate2/gate2/Decision" "outcome" "Lcom/example/gate2/gate2/Decision$Outcome;" (.ref w)) (S_ADMITTED : Sta Z h0 "com/example/gate2/gate2/Decision$Outcome" "ADMITTED" "Lcom/example/gate2/gate2/Decision$Outcome;" (.ref u1)) (ne_w_u1 : w ≠ u1) :
    MetFree l (⟨"com/example/gate2/gate2/Decision", "allowed", "()Z"⟩ : MethodName) (head1 (Jvm.Cond.code (⟨"com/example/gate2/gate2/Decision", "allowed", "()Z"⟩ : MethodName) prog_4_method_2_code 1 (some .boolean) :: ws) ({ frames := 0, cells := 0, slots := 0, locals := 0 } : Room)) (fun a U => a = #[(.ref ob)] ∧ Z.Warmed39 U.vm ∧ U.heap = h0) (fun _ _ _ _ _ => True) (fun _ U o U' => ∃ v L, o = .returned v ∧ Q4n Z ob w u1 h0 n0 v U'.heap L ∧ FrameEnd U o U' L ({ frames := 0, cells := 0, slots := 0, locals := 0 } : Room).cells ({ frames := 0, cells := 0, slots := 0, locals := 0 } : Room).slots) := by
  refine MetFree.of_bodySF (plainFor_of_name pn_com_example_gate2_gate2_Decision) hisR ?_
  intro p e s m args below meth c s₁ Bd hml0 hP hK
  obtain ⟨rfl, hZ, hh⟩ := hP
  have hx := Bd.exec
  have hby := Bd.bytes
  have hml : c.maxLocals = 1 := hml0
  have hown : s.vm.findClass "com/example/gate2/gate2/Decision" = some m.cls := findClass_of_methodNamed Bd.named
  have hnm := (name_of_methodNamed Bd.named Bd.method).1
  have X0 : Stand p l e ({ frames := 0, cells := 0, slots := 0, locals := 0 } : Room) s m #[(.ref ob)] below meth c s₁ [] 0 0 := Stand.of_body Bd
  have e0 : s₁.heap = h0 := by rw [← hh, Bd.state]; rfl
  have N_ := Fr.nil n0
  show own_Goes p.tables e below s (Q4n Z ob w u1 h0 n0) ({ frames := 0, cells := 0, slots := 0, locals := 0 } : Room).cells ({ frames := 0, cells := 0, slots := 0, locals := 0 } : Room).slots s₁ (entryFrame m #[(.ref ob)] 1)
  refine own_by (T' := s₁) (g' := (mkF m 0 #[.val (.ref ob)] [])) (fun t k => castTop (ef_4n m ob) k) ?_
  refine own_by (T' := s₁) (g' := (mkF m 1 #[.val (.ref ob)] [(.ref ob)])) (fun t k => XS.aloadN X0.here hx rfl (hb hby d4_0) rfl rfl k) ?_
  obtain ⟨T1, X1, e1, st1⟩ := getF X0 hx hZ hown (host := "") (Or.inl (hw _ (own_m 18 rfl))) Via.refl e0 F_outcome_ob (g := (mkF m 1 #[.val (.ref ob)] [(.ref ob)])) rfl rfl (hb hby d4_1)
  refine own_by (T' := T1) (g' := (mkF m 4 #[.val (.ref ob)] [(.ref w)])) (fun t k => st1 t k) ?_
  obtain ⟨T2, X2, e2, st2⟩ := getS2 X1 hx hZ hown (host := "") (Or.inl (hw _ (own_m 31 rfl))) Via.refl e1 S_ADMITTED (g := (mkF m 4 #[.val (.ref ob)] [(.ref w)])) rfl (hb hby d4_4)
  refine own_by (T' := T2) (g' := (mkF m 7 #[.val (.ref ob)] [(.ref u1), (.ref w)])) (fun t k => st2 t k) ?_
  refine own_by (T' := T2) (g' := (mkF m 14 #[.val (.ref ob)] [])) (fun t k => Jvm.RoadKit.acmp (g := (mkF m 7 #[.val (.ref ob)] [(.ref u1), (.ref w)])) X2 hx rfl rfl rfl (pc0 := 7) (pc' := 14) (same := false) rfl (hb hby d4_7) rfl (decide_eq_false fun q => ne_w_u1 (Value.ref.inj q)) (by decide) (by decide) k) ?_
  refine own_by (T' := T2) (g' := (mkF m 15 #[.val (.ref ob)] [(.int 0)])) (fun t k => XS.iconst X2.here hx rfl (hb hby d4_14) k) ?_
  exact own_retN X2 hx (t := .boolean) Bd.notSynchronized Bd.returns (by simp) (hb hby d4_15) (by decide) (by decide) (by rw [e2]; exact ⟨rfl, N_, rfl⟩)

theorem pn_com_example_gate2_gate2_DecisionAllowedPinLaw : plainName "com/example/gate2/gate2/DecisionAllowedPinLaw" = true := by first | (simp [plainName, overriddenIn]; done) | decide +kernel
theorem ef_0 (m : MethodId) (x1 : Int32) (x2 : Int32) (x3 : Int32) : entryFrame m #[(.int x1), (.int x2), (.int x3)] maxLocals = mkF m 0 #[.val (.int x1), .val (.int x2), .val (.int x3), .unset, .unset, .unset, .unset] [] := by first | (simp [entryFrame, mkF, argsToLocals, Value.category, maxLocals]; done) | rfl
theorem pd_0 : parseMethodDescriptor "(Lcom/example/gate2/gate2/Decision$Outcome;Lcom/example/gate2/gate2/Quota;II)V" = some ⟨[(.object "com/example/gate2/gate2/Decision$Outcome"), (.object "com/example/gate2/gate2/Quota"), .int, .int], none⟩ := by decide +kernel
theorem pd_2 : parseMethodDescriptor "()Z" = some ⟨[], some .boolean⟩ := by decide +kernel
def Q0 (Z : State) (x1 : Int32) (x2 : Int32) (x3 : Int32) (u0 : Addr) (u1 : Addr) (u2 : Addr) (u3 : Addr) (h0 : Heap) (n0 : Nat) (v : Option Value) (h : Heap) (L : List Loc) : Prop := v = some (.int 1) ∧ Fr n0 L
set_option maxRecDepth 65536 in
set_option maxHeartbeats 40000000 in
theorem rm0 (l : Launch) (Z : State) (a0 : Array Value) (hw : ∀ d ∈ tables_1, d.before a0 Z = true) (ws : List Jvm.Cond) (x1 : Int32) (x2 : Int32) (x3 : Int32) (u0 : Addr) (u1 : Addr) (u2 : Addr) (u3 : Addr) (h0 : Heap) (n0 : Nat) (Zle : n0 ≤ h0.size) (E_u1 : Exa Z h0 u1 "com/example/gate2/gate2/Decision$Outcome") (S_ADMITTED : Sta Z h0 "com/example/gate2/gate2/Decision$Outcome" "ADMITTED" "Lcom/example/gate2/gate2/Decision$Outcome;" (.ref u1)) (E_u0 : Exa Z h0 u0 "com/example/gate2/gate2/Decision") (S_UNCOUNTED : Sta Z h0 "com/example/gate2/gate2/Decision" "UNCOUNTED" "Lcom/example/gate2/gate2/Decision;" (.ref u0)) (E_u2 : Exa Z h0 u2 "com/example/gate2/gate2/Decision$Outcome") (S_REFUSED : Sta Z h0 "com/example/gate2/gate2/Decision$Outcome" "REFUSED" "Lcom/example/gate2/gate2/Decision$Outcome;" (.ref u2)) (E_u3 : Exa Z h0 u3 "com/example/gate2/gate2/Decision$Outcome") (S_NO_ROOM : Sta Z h0 "com/example/gate2/gate2/Decision$Outcome" "NO_ROOM" "Lcom/example/gate2/gate2/Decision$Outcome;" (.ref u3)) (F_outcome_u0 : Fld Z h0 u0 "com/example/gate2/gate2/Decision" "outcome" "Lcom/example/gate2/gate2/Decision$Outcome;" (.ref u1)) (F_ordinal_u2 : Fld Z h0 u2 "java/lang/Enum" "ordinal" "I" (.int 1)) (F_ordinal_u1 : Fld Z h0 u1 "java/lang/Enum" "ordinal" "I" (.int 0)) (F_ordinal_u3 : Fld Z h0 u3 "java/lang/Enum" "ordinal" "I" (.int 2)) (ne_u2_u1 : u2 ≠ u1) (ne_u3_u1 : u3 ≠ u1) :
    MetFree l x (head1 (Jvm.Cond.code x code maxLocals ret :: ws) room_1) (fun a U => a = #[(.int x1), (.int x2), (.int x3)] ∧ Z.Warmed39 U.vm ∧ U.heap = h0) (fun _ _ _ _ _ => True) (fun _ U o U' => ∃ v L, o = .returned v ∧ Q0 Z x1 x2 x3 u0 u1 u2 u3 h0 n0 v U'.heap L ∧ FrameEnd U o U' L room_1.cells room_1.slots) := by
  refine MetFree.of_bodySF (plainFor_of_name pn_com_example_gate2_gate2_DecisionAllowedPinLaw) hisR ?_
  intro p e s m args below meth c s₁ Bd hml0 hP hK
  obtain ⟨rfl, hZ, hh⟩ := hP
  have hx := Bd.exec
  have hby := Bd.bytes
  have hml : c.maxLocals = 7 := hml0
  have hown : s.vm.findClass "com/example/gate2/gate2/DecisionAllowedPinLaw" = some m.cls := findClass_of_methodNamed Bd.named
  have hnm := (name_of_methodNamed Bd.named Bd.method).1
  have X0 : Stand p l e room_1 s m #[(.int x1), (.int x2), (.int x3)] below meth c s₁ [] 0 0 := Stand.of_body Bd
  have e0 : s₁.heap = h0 := by rw [← hh, Bd.state]; rfl
  have N_ := Fr.nil n0
  show own_Goes p.tables e below s (Q0 Z x1 x2 x3 u0 u1 u2 u3 h0 n0) room_1.cells room_1.slots s₁ (entryFrame m #[(.int x1), (.int x2), (.int x3)] maxLocals)
  refine own_by (T' := s₁) (g' := (mkF m 0 #[.val (.int x1), .val (.int x2), .val (.int x3), .unset, .unset, .unset, .unset] [])) (fun t k => castTop (ef_0 m x1 x2 x3) k) ?_
  refine own_by (T' := s₁) (g' := (mkF m 1 #[.val (.int x1), .val (.int x2), .val (.int x3), .unset, .unset, .unset, .unset] [(.int x1)])) (fun t k => XS.iloadN X0.here hx rfl (hb hby at_0) rfl k) ?_
  refine own_by (T' := s₁) (g' := (mkF m 3 #[.val (.int x1), .val (.int x2), .val (.int x3), .unset, .unset, .unset, .unset] [(.int 2147483647), (.int x1)])) (fun t k => X0.ldcInt hx hown (mvT hZ (hw _ (own_m 0 rfl))) (g := (mkF m 1 #[.val (.int x1), .val (.int x2), .val (.int x3), .unset, .unset, .unset, .unset] [(.int x1)])) rfl (hb hby at_1) _ k) ?_
  refine own_by (T' := s₁) (g' := (mkF m 4 #[.val (.int x1), .val (.int x2), .val (.int x3), .unset, .unset, .unset, .unset] [(.int (x1 &&& (2147483647 : Int32)))])) (fun t k => XS.iand X0.here hx rfl (hb hby at_3) rfl k) ?_
  refine own_by (T' := s₁) (g' := (mkF m 5 #[.val (.int x1), .val (.int x2), .val (.int x3), .unset, .unset, .unset, .unset] [(.int 3), (.int (x1 &&& (2147483647 : Int32)))])) (fun t k => XS.iconst X0.here hx rfl (hb hby at_4) k) ?_
  refine own_by (T' := s₁) (g' := (mkF m 6 #[.val (.int x1), .val (.int x2), .val (.int x3), .unset, .unset, .unset, .unset] [(.int ((x1 &&& (2147483647 : Int32)) % (3 : Int32)))])) (fun t k => iremM X0 hx rfl (hb hby at_5) rfl (by decide) k) ?_
  refine own_by (T' := s₁) (g' := (mkF m 7 #[.val (.int x1), .val (.int x2), .val (.int x3), .val (.int ((x1 &&& (2147483647 : Int32)) % (3 : Int32))), .unset, .unset, .unset] [])) (fun t k => XS.istoreN X0.here hx rfl (hb hby at_6) rfl (l' := #[.val (.int x1), .val (.int x2), .val (.int x3), .val (.int ((x1 &&& (2147483647 : Int32)) % (3 : Int32))), .unset, .unset, .unset]) rfl k) ?_
  rcases own_rem3 x1 with hk | hk | hk
  · rw [hk]
    refine own_by (T' := s₁) (g' := (mkF m 8 #[.val (.int x1), .val (.int x2), .val (.int x3), .val (.int 0), .unset, .unset, .unset] [(.int 0)])) (fun t k => XS.iloadN X0.here hx rfl (hb hby at_7) rfl k) ?_
    refine own_by (T' := s₁) (g' := (mkF m 11 #[.val (.int x1), .val (.int x2), .val (.int x3), .val (.int 0), .unset, .unset, .unset] [])) (fun t k => XS.ifNo X0.here hx rfl (hb hby at_8) rfl ((if0 _ _).trans (teq (by decide)).2) k) ?_
    obtain ⟨T1, X1, e1, st1⟩ := getS2 X0 hx hZ hown (host := "") (Or.inl (hw _ (own_m 1 rfl))) Via.refl e0 S_ADMITTED (g := (mkF m 11 #[.val (.int x1), .val (.int x2), .val (.int x3), .val (.int 0), .unset, .unset, .unset] [])) rfl (hb hby at_11)
    refine own_by (T' := T1) (g' := (mkF m 14 #[.val (.int x1), .val (.int x2), .val (.int x3), .val (.int 0), .unset, .unset, .unset] [(.ref u1)])) (fun t k => st1 t k) ?_
    refine own_by (T' := T1) (g' := (mkF m 16 #[.val (.int x1), .val (.int x2), .val (.int x3), .val (.int 0), .val (.ref u1), .unset, .unset] [])) (fun t k => XS.astore X1.here hx rfl (hb hby at_14) rfl rfl (l' := #[.val (.int x1), .val (.int x2), .val (.int x3), .val (.int 0), .val (.ref u1), .unset, .unset]) rfl k) ?_
    refine own_by (T' := T1) (g' := (mkF m 37 #[.val (.int x1), .val (.int x2), .val (.int x3), .val (.int 0), .val (.ref u1), .unset, .unset] [])) (fun t k => XS.goto X1.here hx rfl (pc0 := 16) (pc' := 37) rfl (hb hby at_16) (by decide) (by decide) k) ?_
    obtain ⟨T2, h2, X2, e2, E2, A2, D2, -, st2⟩ := newO X1 hx hZ hown (hw _ (own_m 4 rfl)) (hw _ (own_m 5 rfl)) (hw _ (own_m 6 rfl)) e1 (g := (mkF m 37 #[.val (.int x1), .val (.int x2), .val (.int x3), .val (.int 0), .val (.ref u1), .unset, .unset] [])) rfl (hb hby at_37) (by decide) (by decide)
    obtain ⟨b2, g2⟩ : ∃ z, z = h0.size := ⟨_, rfl⟩
    rw [← g2] at A2 D2 st2
    have ne_u1_b2 : u1 ≠ b2 := Nat.ne_of_lt (Nat.lt_of_lt_of_eq E_u1.lt g2.symm)
    have ne_u0_b2 : u0 ≠ b2 := Nat.ne_of_lt (Nat.lt_of_lt_of_eq E_u0.lt g2.symm)
    have ne_u2_b2 : u2 ≠ b2 := Nat.ne_of_lt (Nat.lt_of_lt_of_eq E_u2.lt g2.symm)
    have ne_u3_b2 : u3 ≠ b2 := Nat.ne_of_lt (Nat.lt_of_lt_of_eq E_u3.lt g2.symm)
    have g_b2 : n0 ≤ b2 := Nat.le_trans Zle (Nat.le_of_eq g2.symm)
    have E_u1 := E_u1.ext E2
    have S_ADMITTED := S_ADMITTED.ext E2
    have E_u0 := E_u0.ext E2
    have S_UNCOUNTED := S_UNCOUNTED.ext E2
    have E_u2 := E_u2.ext E2
    have S_REFUSED := S_REFUSED.ext E2
    have E_u3 := E_u3.ext E2
    have S_NO_ROOM := S_NO_ROOM.ext E2
    have F_outcome_u0 := F_outcome_u0.ext E2
    have F_ordinal_u2 := F_ordinal_u2.ext E2
    have F_ordinal_u1 := F_ordinal_u1.ext E2
    have F_ordinal_u3 := F_ordinal_u3.ext E2
    have Zle := Nat.le_trans Zle E2.1
    have E_b2 := A2
    have F_outcome_b2 : Fld Z h2 b2 "com/example/gate2/gate2/Decision" "outcome" "Lcom/example/gate2/gate2/Decision$Outcome;" .null := D2 (Or.inr (hw _ (own_m 19 rfl))) (ty := (.object "com/example/gate2/gate2/Decision$Outcome")) (by decide)
    have F_quota_b2 : Fld Z h2 b2 "com/example/gate2/gate2/Decision" "quota" "Lcom/example/gate2/gate2/Quota;" .null := D2 (Or.inr (hw _ (own_m 21 rfl))) (ty := (.object "com/example/gate2/gate2/Quota")) (by decide)
    have F_remaining_b2 : Fld Z h2 b2 "com/example/gate2/gate2/Decision" "remaining" "I" (.int 0) := D2 (Or.inr (hw _ (own_m 23 rfl))) (ty := .int) (by decide)
    have F_resetSeconds_b2 : Fld Z h2 b2 "com/example/gate2/gate2/Decision" "resetSeconds" "I" (.int 0) := D2 (Or.inr (hw _ (own_m 25 rfl))) (ty := .int) (by decide)
    refine own_by (T' := T2) (g' := (mkF m 40 #[.val (.int x1), .val (.int x2), .val (.int x3), .val (.int 0), .val (.ref u1), .unset, .unset] [(.ref b2)])) (fun t k => st2 t k) ?_
    refine own_by (T' := T2) (g' := (mkF m 41 #[.val (.int x1), .val (.int x2), .val (.int x3), .val (.int 0), .val (.ref u1), .unset, .unset] [(.ref b2), (.ref b2)])) (fun t k => XS.dup X2.here hx rfl (hb hby at_40) rfl rfl k) ?_
    refine own_by (T' := T2) (g' := (mkF m 43 #[.val (.int x1), .val (.int x2), .val (.int x3), .val (.int 0), .val (.ref u1), .unset, .unset] [(.ref u1), (.ref b2), (.ref b2)])) (fun t k => XS.aload X2.here hx rfl (hb hby at_41) rfl rfl k) ?_
    refine own_by (T' := T2) (g' := (mkF m 44 #[.val (.int x1), .val (.int x2), .val (.int x3), .val (.int 0), .val (.ref u1), .unset, .unset] [.null, (.ref u1), (.ref b2), (.ref b2)])) (fun t k => XS.aconstNull X2.here hx rfl (hb hby at_43) k) ?_
    refine own_by (T' := T2) (g' := (mkF m 45 #[.val (.int x1), .val (.int x2), .val (.int x3), .val (.int 0), .val (.ref u1), .unset, .unset] [(.int x2), .null, (.ref u1), (.ref b2), (.ref b2)])) (fun t k => XS.iloadN X2.here hx rfl (hb hby at_44) rfl k) ?_
    refine own_by (T' := T2) (g' := (mkF m 46 #[.val (.int x1), .val (.int x2), .val (.int x3), .val (.int 0), .val (.ref u1), .unset, .unset] [(.int x3), (.int x2), .null, (.ref u1), (.ref b2), (.ref b2)])) (fun t k => XS.iloadN X2.here hx rfl (hb hby at_45) rfl k) ?_
    obtain ⟨_, _, ⟨T3, L3, k3, n3⟩, -, X3, ⟨Lc3, hQ3, l3, y3, z3⟩, st3⟩ := X2.specialBack hx (y := (⟨"com/example/gate2/gate2/Decision", "<init>", "(Lcom/example/gate2/gate2/Decision$Outcome;Lcom/example/gate2/gate2/Quota;II)V"⟩ : MethodName)) rfl hown (mvT hZ (hw _ (own_m 7 rfl))) (mvT hZ (hw _ (own_m 8 rfl))) (mvT hZ (hw _ (own_m 9 rfl))) (by decide) (backOf (W := 1) (rm1 l Z a0 hw [] b2 u1 x2 x3 h2 n0 Zle E_b2 g_b2 F_outcome_b2 F_quota_b2 F_remaining_b2 F_resetSeconds_b2) hZ (hw _ (own_m 9 rfl)) (hw _ (own_m 6 rfl)) (by decide) (by decide)) (g := (mkF m 46 #[.val (.int x1), .val (.int x2), .val (.int x3), .val (.int 0), .val (.ref u1), .unset, .unset] [(.int x3), (.int x2), .null, (.ref u1), (.ref b2), (.ref b2)])) rfl (by rw [hml]; rfl) (Steps.refl _) (a := b2) (argsL := [(.ref u1), .null, (.int x2), (.int x3)]) (rest := [(.ref b2)]) (lenOf pd_0 rfl) rfl (own_le rfl) (hb hby at_46) (fun _ _ => ⟨rfl, e2, (by decide : 1 + 0 ≤ _), (by decide : 4 + 0 ≤ _)⟩)
    dsimp only [Pt.U, Pt.locs, Pt.cells, Pt.slots] at X3 l3 y3 z3 st3 hQ3
    subst l3 y3 z3
    obtain ⟨rfl, Nq3, c3_0, c3_1, c3_2, c3_3, c3_4, c3_5⟩ := hQ3
    have N_ := Fr.app N_ Nq3
    have S_ADMITTED := own_staKeep S_ADMITTED c3_0 (allS (own_nsE E_b2) all0)
    have S_UNCOUNTED := own_staKeep S_UNCOUNTED c3_0 (allS (own_nsE E_b2) all0)
    have S_REFUSED := own_staKeep S_REFUSED c3_0 (allS (own_nsE E_b2) all0)
    have S_NO_ROOM := own_staKeep S_NO_ROOM c3_0 (allS (own_nsE E_b2) all0)
    have E_u1 := E_u1.keep c3_0
    have E_u0 := E_u0.keep c3_0
    have E_u2 := E_u2.keep c3_0
    have E_u3 := E_u3.keep c3_0
    have F_outcome_u0 := F_outcome_u0.keep c3_0 (ninS ne_u0_b2 nin0)
    have F_ordinal_u2 := F_ordinal_u2.keep c3_0 (ninS ne_u2_b2 nin0)
    have F_ordinal_u1 := F_ordinal_u1.keep c3_0 (ninS ne_u1_b2 nin0)
    have F_ordinal_u3 := F_ordinal_u3.keep c3_0 (ninS ne_u3_b2 nin0)
    have Zle := Nat.le_trans Zle c3_0.1
    have E_b2 := E_b2.keep c3_0
    refine own_by (T' := T3) (g' := (mkF m 49 #[.val (.int x1), .val (.int x2), .val (.int x3), .val (.int 0), .val (.ref u1), .unset, .unset] [(.ref b2)])) (fun t k => st3.trans k) ?_
    refine own_by (T' := T3) (g' := (mkF m 51 #[.val (.int x1), .val (.int x2), .val (.int x3), .val (.int 0), .val (.ref u1), .val (.ref b2), .unset] [])) (fun t k => XS.astore X3.here hx rfl (hb hby at_49) rfl rfl (l' := #[.val (.int x1), .val (.int x2), .val (.int x3), .val (.int 0), .val (.ref u1), .val (.ref b2), .unset]) rfl k) ?_
    refine own_by (T' := T3) (g' := (mkF m 52 #[.val (.int x1), .val (.int x2), .val (.int x3), .val (.int 0), .val (.ref u1), .val (.ref b2), .unset] [(.int 0)])) (fun t k => XS.iloadN X3.here hx rfl (hb hby at_51) rfl k) ?_
    refine own_by (T' := T3) (g' := (mkF m 55 #[.val (.int x1), .val (.int x2), .val (.int x3), .val (.int 0), .val (.ref u1), .val (.ref b2), .unset] [])) (fun t k => XS.ifNo X3.here hx rfl (hb hby at_52) rfl ((if0 _ _).trans (teq (by decide)).2) k) ?_
    refine own_by (T' := T3) (g' := (mkF m 56 #[.val (.int x1), .val (.int x2), .val (.int x3), .val (.int 0), .val (.ref u1), .val (.ref b2), .unset] [(.int 1)])) (fun t k => XS.iconst X3.here hx rfl (hb hby at_55) k) ?_
    refine own_by (T' := T3) (g' := (mkF m 60 #[.val (.int x1), .val (.int x2), .val (.int x3), .val (.int 0), .val (.ref u1), .val (.ref b2), .unset] [(.int 1)])) (fun t k => XS.goto X3.here hx rfl (pc0 := 56) (pc' := 60) rfl (hb hby at_56) (by decide) (by decide) k) ?_
    refine own_by (T' := T3) (g' := (mkF m 62 #[.val (.int x1), .val (.int x2), .val (.int x3), .val (.int 0), .val (.ref u1), .val (.ref b2), .val (.int 1)] [])) (fun t k => XS.istore X3.here hx rfl (hb hby at_60) rfl (l' := #[.val (.int x1), .val (.int x2), .val (.int x3), .val (.int 0), .val (.ref u1), .val (.ref b2), .val (.int 1)]) rfl k) ?_
    refine own_by (T' := T3) (g' := (mkF m 64 #[.val (.int x1), .val (.int x2), .val (.int x3), .val (.int 0), .val (.ref u1), .val (.ref b2), .val (.int 1)] [(.ref b2)])) (fun t k => XS.aload X3.here hx rfl (hb hby at_62) rfl rfl k) ?_
    obtain ⟨cq4, kq4, q4a, q4b, q4c⟩ := isOf hZ rfl c3_1
    obtain ⟨_, _, ⟨T4, L4, k4, n4⟩, -, X4, ⟨Lc4, hQ4, l4, y4, z4⟩, st4⟩ := X3.virtualBack hx (y := (⟨"com/example/gate2/gate2/Decision", "allowed", "()Z"⟩ : MethodName)) (z := (⟨"com/example/gate2/gate2/Decision", "allowed", "()Z"⟩ : MethodName)) hown (mvT hZ (hw _ (own_m 26 rfl))) (mvT hZ (hw _ (own_m 27 rfl))) (notFace_of_selects (args := #[]) (mvT hZ (hw _ (own_m 29 rfl)))) (mvT hZ (hw _ (own_m 29 rfl))) (mvT hZ (hw _ (own_m 28 rfl))) (by decide) (backOf (W := 0) (rm4y l Z a0 hw [] b2 u1 T3.heap n0 Zle c3_2 S_ADMITTED) hZ (hw _ (own_m 30 rfl)) (hw _ (own_m 6 rfl)) (by decide) (by decide)) q4a q4c (g := (mkF m 64 #[.val (.int x1), .val (.int x2), .val (.int x3), .val (.int 0), .val (.ref u1), .val (.ref b2), .val (.int 1)] [(.ref b2)])) rfl (by rw [hml]; rfl) (Steps.refl _) (argsL := []) (rest := []) (lenOf pd_2 rfl) rfl (own_le rfl) (hb hby at_64) (fun _ _ => ⟨rfl, rfl, (by decide : 1 + 0 ≤ _), (by decide : 4 + 0 ≤ _)⟩)
    dsimp only [Pt.U, Pt.locs, Pt.cells, Pt.slots] at X4 l4 y4 z4 st4 hQ4
    subst l4 y4 z4
    obtain ⟨rfl, Nq4, e4⟩ := hQ4
    have N_ := Fr.app N_ Nq4
    refine own_by (T' := T4) (g' := (mkF m 67 #[.val (.int x1), .val (.int x2), .val (.int x3), .val (.int 0), .val (.ref u1), .val (.ref b2), .val (.int 1)] [(.int 1)])) (fun t k => st4.trans k) ?_
    refine own_by (T' := T4) (g' := (mkF m 69 #[.val (.int x1), .val (.int x2), .val (.int x3), .val (.int 0), .val (.ref u1), .val (.ref b2), .val (.int 1)] [(.int 1), (.int 1)])) (fun t k => XS.iload X4.here hx rfl (hb hby at_67) rfl k) ?_
    refine own_by (T' := T4) (g' := (mkF m 72 #[.val (.int x1), .val (.int x2), .val (.int x3), .val (.int 0), .val (.ref u1), .val (.ref b2), .val (.int 1)] [])) (fun t k => XS.icmpNo X4.here hx rfl (hb hby at_69) rfl (teq (by decide)).2 k) ?_
    obtain ⟨T5, X5, e5, st5⟩ := getS2 X4 hx hZ hown (host := "") (Or.inl (hw _ (own_m 32 rfl))) Via.refl e4 S_UNCOUNTED (g := (mkF m 72 #[.val (.int x1), .val (.int x2), .val (.int x3), .val (.int 0), .val (.ref u1), .val (.ref b2), .val (.int 1)] [])) rfl (hb hby at_72)
    refine own_by (T' := T5) (g' := (mkF m 75 #[.val (.int x1), .val (.int x2), .val (.int x3), .val (.int 0), .val (.ref u1), .val (.ref b2), .val (.int 1)] [(.ref u0)])) (fun t k => st5 t k) ?_
    obtain ⟨cq6, kq6, q6a, q6b, q6c⟩ := isOf hZ e5 E_u0
    obtain ⟨_, _, ⟨T6, L6, k6, n6⟩, -, X6, ⟨Lc6, hQ6, l6, y6, z6⟩, st6⟩ := X5.virtualBack hx (y := (⟨"com/example/gate2/gate2/Decision", "allowed", "()Z"⟩ : MethodName)) (z := (⟨"com/example/gate2/gate2/Decision", "allowed", "()Z"⟩ : MethodName)) hown (mvT hZ (hw _ (own_m 26 rfl))) (mvT hZ (hw _ (own_m 27 rfl))) (notFace_of_selects (args := #[]) (mvT hZ (hw _ (own_m 29 rfl)))) (mvT hZ (hw _ (own_m 29 rfl))) (mvT hZ (hw _ (own_m 28 rfl))) (by decide) (backOf (W := 0) (rm4y l Z a0 hw [] u0 u1 T3.heap n0 Zle F_outcome_u0 S_ADMITTED) hZ (hw _ (own_m 30 rfl)) (hw _ (own_m 6 rfl)) (by decide) (by decide)) q6a q6c (g := (mkF m 75 #[.val (.int x1), .val (.int x2), .val (.int x3), .val (.int 0), .val (.ref u1), .val (.ref b2), .val (.int 1)] [(.ref u0)])) rfl (by rw [hml]; rfl) (Steps.refl _) (argsL := []) (rest := []) (lenOf pd_2 rfl) rfl (own_le rfl) (hb hby at_75) (fun _ _ => ⟨rfl, e5, (by decide : 1 + 0 ≤ _), (by decide : 4 + 0 ≤ _)⟩)
    dsimp only [Pt.U, Pt.locs, Pt.cells, Pt.slots] at X6 l6 y6 z6 st6 hQ6
    subst l6 y6 z6
    obtain ⟨rfl, Nq6, e6⟩ := hQ6
    have N_ := Fr.app N_ Nq6
    refine own_by (T' := T6) (g' := (mkF m 78 #[.val (.int x1), .val (.int x2), .val (.int x3), .val (.int 0), .val (.ref u1), .val (.ref b2), .val (.int 1)] [(.int 1)])) (fun t k => st6.trans k) ?_
    refine own_by (T' := T6) (g' := (mkF m 81 #[.val (.int x1), .val (.int x2), .val (.int x3), .val (.int 0), .val (.ref u1), .val (.ref b2), .val (.int 1)] [])) (fun t k => XS.ifNo X6.here hx rfl (hb hby at_78) rfl ((if0 _ _).trans (feq (by decide)).1) k) ?_
    refine own_by (T' := T6) (g' := (mkF m 82 #[.val (.int x1), .val (.int x2), .val (.int x3), .val (.int 0), .val (.ref u1), .val (.ref b2), .val (.int 1)] [(.int 1)])) (fun t k => XS.iconst X6.here hx rfl (hb hby at_81) k) ?_
    refine own_by (T' := T6) (g' := (mkF m 86 #[.val (.int x1), .val (.int x2), .val (.int x3), .val (.int 0), .val (.ref u1), .val (.ref b2), .val (.int 1)] [(.int 1)])) (fun t k => XS.goto X6.here hx rfl (pc0 := 82) (pc' := 86) rfl (hb hby at_82) (by decide) (by decide) k) ?_
    exact own_retN X6 hx (t := .boolean) Bd.notSynchronized Bd.returns (by simp) (hb hby at_86) (by decide) (by decide) (by rw [e6]; exact ⟨rfl, N_⟩)
  · rw [hk]
    refine own_by (T' := s₁) (g' := (mkF m 8 #[.val (.int x1), .val (.int x2), .val (.int x3), .val (.int 1), .unset, .unset, .unset] [(.int 1)])) (fun t k => XS.iloadN X0.here hx rfl (hb hby at_7) rfl k) ?_
    refine own_by (T' := s₁) (g' := (mkF m 19 #[.val (.int x1), .val (.int x2), .val (.int x3), .val (.int 1), .unset, .unset, .unset] [])) (fun t k => XS.ifYes X0.here hx rfl (pc0 := 8) (pc' := 19) rfl (hb hby at_8) rfl ((if0 _ _).trans (feq (by decide)).2) (by decide) (by decide) k) ?_
    refine own_by (T' := s₁) (g' := (mkF m 20 #[.val (.int x1), .val (.int x2), .val (.int x3), .val (.int 1), .unset, .unset, .unset] [(.int 1)])) (fun t k => XS.iloadN X0.here hx rfl (hb hby at_19) rfl k) ?_
    refine own_by (T' := s₁) (g' := (mkF m 21 #[.val (.int x1), .val (.int x2), .val (.int x3), .val (.int 1), .unset, .unset, .unset] [(.int 1), (.int 1)])) (fun t k => XS.iconst X0.here hx rfl (hb hby at_20) k) ?_
    refine own_by (T' := s₁) (g' := (mkF m 24 #[.val (.int x1), .val (.int x2), .val (.int x3), .val (.int 1), .unset, .unset, .unset] [])) (fun t k => XS.icmpNo X0.here hx rfl (hb hby at_21) rfl (teq (by decide)).2 k) ?_
    obtain ⟨T7, X7, e7, st7⟩ := getS2 X0 hx hZ hown (host := "") (Or.inl (hw _ (own_m 34 rfl))) Via.refl e0 S_REFUSED (g := (mkF m 24 #[.val (.int x1), .val (.int x2), .val (.int x3), .val (.int 1), .unset, .unset, .unset] [])) rfl (hb hby at_24)
    refine own_by (T' := T7) (g' := (mkF m 27 #[.val (.int x1), .val (.int x2), .val (.int x3), .val (.int 1), .unset, .unset, .unset] [(.ref u2)])) (fun t k => st7 t k) ?_
    refine own_by (T' := T7) (g' := (mkF m 29 #[.val (.int x1), .val (.int x2), .val (.int x3), .val (.int 1), .val (.ref u2), .unset, .unset] [])) (fun t k => XS.astore X7.here hx rfl (hb hby at_27) rfl rfl (l' := #[.val (.int x1), .val (.int x2), .val (.int x3), .val (.int 1), .val (.ref u2), .unset, .unset]) rfl k) ?_
    refine own_by (T' := T7) (g' := (mkF m 37 #[.val (.int x1), .val (.int x2), .val (.int x3), .val (.int 1), .val (.ref u2), .unset, .unset] [])) (fun t k => XS.goto X7.here hx rfl (pc0 := 29) (pc' := 37) rfl (hb hby at_29) (by decide) (by decide) k) ?_
    obtain ⟨T8, h8, X8, e8, E8, A8, D8, -, st8⟩ := newO X7 hx hZ hown (hw _ (own_m 4 rfl)) (hw _ (own_m 5 rfl)) (hw _ (own_m 6 rfl)) e7 (g := (mkF m 37 #[.val (.int x1), .val (.int x2), .val (.int x3), .val (.int 1), .val (.ref u2), .unset, .unset] [])) rfl (hb hby at_37) (by decide) (by decide)
    obtain ⟨b8, g8⟩ : ∃ z, z = h0.size := ⟨_, rfl⟩
    rw [← g8] at A8 D8 st8
    have ne_u1_b8 : u1 ≠ b8 := Nat.ne_of_lt (Nat.lt_of_lt_of_eq E_u1.lt g8.symm)
    have ne_u0_b8 : u0 ≠ b8 := Nat.ne_of_lt (Nat.lt_of_lt_of_eq E_u0.lt g8.symm)
    have ne_u2_b8 : u2 ≠ b8 := Nat.ne_of_lt (Nat.lt_of_lt_of_eq E_u2.lt g8.symm)
    have ne_u3_b8 : u3 ≠ b8 := Nat.ne_of_lt (Nat.lt_of_lt_of_eq E_u3.lt g8.symm)
    have g_b8 : n0 ≤ b8 := Nat.le_trans Zle (Nat.le_of_eq g8.symm)
    have E_u1 := E_u1.ext E8
    have S_ADMITTED := S_ADMITTED.ext E8
    have E_u0 := E_u0.ext E8
    have S_UNCOUNTED := S_UNCOUNTED.ext E8
    have E_u2 := E_u2.ext E8
    have S_REFUSED := S_REFUSED.ext E8
    have E_u3 := E_u3.ext E8
    have S_NO_ROOM := S_NO_ROOM.ext E8
    have F_outcome_u0 := F_outcome_u0.ext E8
    have F_ordinal_u2 := F_ordinal_u2.ext E8
    have F_ordinal_u1 := F_ordinal_u1.ext E8
    have F_ordinal_u3 := F_ordinal_u3.ext E8
    have Zle := Nat.le_trans Zle E8.1
    have E_b8 := A8
    have F_outcome_b8 : Fld Z h8 b8 "com/example/gate2/gate2/Decision" "outcome" "Lcom/example/gate2/gate2/Decision$Outcome;" .null := D8 (Or.inr (hw _ (own_m 19 rfl))) (ty := (.object "com/example/gate2/gate2/Decision$Outcome")) (by decide)
    have F_quota_b8 : Fld Z h8 b8 "com/example/gate2/gate2/Decision" "quota" "Lcom/example/gate2/gate2/Quota;" .null := D8 (Or.inr (hw _ (own_m 21 rfl))) (ty := (.object "com/example/gate2/gate2/Quota")) (by decide)
    have F_remaining_b8 : Fld Z h8 b8 "com/example/gate2/gate2/Decision" "remaining" "I" (.int 0) := D8 (Or.inr (hw _ (own_m 23 rfl))) (ty := .int) (by decide)
    have F_resetSeconds_b8 : Fld Z h8 b8 "com/example/gate2/gate2/Decision" "resetSeconds" "I" (.int 0) := D8 (Or.inr (hw _ (own_m 25 rfl))) (ty := .int) (by decide)
    refine own_by (T' := T8) (g' := (mkF m 40 #[.val (.int x1), .val (.int x2), .val (.int x3), .val (.int 1), .val (.ref u2), .unset, .unset] [(.ref b8)])) (fun t k => st8 t k) ?_
    refine own_by (T' := T8) (g' := (mkF m 41 #[.val (.int x1), .val (.int x2), .val (.int x3), .val (.int 1), .val (.ref u2), .unset, .unset] [(.ref b8), (.ref b8)])) (fun t k => XS.dup X8.here hx rfl (hb hby at_40) rfl rfl k) ?_
    refine own_by (T' := T8) (g' := (mkF m 43 #[.val (.int x1), .val (.int x2), .val (.int x3), .val (.int 1), .val (.ref u2), .unset, .unset] [(.ref u2), (.ref b8), (.ref b8)])) (fun t k => XS.aload X8.here hx rfl (hb hby at_41) rfl rfl k) ?_
    refine own_by (T' := T8) (g' := (mkF m 44 #[.val (.int x1), .val (.int x2), .val (.int x3), .val (.int 1), .val (.ref u2), .unset, .unset] [.null, (.ref u2), (.ref b8), (.ref b8)])) (fun t k => XS.aconstNull X8.here hx rfl (hb hby at_43) k) ?_
    refine own_by (T' := T8) (g' := (mkF m 45 #[.val (.int x1), .val (.int x2), .val (.int x3), .val (.int 1), .val (.ref u2), .unset, .unset] [(.int x2), .null, (.ref u2), (.ref b8), (.ref b8)])) (fun t k => XS.iloadN X8.here hx rfl (hb hby at_44) rfl k) ?_
    refine own_by (T' := T8) (g' := (mkF m 46 #[.val (.int x1), .val (.int x2), .val (.int x3), .val (.int 1), .val (.ref u2), .unset, .unset] [(.int x3), (.int x2), .null, (.ref u2), (.ref b8), (.ref b8)])) (fun t k => XS.iloadN X8.here hx rfl (hb hby at_45) rfl k) ?_
    obtain ⟨_, _, ⟨T9, L9, k9, n9⟩, -, X9, ⟨Lc9, hQ9, l9, y9, z9⟩, st9⟩ := X8.specialBack hx (y := (⟨"com/example/gate2/gate2/Decision", "<init>", "(Lcom/example/gate2/gate2/Decision$Outcome;Lcom/example/gate2/gate2/Quota;II)V"⟩ : MethodName)) rfl hown (mvT hZ (hw _ (own_m 7 rfl))) (mvT hZ (hw _ (own_m 8 rfl))) (mvT hZ (hw _ (own_m 9 rfl))) (by decide) (backOf (W := 1) (rm1 l Z a0 hw [] b8 u2 x2 x3 h8 n0 Zle E_b8 g_b8 F_outcome_b8 F_quota_b8 F_remaining_b8 F_resetSeconds_b8) hZ (hw _ (own_m 9 rfl)) (hw _ (own_m 6 rfl)) (by decide) (by decide)) (g := (mkF m 46 #[.val (.int x1), .val (.int x2), .val (.int x3), .val (.int 1), .val (.ref u2), .unset, .unset] [(.int x3), (.int x2), .null, (.ref u2), (.ref b8), (.ref b8)])) rfl (by rw [hml]; rfl) (Steps.refl _) (a := b8) (argsL := [(.ref u2), .null, (.int x2), (.int x3)]) (rest := [(.ref b8)]) (lenOf pd_0 rfl) rfl (own_le rfl) (hb hby at_46) (fun _ _ => ⟨rfl, e8, (by decide : 1 + 0 ≤ _), (by decide : 4 + 0 ≤ _)⟩)
    dsimp only [Pt.U, Pt.locs, Pt.cells, Pt.slots] at X9 l9 y9 z9 st9 hQ9
    subst l9 y9 z9
    obtain ⟨rfl, Nq9, c9_0, c9_1, c9_2, c9_3, c9_4, c9_5⟩ := hQ9
    have N_ := Fr.app N_ Nq9
    have S_ADMITTED := own_staKeep S_ADMITTED c9_0 (allS (own_nsE E_b8) all0)
    have S_UNCOUNTED := own_staKeep S_UNCOUNTED c9_0 (allS (own_nsE E_b8) all0)
    have S_REFUSED := own_staKeep S_REFUSED c9_0 (allS (own_nsE E_b8) all0)
    have S_NO_ROOM := own_staKeep S_NO_ROOM c9_0 (allS (own_nsE E_b8) all0)
    have E_u1 := E_u1.keep c9_0
    have E_u0 := E_u0.keep c9_0
    have E_u2 := E_u2.keep c9_0
    have E_u3 := E_u3.keep c9_0
    have F_outcome_u0 := F_outcome_u0.keep c9_0 (ninS ne_u0_b8 nin0)
    have F_ordinal_u2 := F_ordinal_u2.keep c9_0 (ninS ne_u2_b8 nin0)
    have F_ordinal_u1 := F_ordinal_u1.keep c9_0 (ninS ne_u1_b8 nin0)
    have F_ordinal_u3 := F_ordinal_u3.keep c9_0 (ninS ne_u3_b8 nin0)
    have Zle := Nat.le_trans Zle c9_0.1
    have E_b8 := E_b8.keep c9_0
    refine own_by (T' := T9) (g' := (mkF m 49 #[.val (.int x1), .val (.int x2), .val (.int x3), .val (.int 1), .val (.ref u2), .unset, .unset] [(.ref b8)])) (fun t k => st9.trans k) ?_
    refine own_by (T' := T9) (g' := (mkF m 51 #[.val (.int x1), .val (.int x2), .val (.int x3), .val (.int 1), .val (.ref u2), .val (.ref b8), .unset] [])) (fun t k => XS.astore X9.here hx rfl (hb hby at_49) rfl rfl (l' := #[.val (.int x1), .val (.int x2), .val (.int x3), .val (.int 1), .val (.ref u2), .val (.ref b8), .unset]) rfl k) ?_
    refine own_by (T' := T9) (g' := (mkF m 52 #[.val (.int x1), .val (.int x2), .val (.int x3), .val (.int 1), .val (.ref u2), .val (.ref b8), .unset] [(.int 1)])) (fun t k => XS.iloadN X9.here hx rfl (hb hby at_51) rfl k) ?_
    refine own_by (T' := T9) (g' := (mkF m 59 #[.val (.int x1), .val (.int x2), .val (.int x3), .val (.int 1), .val (.ref u2), .val (.ref b8), .unset] [])) (fun t k => XS.ifYes X9.here hx rfl (pc0 := 52) (pc' := 59) rfl (hb hby at_52) rfl ((if0 _ _).trans (feq (by decide)).2) (by decide) (by decide) k) ?_
    refine own_by (T' := T9) (g' := (mkF m 60 #[.val (.int x1), .val (.int x2), .val (.int x3), .val (.int 1), .val (.ref u2), .val (.ref b8), .unset] [(.int 0)])) (fun t k => XS.iconst X9.here hx rfl (hb hby at_59) k) ?_
    refine own_by (T' := T9) (g' := (mkF m 62 #[.val (.int x1), .val (.int x2), .val (.int x3), .val (.int 1), .val (.ref u2), .val (.ref b8), .val (.int 0)] [])) (fun t k => XS.istore X9.here hx rfl (hb hby at_60) rfl (l' := #[.val (.int x1), .val (.int x2), .val (.int x3), .val (.int 1), .val (.ref u2), .val (.ref b8), .val (.int 0)]) rfl k) ?_
    refine own_by (T' := T9) (g' := (mkF m 64 #[.val (.int x1), .val (.int x2), .val (.int x3), .val (.int 1), .val (.ref u2), .val (.ref b8), .val (.int 0)] [(.ref b8)])) (fun t k => XS.aload X9.here hx rfl (hb hby at_62) rfl rfl k) ?_
    obtain ⟨cq10, kq10, q10a, q10b, q10c⟩ := isOf hZ rfl c9_1
    obtain ⟨_, _, ⟨T10, L10, k10, n10⟩, -, X10, ⟨Lc10, hQ10, l10, y10, z10⟩, st10⟩ := X9.virtualBack hx (y := (⟨"com/example/gate2/gate2/Decision", "allowed", "()Z"⟩ : MethodName)) (z := (⟨"com/example/gate2/gate2/Decision", "allowed", "()Z"⟩ : MethodName)) hown (mvT hZ (hw _ (own_m 26 rfl))) (mvT hZ (hw _ (own_m 27 rfl))) (notFace_of_selects (args := #[]) (mvT hZ (hw _ (own_m 29 rfl)))) (mvT hZ (hw _ (own_m 29 rfl))) (mvT hZ (hw _ (own_m 28 rfl))) (by decide) (backOf (W := 0) (rm4n l Z a0 hw [] b8 u2 u1 T9.heap n0 Zle c9_2 S_ADMITTED (ne_u2_u1)) hZ (hw _ (own_m 30 rfl)) (hw _ (own_m 6 rfl)) (by decide) (by decide)) q10a q10c (g := (mkF m 64 #[.val (.int x1), .val (.int x2), .val (.int x3), .val (.int 1), .val (.ref u2), .val (.ref b8), .val (.int 0)] [(.ref b8)])) rfl (by rw [hml]; rfl) (Steps.refl _) (argsL := []) (rest := []) (lenOf pd_2 rfl) rfl (own_le rfl) (hb hby at_64) (fun _ _ => ⟨rfl, rfl, (by decide : 1 + 0 ≤ _), (by decide : 4 + 0 ≤ _)⟩)
    dsimp only [Pt.U, Pt.locs, Pt.cells, Pt.slots] at X10 l10 y10 z10 st10 hQ10
    subst l10 y10 z10
    obtain ⟨rfl, Nq10, e10⟩ := hQ10
    have N_ := Fr.app N_ Nq10
    refine own_by (T' := T10) (g' := (mkF m 67 #[.val (.int x1), .val (.int x2), .val (.int x3), .val (.int 1), .val (.ref u2), .val (.ref b8), .val (.int 0)] [(.int 0)])) (fun t k => st10.trans k) ?_
    refine own_by (T' := T10) (g' := (mkF m 69 #[.val (.int x1), .val (.int x2), .val (.int x3), .val (.int 1), .val (.ref u2), .val (.ref b8), .val (.int 0)] [(.int 0), (.int 0)])) (fun t k => XS.iload X10.here hx rfl (hb hby at_67) rfl k) ?_
    refine own_by (T' := T10) (g' := (mkF m 72 #[.val (.int x1), .val (.int x2), .val (.int x3), .val (.int 1), .val (.ref u2), .val (.ref b8), .val (.int 0)] [])) (fun t k => XS.icmpNo X10.here hx rfl (hb hby at_69) rfl (teq (by decide)).2 k) ?_
    obtain ⟨T11, X11, e11, st11⟩ := getS2 X10 hx hZ hown (host := "") (Or.inl (hw _ (own_m 32 rfl))) Via.refl e10 S_UNCOUNTED (g := (mkF m 72 #[.val (.int x1), .val (.int x2), .val (.int x3), .val (.int 1), .val (.ref u2), .val (.ref b8), .val (.int 0)] [])) rfl (hb hby at_72)
    refine own_by (T' := T11) (g' := (mkF m 75 #[.val (.int x1), .val (.int x2), .val (.int x3), .val (.int 1), .val (.ref u2), .val (.ref b8), .val (.int 0)] [(.ref u0)])) (fun t k => st11 t k) ?_
    obtain ⟨cq12, kq12, q12a, q12b, q12c⟩ := isOf hZ e11 E_u0
    obtain ⟨_, _, ⟨T12, L12, k12, n12⟩, -, X12, ⟨Lc12, hQ12, l12, y12, z12⟩, st12⟩ := X11.virtualBack hx (y := (⟨"com/example/gate2/gate2/Decision", "allowed", "()Z"⟩ : MethodName)) (z := (⟨"com/example/gate2/gate2/Decision", "allowed", "()Z"⟩ : MethodName)) hown (mvT hZ (hw _ (own_m 26 rfl))) (mvT hZ (hw _ (own_m 27 rfl))) (notFace_of_selects (args := #[]) (mvT hZ (hw _ (own_m 29 rfl)))) (mvT hZ (hw _ (own_m 29 rfl))) (mvT hZ (hw _ (own_m 28 rfl))) (by decide) (backOf (W := 0) (rm4y l Z a0 hw [] u0 u1 T9.heap n0 Zle F_outcome_u0 S_ADMITTED) hZ (hw _ (own_m 30 rfl)) (hw _ (own_m 6 rfl)) (by decide) (by decide)) q12a q12c (g := (mkF m 75 #[.val (.int x1), .val (.int x2), .val (.int x3), .val (.int 1), .val (.ref u2), .val (.ref b8), .val (.int 0)] [(.ref u0)])) rfl (by rw [hml]; rfl) (Steps.refl _) (argsL := []) (rest := []) (lenOf pd_2 rfl) rfl (own_le rfl) (hb hby at_75) (fun _ _ => ⟨rfl, e11, (by decide : 1 + 0 ≤ _), (by decide : 4 + 0 ≤ _)⟩)
    dsimp only [Pt.U, Pt.locs, Pt.cells, Pt.slots] at X12 l12 y12 z12 st12 hQ12
    subst l12 y12 z12
    obtain ⟨rfl, Nq12, e12⟩ := hQ12
    have N_ := Fr.app N_ Nq12
    refine own_by (T' := T12) (g' := (mkF m 78 #[.val (.int x1), .val (.int x2), .val (.int x3), .val (.int 1), .val (.ref u2), .val (.ref b8), .val (.int 0)] [(.int 1)])) (fun t k => st12.trans k) ?_
    refine own_by (T' := T12) (g' := (mkF m 81 #[.val (.int x1), .val (.int x2), .val (.int x3), .val (.int 1), .val (.ref u2), .val (.ref b8), .val (.int 0)] [])) (fun t k => XS.ifNo X12.here hx rfl (hb hby at_78) rfl ((if0 _ _).trans (feq (by decide)).1) k) ?_
    refine own_by (T' := T12) (g' := (mkF m 82 #[.val (.int x1), .val (.int x2), .val (.int x3), .val (.int 1), .val (.ref u2), .val (.ref b8), .val (.int 0)] [(.int 1)])) (fun t k => XS.iconst X12.here hx rfl (hb hby at_81) k) ?_
    refine own_by (T' := T12) (g' := (mkF m 86 #[.val (.int x1), .val (.int x2), .val (.int x3), .val (.int 1), .val (.ref u2), .val (.ref b8), .val (.int 0)] [(.int 1)])) (fun t k => XS.goto X12.here hx rfl (pc0 := 82) (pc' := 86) rfl (hb hby at_82) (by decide) (by decide) k) ?_
    exact own_retN X12 hx (t := .boolean) Bd.notSynchronized Bd.returns (by simp) (hb hby at_86) (by decide) (by decide) (by rw [e12]; exact ⟨rfl, N_⟩)
  · rw [hk]
    refine own_by (T' := s₁) (g' := (mkF m 8 #[.val (.int x1), .val (.int x2), .val (.int x3), .val (.int 2), .unset, .unset, .unset] [(.int 2)])) (fun t k => XS.iloadN X0.here hx rfl (hb hby at_7) rfl k) ?_
    refine own_by (T' := s₁) (g' := (mkF m 19 #[.val (.int x1), .val (.int x2), .val (.int x3), .val (.int 2), .unset, .unset, .unset] [])) (fun t k => XS.ifYes X0.here hx rfl (pc0 := 8) (pc' := 19) rfl (hb hby at_8) rfl ((if0 _ _).trans (feq (by decide)).2) (by decide) (by decide) k) ?_
    refine own_by (T' := s₁) (g' := (mkF m 20 #[.val (.int x1), .val (.int x2), .val (.int x3), .val (.int 2), .unset, .unset, .unset] [(.int 2)])) (fun t k => XS.iloadN X0.here hx rfl (hb hby at_19) rfl k) ?_
    refine own_by (T' := s₁) (g' := (mkF m 21 #[.val (.int x1), .val (.int x2), .val (.int x3), .val (.int 2), .unset, .unset, .unset] [(.int 1), (.int 2)])) (fun t k => XS.iconst X0.here hx rfl (hb hby at_20) k) ?_
    refine own_by (T' := s₁) (g' := (mkF m 32 #[.val (.int x1), .val (.int x2), .val (.int x3), .val (.int 2), .unset, .unset, .unset] [])) (fun t k => XS.icmpYes X0.here hx rfl (pc0 := 21) (pc' := 32) rfl (hb hby at_21) rfl (feq (by decide)).2 (by decide) (by decide) k) ?_
    obtain ⟨T13, X13, e13, st13⟩ := getS2 X0 hx hZ hown (host := "") (Or.inl (hw _ (own_m 36 rfl))) Via.refl e0 S_NO_ROOM (g := (mkF m 32 #[.val (.int x1), .val (.int x2), .val (.int x3), .val (.int 2), .unset, .unset, .unset] [])) rfl (hb hby at_32)
    refine own_by (T' := T13) (g' := (mkF m 35 #[.val (.int x1), .val (.int x2), .val (.int x3), .val (.int 2), .unset, .unset, .unset] [(.ref u3)])) (fun t k => st13 t k) ?_
    refine own_by (T' := T13) (g' := (mkF m 37 #[.val (.int x1), .val (.int x2), .val (.int x3), .val (.int 2), .val (.ref u3), .unset, .unset] [])) (fun t k => XS.astore X13.here hx rfl (hb hby at_35) rfl rfl (l' := #[.val (.int x1), .val (.int x2), .val (.int x3), .val (.int 2), .val (.ref u3), .unset, .unset]) rfl k) ?_
    obtain ⟨T14, h14, X14, e14, E14, A14, D14, -, st14⟩ := newO X13 hx hZ hown (hw _ (own_m 4 rfl)) (hw _ (own_m 5 rfl)) (hw _ (own_m 6 rfl)) e13 (g := (mkF m 37 #[.val (.int x1), .val (.int x2), .val (.int x3), .val (.int 2), .val (.ref u3), .unset, .unset] [])) rfl (hb hby at_37) (by decide) (by decide)
    obtain ⟨b14, g14⟩ : ∃ z, z = h0.size := ⟨_, rfl⟩
    rw [← g14] at A14 D14 st14
    have ne_u1_b14 : u1 ≠ b14 := Nat.ne_of_lt (Nat.lt_of_lt_of_eq E_u1.lt g14.symm)
    have ne_u0_b14 : u0 ≠ b14 := Nat.ne_of_lt (Nat.lt_of_lt_of_eq E_u0.lt g14.symm)
    have ne_u2_b14 : u2 ≠ b14 := Nat.ne_of_lt (Nat.lt_of_lt_of_eq E_u2.lt g14.symm)
    have ne_u3_b14 : u3 ≠ b14 := Nat.ne_of_lt (Nat.lt_of_lt_of_eq E_u3.lt g14.symm)
    have g_b14 : n0 ≤ b14 := Nat.le_trans Zle (Nat.le_of_eq g14.symm)
    have E_u1 := E_u1.ext E14
    have S_ADMITTED := S_ADMITTED.ext E14
    have E_u0 := E_u0.ext E14
    have S_UNCOUNTED := S_UNCOUNTED.ext E14
    have E_u2 := E_u2.ext E14
    have S_REFUSED := S_REFUSED.ext E14
    have E_u3 := E_u3.ext E14
    have S_NO_ROOM := S_NO_ROOM.ext E14
    have F_outcome_u0 := F_outcome_u0.ext E14
    have F_ordinal_u2 := F_ordinal_u2.ext E14
    have F_ordinal_u1 := F_ordinal_u1.ext E14
    have F_ordinal_u3 := F_ordinal_u3.ext E14
    have Zle := Nat.le_trans Zle E14.1
    have E_b14 := A14
    have F_outcome_b14 : Fld Z h14 b14 "com/example/gate2/gate2/Decision" "outcome" "Lcom/example/gate2/gate2/Decision$Outcome;" .null := D14 (Or.inr (hw _ (own_m 19 rfl))) (ty := (.object "com/example/gate2/gate2/Decision$Outcome")) (by decide)
    have F_quota_b14 : Fld Z h14 b14 "com/example/gate2/gate2/Decision" "quota" "Lcom/example/gate2/gate2/Quota;" .null := D14 (Or.inr (hw _ (own_m 21 rfl))) (ty := (.object "com/example/gate2/gate2/Quota")) (by decide)
    have F_remaining_b14 : Fld Z h14 b14 "com/example/gate2/gate2/Decision" "remaining" "I" (.int 0) := D14 (Or.inr (hw _ (own_m 23 rfl))) (ty := .int) (by decide)
    have F_resetSeconds_b14 : Fld Z h14 b14 "com/example/gate2/gate2/Decision" "resetSeconds" "I" (.int 0) := D14 (Or.inr (hw _ (own_m 25 rfl))) (ty := .int) (by decide)
    refine own_by (T' := T14) (g' := (mkF m 40 #[.val (.int x1), .val (.int x2), .val (.int x3), .val (.int 2), .val (.ref u3), .unset, .unset] [(.ref b14)])) (fun t k => st14 t k) ?_
    refine own_by (T' := T14) (g' := (mkF m 41 #[.val (.int x1), .val (.int x2), .val (.int x3), .val (.int 2), .val (.ref u3), .unset, .unset] [(.ref b14), (.ref b14)])) (fun t k => XS.dup X14.here hx rfl (hb hby at_40) rfl rfl k) ?_
    refine own_by (T' := T14) (g' := (mkF m 43 #[.val (.int x1), .val (.int x2), .val (.int x3), .val (.int 2), .val (.ref u3), .unset, .unset] [(.ref u3), (.ref b14), (.ref b14)])) (fun t k => XS.aload X14.here hx rfl (hb hby at_41) rfl rfl k) ?_
    refine own_by (T' := T14) (g' := (mkF m 44 #[.val (.int x1), .val (.int x2), .val (.int x3), .val (.int 2), .val (.ref u3), .unset, .unset] [.null, (.ref u3), (.ref b14), (.ref b14)])) (fun t k => XS.aconstNull X14.here hx rfl (hb hby at_43) k) ?_
    refine own_by (T' := T14) (g' := (mkF m 45 #[.val (.int x1), .val (.int x2), .val (.int x3), .val (.int 2), .val (.ref u3), .unset, .unset] [(.int x2), .null, (.ref u3), (.ref b14), (.ref b14)])) (fun t k => XS.iloadN X14.here hx rfl (hb hby at_44) rfl k) ?_
    refine own_by (T' := T14) (g' := (mkF m 46 #[.val (.int x1), .val (.int x2), .val (.int x3), .val (.int 2), .val (.ref u3), .unset, .unset] [(.int x3), (.int x2), .null, (.ref u3), (.ref b14), (.ref b14)])) (fun t k => XS.iloadN X14.here hx rfl (hb hby at_45) rfl k) ?_
    obtain ⟨_, _, ⟨T15, L15, k15, n15⟩, -, X15, ⟨Lc15, hQ15, l15, y15, z15⟩, st15⟩ := X14.specialBack hx (y := (⟨"com/example/gate2/gate2/Decision", "<init>", "(Lcom/example/gate2/gate2/Decision$Outcome;Lcom/example/gate2/gate2/Quota;II)V"⟩ : MethodName)) rfl hown (mvT hZ (hw _ (own_m 7 rfl))) (mvT hZ (hw _ (own_m 8 rfl))) (mvT hZ (hw _ (own_m 9 rfl))) (by decide) (backOf (W := 1) (rm1 l Z a0 hw [] b14 u3 x2 x3 h14 n0 Zle E_b14 g_b14 F_outcome_b14 F_quota_b14 F_remaining_b14 F_resetSeconds_b14) hZ (hw _ (own_m 9 rfl)) (hw _ (own_m 6 rfl)) (by decide) (by decide)) (g := (mkF m 46 #[.val (.int x1), .val (.int x2), .val (.int x3), .val (.int 2), .val (.ref u3), .unset, .unset] [(.int x3), (.int x2), .null, (.ref u3), (.ref b14), (.ref b14)])) rfl (by rw [hml]; rfl) (Steps.refl _) (a := b14) (argsL := [(.ref u3), .null, (.int x2), (.int x3)]) (rest := [(.ref b14)]) (lenOf pd_0 rfl) rfl (own_le rfl) (hb hby at_46) (fun _ _ => ⟨rfl, e14, (by decide : 1 + 0 ≤ _), (by decide : 4 + 0 ≤ _)⟩)
    dsimp only [Pt.U, Pt.locs, Pt.cells, Pt.slots] at X15 l15 y15 z15 st15 hQ15
    subst l15 y15 z15
    obtain ⟨rfl, Nq15, c15_0, c15_1, c15_2, c15_3, c15_4, c15_5⟩ := hQ15
    have N_ := Fr.app N_ Nq15
    have S_ADMITTED := own_staKeep S_ADMITTED c15_0 (allS (own_nsE E_b14) all0)
    have S_UNCOUNTED := own_staKeep S_UNCOUNTED c15_0 (allS (own_nsE E_b14) all0)
    have S_REFUSED := own_staKeep S_REFUSED c15_0 (allS (own_nsE E_b14) all0)
    have S_NO_ROOM := own_staKeep S_NO_ROOM c15_0 (allS (own_nsE E_b14) all0)
    have E_u1 := E_u1.keep c15_0
    have E_u0 := E_u0.keep c15_0
    have E_u2 := E_u2.keep c15_0
    have E_u3 := E_u3.keep c15_0
    have F_outcome_u0 := F_outcome_u0.keep c15_0 (ninS ne_u0_b14 nin0)
    have F_ordinal_u2 := F_ordinal_u2.keep c15_0 (ninS ne_u2_b14 nin0)
    have F_ordinal_u1 := F_ordinal_u1.keep c15_0 (ninS ne_u1_b14 nin0)
    have F_ordinal_u3 := F_ordinal_u3.keep c15_0 (ninS ne_u3_b14 nin0)
    have Zle := Nat.le_trans Zle c15_0.1
    have E_b14 := E_b14.keep c15_0
    refine own_by (T' := T15) (g' := (mkF m 49 #[.val (.int x1), .val (.int x2), .val (.int x3), .val (.int 2), .val (.ref u3), .unset, .unset] [(.ref b14)])) (fun t k => st15.trans k) ?_
    refine own_by (T' := T15) (g' := (mkF m 51 #[.val (.int x1), .val (.int x2), .val (.int x3), .val (.int 2), .val (.ref u3), .val (.ref b14), .unset] [])) (fun t k => XS.astore X15.here hx rfl (hb hby at_49) rfl rfl (l' := #[.val (.int x1), .val (.int x2), .val (.int x3), .val (.int 2), .val (.ref u3), .val (.ref b14), .unset]) rfl k) ?_
    refine own_by (T' := T15) (g' := (mkF m 52 #[.val (.int x1), .val (.int x2), .val (.int x3), .val (.int 2), .val (.ref u3), .val (.ref b14), .unset] [(.int 2)])) (fun t k => XS.iloadN X15.here hx rfl (hb hby at_51) rfl k) ?_
    refine own_by (T' := T15) (g' := (mkF m 59 #[.val (.int x1), .val (.int x2), .val (.int x3), .val (.int 2), .val (.ref u3), .val (.ref b14), .unset] [])) (fun t k => XS.ifYes X15.here hx rfl (pc0 := 52) (pc' := 59) rfl (hb hby at_52) rfl ((if0 _ _).trans (feq (by decide)).2) (by decide) (by decide) k) ?_
    refine own_by (T' := T15) (g' := (mkF m 60 #[.val (.int x1), .val (.int x2), .val (.int x3), .val (.int 2), .val (.ref u3), .val (.ref b14), .unset] [(.int 0)])) (fun t k => XS.iconst X15.here hx rfl (hb hby at_59) k) ?_
    refine own_by (T' := T15) (g' := (mkF m 62 #[.val (.int x1), .val (.int x2), .val (.int x3), .val (.int 2), .val (.ref u3), .val (.ref b14), .val (.int 0)] [])) (fun t k => XS.istore X15.here hx rfl (hb hby at_60) rfl (l' := #[.val (.int x1), .val (.int x2), .val (.int x3), .val (.int 2), .val (.ref u3), .val (.ref b14), .val (.int 0)]) rfl k) ?_
    refine own_by (T' := T15) (g' := (mkF m 64 #[.val (.int x1), .val (.int x2), .val (.int x3), .val (.int 2), .val (.ref u3), .val (.ref b14), .val (.int 0)] [(.ref b14)])) (fun t k => XS.aload X15.here hx rfl (hb hby at_62) rfl rfl k) ?_
    obtain ⟨cq16, kq16, q16a, q16b, q16c⟩ := isOf hZ rfl c15_1
    obtain ⟨_, _, ⟨T16, L16, k16, n16⟩, -, X16, ⟨Lc16, hQ16, l16, y16, z16⟩, st16⟩ := X15.virtualBack hx (y := (⟨"com/example/gate2/gate2/Decision", "allowed", "()Z"⟩ : MethodName)) (z := (⟨"com/example/gate2/gate2/Decision", "allowed", "()Z"⟩ : MethodName)) hown (mvT hZ (hw _ (own_m 26 rfl))) (mvT hZ (hw _ (own_m 27 rfl))) (notFace_of_selects (args := #[]) (mvT hZ (hw _ (own_m 29 rfl)))) (mvT hZ (hw _ (own_m 29 rfl))) (mvT hZ (hw _ (own_m 28 rfl))) (by decide) (backOf (W := 0) (rm4n l Z a0 hw [] b14 u3 u1 T15.heap n0 Zle c15_2 S_ADMITTED (ne_u3_u1)) hZ (hw _ (own_m 30 rfl)) (hw _ (own_m 6 rfl)) (by decide) (by decide)) q16a q16c (g := (mkF m 64 #[.val (.int x1), .val (.int x2), .val (.int x3), .val (.int 2), .val (.ref u3), .val (.ref b14), .val (.int 0)] [(.ref b14)])) rfl (by rw [hml]; rfl) (Steps.refl _) (argsL := []) (rest := []) (lenOf pd_2 rfl) rfl (own_le rfl) (hb hby at_64) (fun _ _ => ⟨rfl, rfl, (by decide : 1 + 0 ≤ _), (by decide : 4 + 0 ≤ _)⟩)
    dsimp only [Pt.U, Pt.locs, Pt.cells, Pt.slots] at X16 l16 y16 z16 st16 hQ16
    subst l16 y16 z16
    obtain ⟨rfl, Nq16, e16⟩ := hQ16
    have N_ := Fr.app N_ Nq16
    refine own_by (T' := T16) (g' := (mkF m 67 #[.val (.int x1), .val (.int x2), .val (.int x3), .val (.int 2), .val (.ref u3), .val (.ref b14), .val (.int 0)] [(.int 0)])) (fun t k => st16.trans k) ?_
    refine own_by (T' := T16) (g' := (mkF m 69 #[.val (.int x1), .val (.int x2), .val (.int x3), .val (.int 2), .val (.ref u3), .val (.ref b14), .val (.int 0)] [(.int 0), (.int 0)])) (fun t k => XS.iload X16.here hx rfl (hb hby at_67) rfl k) ?_
    refine own_by (T' := T16) (g' := (mkF m 72 #[.val (.int x1), .val (.int x2), .val (.int x3), .val (.int 2), .val (.ref u3), .val (.ref b14), .val (.int 0)] [])) (fun t k => XS.icmpNo X16.here hx rfl (hb hby at_69) rfl (teq (by decide)).2 k) ?_
    obtain ⟨T17, X17, e17, st17⟩ := getS2 X16 hx hZ hown (host := "") (Or.inl (hw _ (own_m 32 rfl))) Via.refl e16 S_UNCOUNTED (g := (mkF m 72 #[.val (.int x1), .val (.int x2), .val (.int x3), .val (.int 2), .val (.ref u3), .val (.ref b14), .val (.int 0)] [])) rfl (hb hby at_72)
    refine own_by (T' := T17) (g' := (mkF m 75 #[.val (.int x1), .val (.int x2), .val (.int x3), .val (.int 2), .val (.ref u3), .val (.ref b14), .val (.int 0)] [(.ref u0)])) (fun t k => st17 t k) ?_
    obtain ⟨cq18, kq18, q18a, q18b, q18c⟩ := isOf hZ e17 E_u0
    obtain ⟨_, _, ⟨T18, L18, k18, n18⟩, -, X18, ⟨Lc18, hQ18, l18, y18, z18⟩, st18⟩ := X17.virtualBack hx (y := (⟨"com/example/gate2/gate2/Decision", "allowed", "()Z"⟩ : MethodName)) (z := (⟨"com/example/gate2/gate2/Decision", "allowed", "()Z"⟩ : MethodName)) hown (mvT hZ (hw _ (own_m 26 rfl))) (mvT hZ (hw _ (own_m 27 rfl))) (notFace_of_selects (args := #[]) (mvT hZ (hw _ (own_m 29 rfl)))) (mvT hZ (hw _ (own_m 29 rfl))) (mvT hZ (hw _ (own_m 28 rfl))) (by decide) (backOf (W := 0) (rm4y l Z a0 hw [] u0 u1 T15.heap n0 Zle F_outcome_u0 S_ADMITTED) hZ (hw _ (own_m 30 rfl)) (hw _ (own_m 6 rfl)) (by decide) (by decide)) q18a q18c (g := (mkF m 75 #[.val (.int x1), .val (.int x2), .val (.int x3), .val (.int 2), .val (.ref u3), .val (.ref b14), .val (.int 0)] [(.ref u0)])) rfl (by rw [hml]; rfl) (Steps.refl _) (argsL := []) (rest := []) (lenOf pd_2 rfl) rfl (own_le rfl) (hb hby at_75) (fun _ _ => ⟨rfl, e17, (by decide : 1 + 0 ≤ _), (by decide : 4 + 0 ≤ _)⟩)
    dsimp only [Pt.U, Pt.locs, Pt.cells, Pt.slots] at X18 l18 y18 z18 st18 hQ18
    subst l18 y18 z18
    obtain ⟨rfl, Nq18, e18⟩ := hQ18
    have N_ := Fr.app N_ Nq18
    refine own_by (T' := T18) (g' := (mkF m 78 #[.val (.int x1), .val (.int x2), .val (.int x3), .val (.int 2), .val (.ref u3), .val (.ref b14), .val (.int 0)] [(.int 1)])) (fun t k => st18.trans k) ?_
    refine own_by (T' := T18) (g' := (mkF m 81 #[.val (.int x1), .val (.int x2), .val (.int x3), .val (.int 2), .val (.ref u3), .val (.ref b14), .val (.int 0)] [])) (fun t k => XS.ifNo X18.here hx rfl (hb hby at_78) rfl ((if0 _ _).trans (feq (by decide)).1) k) ?_
    refine own_by (T' := T18) (g' := (mkF m 82 #[.val (.int x1), .val (.int x2), .val (.int x3), .val (.int 2), .val (.ref u3), .val (.ref b14), .val (.int 0)] [(.int 1)])) (fun t k => XS.iconst X18.here hx rfl (hb hby at_81) k) ?_
    refine own_by (T' := T18) (g' := (mkF m 86 #[.val (.int x1), .val (.int x2), .val (.int x3), .val (.int 2), .val (.ref u3), .val (.ref b14), .val (.int 0)] [(.int 1)])) (fun t k => XS.goto X18.here hx rfl (pc0 := 82) (pc' := 86) rfl (hb hby at_82) (by decide) (by decide) k) ?_
    exact own_retN X18 hx (t := .boolean) Bd.notSynchronized Bd.returns (by simp) (hb hby at_86) (by decide) (by decide) (by rw [e18]; exact ⟨rfl, N_⟩)

set_option maxRecDepth 65536 in
set_option maxHeartbeats 40000000 in
theorem comes_1 {Post : Tables → Env → Array Value → State → Outcome → State → Prop} (hpost : ∀ tb e args s v u, (limb_1_1.after args s (.returned v) u = true ∧ limb_1_2.after args s (.returned v) u = true ∧ True) → FrameEnd s (.returned v) u (Jvm.fieldLocs frame_1_writes args s ++ Jvm.arrayLocs frame_1_arrays args s ++ Jvm.staticLocs frame_1_statics s) 16 128 → Post tb e args s (.returned v) u) :
    ArmFor flags0 classFile x code maxLocals ret World_1 tables_1 room_1 Calls_1 rest_1 Pre_1 Post := by
  intro l hfl _ _ p e ha hc hk s m args below hf hA hF happ hP
  obtain ⟨hcalls, hrest, hpre⟩ := hP
  obtain ⟨-, -, -, hnamed, -, -, -, hat⟩ := (Spec.applies_iff hf).mp happ
  obtain ⟨hg, hn⟩ := and_e (Cond.before_iff.mp (show (Jvm.Cond.and given_1 narrow_1).before args s = true from hpre))
  obtain ⟨hcount, g0⟩ := and_e hg
  obtain ⟨a0, g1⟩ := and_e g0
  obtain ⟨a1, g2⟩ := and_e g1
  obtain ⟨w0, w1, w2, rfl⟩ : ∃ w0 w1 w2 : Value, args = #[w0, w1, w2] := by
    have hs : args.size = 3 := by simpa [Cond.value, given_1] using hcount
    obtain ⟨L⟩ := args
    match L, hs with
    | [w0, w1, w2], _ => exact ⟨w0, w1, w2, rfl⟩
  have hw := fun d (hd : d ∈ tables_1) => atoms_spec (ws := Jvm.Cond.code x code maxLocals ret :: tables_1) hat d (List.mem_cons_of_mem _ hd)
  have hfit : Fit s := fun {y c} hc i hi => by
    obtain ⟨ha, rfl⟩ := Array.getElem?_eq_some_iff.mp hc
    have q := List.all_eq_true.mp ((Array.all_eq_true_iff_forall_mem.mp hF) _ (Array.getElem_mem ha)) i (List.mem_range.mpr hi)
    simpa [Array.getElem?_eq_getElem hi] using q
  obtain ⟨i0, ei0⟩ := is_v a0
  obtain rfl : w0 = (.int i0) := Option.some.inj ei0
  obtain ⟨i1, ei1⟩ := is_v a1
  obtain rfl : w1 = (.int i1) := Option.some.inj ei1
  obtain ⟨i2, ei2⟩ := is_v g2
  obtain rfl : w2 = (.int i2) := Option.some.inj ei2
  obtain ⟨na0, nb0⟩ := and_e hn
  obtain ⟨na1, nb1⟩ := and_e nb0
  obtain ⟨na2, nb2⟩ := and_e nb1
  obtain ⟨na3, nb3⟩ := and_e nb2
  obtain ⟨na4, nb4⟩ := and_e nb3
  obtain ⟨na5, nb5⟩ := and_e nb4
  obtain ⟨na6, nb6⟩ := and_e nb5
  obtain ⟨u1, ev_u1⟩ := exa_v na0
  have E_u1 := Exa.start ev_u1 na0
  have S_ADMITTED := Sta.start ev_u1 (Or.inr ⟨(hw _ (own_m 2 rfl)), (hw _ (own_m 3 rfl))⟩)
  obtain ⟨u0, ev_u0⟩ := exa_v na1
  have E_u0 := Exa.start ev_u0 na1
  have S_UNCOUNTED := Sta.start ev_u0 (Or.inr ⟨(hw _ (own_m 6 rfl)), (hw _ (own_m 33 rfl))⟩)
  obtain ⟨u2, ev_u2⟩ := exa_v na3
  have E_u2 := Exa.start ev_u2 na3
  have S_REFUSED := Sta.start ev_u2 (Or.inr ⟨(hw _ (own_m 2 rfl)), (hw _ (own_m 35 rfl))⟩)
  obtain ⟨u3, ev_u3⟩ := exa_v na6
  have E_u3 := Exa.start ev_u3 na6
  have S_NO_ROOM := Sta.start ev_u3 (Or.inr ⟨(hw _ (own_m 2 rfl)), (hw _ (own_m 37 rfl))⟩)
  have F_outcome_u0 := Fld.start ((fld_at ev_u0).symm.trans (own_eq_ref na2 ev_u1))
  have F_ordinal_u2 := Fld.start ((fld_at ev_u2).symm.trans (own_eq_int na4))
  have F_ordinal_u1 := Fld.start ((fld_at ev_u1).symm.trans (own_eq_int na5))
  have F_ordinal_u3 := Fld.start ((fld_at ev_u3).symm.trans (own_eq_int nb6))
  have ne_u2_u1 := F_ordinal_u2.ne F_ordinal_u1 (by decide)
  have ne_u3_u1 := F_ordinal_u3.ne F_ordinal_u1 (by decide)
  obtain ⟨n, o, h1, h2, h3, _, L, rfl, ⟨rfl, N⟩, hq⟩ := rm0 l s _ hw tables_1 i0 i1 i2 u0 u1 u2 u3 s.heap s.heap.size (Nat.le_refl _) E_u1 S_ADMITTED E_u0 S_UNCOUNTED E_u2 S_REFUSED E_u3 S_NO_ROOM F_outcome_u0 F_ordinal_u2 F_ordinal_u1 F_ordinal_u3 ne_u2_u1 ne_u3_u1 p e ha hc hk s m _ below hf ((Spec.applies_iff_loose hf).mp happ).1 ⟨rfl, State.Warmed39.refl s, rfl⟩ trivial
  refine ⟨n, _, h1, h2, h3, hpost _ _ _ _ _ _ ⟨Cond.after_iff.mpr rfl, Cond.after_iff.mpr (eq_i res_at (Term.int_eval (1)) rfl), trivial⟩ ⟨hq.1, hq.2.1, (hq.2.2.sift fun y hy => Or.inr (N y hy)).mono (by decide) (by decide)⟩⟩
theorem main_1_1 : Claimed_1_1 := comes_1 fun _ _ _ _ _ _ h hF => ⟨h.1, hF⟩
theorem main_1_2 : Claimed_1_2 := comes_1 fun _ _ _ _ _ _ h hF => ⟨h.2.1, hF⟩

end Jvm.Pilot.@@N@@
namespace Jvm.Pilot.@@N@@
open Jvm Jvm.ClassFile Sem Op Lib Jvm.Free Jvm.Stand Jvm.Pilot.@@N@@.Jvm.D
/-! MADE BY PROGRAM (witnessworld.py) out of the Statement's table words and the real class files: 14 classes; the members and pool entries that the words name. The judged class is class 1, her method 1. -/
namespace start1
open Jvm.ClassFile
def u (s : String) : CpInfo := .utf8 (stringToUtf16 s)
/-- a pool by its gaps: so many unusable entries, then the entry; so many at the end -/
def gap : Nat → List CpInfo → List CpInfo
  | 0, r => r
  | n + 1, r => .unusable :: gap n r
def poolList (es : List (Nat × CpInfo)) (last : Nat) : List CpInfo := es.foldr (fun e r => gap e.1 (e.2 :: r)) (gap last [])
def pool (es : List (Nat × CpInfo)) (last : Nat) : Array CpInfo := ⟨poolList es last⟩
def fileOf (pool : Array CpInfo) (this : Nat) (attrs : Array Attribute := #[]) (ms : Array MethodInfo := #[]) (fl : Nat := 33) (sup : Nat := 0) (ifs : Array Nat := #[]) (fds : Array FieldInfo := #[]) : ClassFile where
  minorVersion := 0
  majorVersion := 65
  constantPool := pool
  accessFlags := fl
  thisClass := this
  superClass := sup
  interfaces := ifs
  fields := fds
  methods := ms
  attributes := attrs
def plain (name : String) (sup : Option ClassId) : Class where
  name := name
  kind := .ordinary
  loader := none
  accessFlags := 33
  super := sup
  interfaces := #[]
  cf := none
  fields := #[]
  methods := #[]
  instanceTypes := #[]
  staticTypes := #[]
  resolved := #[]
  callSites := []
  init := .initialized
  statics := none
  mirror := none

def pool0 : Array CpInfo := pool [(5, u "<init>"), (0, u "()V"), (1, .class_ 10), (1, u "java/lang/Object")] 113

def k0c0 : Code := { maxStack := 0, maxLocals := 1, code := object_method_1_code, exceptionTable := #[], attributes := #[] }
def k0m0 : Method := { name := "<init>", desc := "()V", sig := { parameters := [], returnType := none }, accessFlags := 1, code := some k0c0 }
/-- java/lang/Object -/
def k0 : Class := { plain "java/lang/Object" none with
  accessFlags := 33
  interfaces := #[]
  cf := some (fileOf pool0 8 #[] #[{ accessFlags := 1, nameIndex := 5, descriptorIndex := 6, attributes := #[] }] 33 0 #[] #[])
  fields := #[]
  methods := #[k0m0]
  instanceTypes := #[]
  staticTypes := #[]
  resolved := Array.replicate 124 none
  statics := none }

def pool1 : Array CpInfo := pool [(2, .class_ 4), (1, u "java/lang/Object"), (0, u "<init>"), (0, u "()V"), (0, .integer 2147483647), (0, .fieldref 9 10), (0, .class_ 11), (0, .nameAndType 12 13), (0, u "com/example/gate2/gate2/Decision$Outcome"), (0, u "ADMITTED"), (0, u "Lcom/example/gate2/gate2/Decision$Outcome;"), (0, .fieldref 9 15), (0, .nameAndType 16 13), (0, u "REFUSED"), (0, .fieldref 9 18), (0, .nameAndType 19 13), (0, u "NO_ROOM"), (0, .class_ 21), (0, u "com/example/gate2/gate2/Decision"), (0, .methodref 20 23), (0, .nameAndType 5 24), (0, u "(Lcom/example/gate2/gate2/Decision$Outcome;Lcom/example/gate2/gate2/Quota;II)V"), (0, .methodref 20 26), (0, .nameAndType 27 28), (0, u "allowed"), (0, u "()Z"), (0, .fieldref 20 30), (0, .nameAndType 31 32), (0, u "UNCOUNTED"), (0, u "Lcom/example/gate2/gate2/Decision;"), (0, .class_ 34), (0, u "com/example/gate2/gate2/DecisionAllowedPinLaw"), (2, u "law"), (0, u "(III)Z")] 5

def k1m0 : Method := { name := "<init>", desc := "()V", sig := { parameters := [], returnType := none }, accessFlags := 1, code := none }
def k1c1 : Code := { maxStack := 6, maxLocals := 7, code := code, exceptionTable := #[], attributes := #[] }
def k1m1 : Method := { name := "law", desc := "(III)Z", sig := { parameters := [.int, .int, .int], returnType := some .boolean }, accessFlags := 9, code := some k1c1 }
/-- com/example/gate2/gate2/DecisionAllowedPinLaw -/
def k1 : Class := { plain "com/example/gate2/gate2/DecisionAllowedPinLaw" (some 0) with
  accessFlags := 49
  interfaces := #[]
  cf := some (fileOf pool1 33 #[] #[{ accessFlags := 1, nameIndex := 5, descriptorIndex := 6, attributes := #[] }, { accessFlags := 9, nameIndex := 37, descriptorIndex := 38, attributes := #[] }] 49 2 #[] #[])
  fields := #[]
  methods := #[k1m0, k1m1]
  instanceTypes := #[]
  staticTypes := #[]
  resolved := Array.replicate 44 none
  statics := none }

def pool2 : Array CpInfo := pool [(1, .class_ 2), (0, u "java/lang/constant/Constable"), (0, .class_ 4), (0, u "java/lang/Object")] 6

/-- java/lang/constant/Constable -/
def k2 : Class := { plain "java/lang/constant/Constable" (some 0) with
  accessFlags := 1537
  interfaces := #[]
  cf := some (fileOf pool2 1 #[] #[] 1537 3 #[] #[])
  fields := #[]
  methods := #[]
  instanceTypes := #[]
  staticTypes := #[]
  resolved := Array.replicate 11 none
  statics := none }

def pool3 : Array CpInfo := pool [(1, .class_ 2), (0, u "java/lang/Comparable"), (0, .class_ 4), (0, u "java/lang/Object")] 7

/-- java/lang/Comparable -/
def k3 : Class := { plain "java/lang/Comparable" (some 0) with
  accessFlags := 1537
  interfaces := #[]
  cf := some (fileOf pool3 1 #[] #[] 1537 3 #[] #[])
  fields := #[]
  methods := #[]
  instanceTypes := #[]
  staticTypes := #[]
  resolved := Array.replicate 12 none
  statics := none }

def pool4 : Array CpInfo := pool [(1, .class_ 2), (0, u "java/io/Serializable"), (0, .class_ 4), (0, u "java/lang/Object")] 2

/-- java/io/Serializable -/
def k4 : Class := { plain "java/io/Serializable" (some 0) with
  accessFlags := 1537
  interfaces := #[]
  cf := some (fileOf pool4 1 #[] #[] 1537 3 #[] #[])
  fields := #[]
  methods := #[]
  instanceTypes := #[]
  staticTypes := #[]
  resolved := Array.replicate 7 none
  statics := none }

def pool5 : Array CpInfo := pool [(2, .class_ 4), (1, u "java/lang/Enum"), (0, u "name"), (0, u "Ljava/lang/String;"), (2, u "ordinal"), (0, u "I"), (1, .class_ 14), (1, u "java/lang/Object"), (4, u "hash"), (86, .class_ 108), (1, u "java/lang/Enum$EnumDesc"), (2, .class_ 112), (0, u "java/lang/constant/Constable"), (0, .class_ 114), (0, u "java/lang/Comparable"), (0, .class_ 116), (0, u "java/io/Serializable")] 87

/-- java/lang/Enum -/
def k5 : Class := { plain "java/lang/Enum" (some 0) with
  accessFlags := 1057
  interfaces := #[2, 3, 4]
  cf := some (fileOf pool5 2 #[.nestMembers #[106]] #[] 1057 12 #[111, 113, 115] #[{ accessFlags := 18, nameIndex := 5, descriptorIndex := 6, attributes := #[] }, { accessFlags := 18, nameIndex := 9, descriptorIndex := 10, attributes := #[] }, { accessFlags := 2, nameIndex := 19, descriptorIndex := 10, attributes := #[] }])
  fields := #[{ name := "name", type := (.object "java/lang/String"), accessFlags := 18, slot := 0, constantValue := 0 }, { name := "ordinal", type := .int, accessFlags := 18, slot := 1, constantValue := 0 }, { name := "hash", type := .int, accessFlags := 2, slot := 2, constantValue := 0 }]
  methods := #[]
  instanceTypes := #[(.object "java/lang/String"), .int, .int]
  staticTypes := #[]
  resolved := Array.replicate 204 none
  statics := none }

def pool6 : Array CpInfo := pool [(1, .class_ 2), (0, u "com/example/gate2/gate2/Decision$Outcome"), (2, u "ADMITTED"), (0, u "Lcom/example/gate2/gate2/Decision$Outcome;"), (2, u "REFUSED"), (2, u "NO_ROOM"), (2, u "$VALUES"), (0, u "[Lcom/example/gate2/gate2/Decision$Outcome;"), (6, .class_ 25), (1, u "java/lang/Enum"), (26, .class_ 53), (0, u "com/example/gate2/gate2/Decision")] 2

/-- com/example/gate2/gate2/Decision$Outcome -/
def k6 : Class := { plain "com/example/gate2/gate2/Decision$Outcome" (some 5) with
  accessFlags := 16433
  interfaces := #[]
  cf := some (fileOf pool6 1 #[.nestHost 52] #[] 16433 23 #[] #[{ accessFlags := 16409, nameIndex := 5, descriptorIndex := 6, attributes := #[] }, { accessFlags := 16409, nameIndex := 9, descriptorIndex := 6, attributes := #[] }, { accessFlags := 16409, nameIndex := 12, descriptorIndex := 6, attributes := #[] }, { accessFlags := 4122, nameIndex := 15, descriptorIndex := 16, attributes := #[] }])
  fields := #[{ name := "ADMITTED", type := (.object "com/example/gate2/gate2/Decision$Outcome"), accessFlags := 16409, slot := 0, constantValue := 0 }, { name := "REFUSED", type := (.object "com/example/gate2/gate2/Decision$Outcome"), accessFlags := 16409, slot := 1, constantValue := 0 }, { name := "NO_ROOM", type := (.object "com/example/gate2/gate2/Decision$Outcome"), accessFlags := 16409, slot := 2, constantValue := 0 }, { name := "$VALUES", type := (.array (.object "com/example/gate2/gate2/Decision$Outcome")), accessFlags := 4122, slot := 3, constantValue := 0 }]
  methods := #[]
  instanceTypes := #[(.object "java/lang/String"), .int, .int]
  staticTypes := #[(.object "com/example/gate2/gate2/Decision$Outcome"), (.object "com/example/gate2/gate2/Decision$Outcome"), (.object "com/example/gate2/gate2/Decision$Outcome"), (.array (.object "com/example/gate2/gate2/Decision$Outcome"))]
  resolved := Array.replicate 56 none
  statics := some 0 }

def pool7 : Array CpInfo := pool [(1, .methodref 2 3), (0, .class_ 4), (0, .nameAndType 5 6), (0, u "java/lang/Object"), (0, u "<init>"), (0, u "()V"), (0, .class_ 8), (0, u "java/lang/Record")] 13

def k7c0 : Code := { maxStack := 1, maxLocals := 1, code := jdk_30_method_1_code, exceptionTable := #[], attributes := #[] }
def k7m0 : Method := { name := "<init>", desc := "()V", sig := { parameters := [], returnType := none }, accessFlags := 4, code := some k7c0 }
/-- java/lang/Record -/
def k7 : Class := { plain "java/lang/Record" (some 0) with
  accessFlags := 1057
  interfaces := #[]
  cf := some (fileOf pool7 7 #[] #[{ accessFlags := 4, nameIndex := 5, descriptorIndex := 6, attributes := #[] }] 1057 2 #[] #[])
  fields := #[]
  methods := #[k7m0]
  instanceTypes := #[]
  staticTypes := #[]
  resolved := Array.replicate 22 none
  statics := none }

def pool8 : Array CpInfo := pool [(1, .methodref 2 3), (0, .class_ 4), (0, .nameAndType 5 6), (0, u "java/lang/Record"), (0, u "<init>"), (0, u "()V"), (0, .fieldref 8 9), (0, .class_ 10), (0, .nameAndType 11 12), (0, u "com/example/gate2/gate2/Decision"), (0, u "outcome"), (0, u "Lcom/example/gate2/gate2/Decision$Outcome;"), (0, .fieldref 8 14), (0, .nameAndType 15 16), (0, u "quota"), (0, u "Lcom/example/gate2/gate2/Quota;"), (0, .fieldref 8 18), (0, .nameAndType 19 20), (0, u "remaining"), (0, u "I"), (0, .fieldref 8 22), (0, .nameAndType 23 20), (0, u "resetSeconds"), (0, .fieldref 25 26), (0, .class_ 27), (0, .nameAndType 28 12), (0, u "com/example/gate2/gate2/Decision$Outcome"), (0, u "ADMITTED"), (14, u "(Lcom/example/gate2/gate2/Decision$Outcome;Lcom/example/gate2/gate2/Quota;II)V"), (2, u "UNCOUNTED"), (0, u "Lcom/example/gate2/gate2/Decision;"), (3, u "allowed"), (0, u "()Z")] 32

def k8c0 : Code := { maxStack := 2, maxLocals := 5, code := prog_4_method_1_code, exceptionTable := #[], attributes := #[] }
def k8m0 : Method := { name := "<init>", desc := "(Lcom/example/gate2/gate2/Decision$Outcome;Lcom/example/gate2/gate2/Quota;II)V", sig := { parameters := [(.object "com/example/gate2/gate2/Decision$Outcome"), (.object "com/example/gate2/gate2/Quota"), .int, .int], returnType := none }, accessFlags := 1, code := some k8c0 }
def k8c1 : Code := { maxStack := 2, maxLocals := 1, code := prog_4_method_2_code, exceptionTable := #[], attributes := #[] }
def k8m1 : Method := { name := "allowed", desc := "()Z", sig := { parameters := [], returnType := some .boolean }, accessFlags := 1, code := some k8c1 }
/-- com/example/gate2/gate2/Decision -/
def k8 : Class := { plain "com/example/gate2/gate2/Decision" (some 7) with
  accessFlags := 49
  interfaces := #[]
  cf := some (fileOf pool8 8 #[.nestMembers #[25]] #[{ accessFlags := 1, nameIndex := 5, descriptorIndex := 43, attributes := #[] }, { accessFlags := 1, nameIndex := 51, descriptorIndex := 52, attributes := #[] }] 49 2 #[] #[{ accessFlags := 18, nameIndex := 11, descriptorIndex := 12, attributes := #[] }, { accessFlags := 18, nameIndex := 15, descriptorIndex := 16, attributes := #[] }, { accessFlags := 18, nameIndex := 19, descriptorIndex := 20, attributes := #[] }, { accessFlags := 18, nameIndex := 23, descriptorIndex := 20, attributes := #[] }, { accessFlags := 24, nameIndex := 46, descriptorIndex := 47, attributes := #[] }])
  fields := #[{ name := "outcome", type := (.object "com/example/gate2/gate2/Decision$Outcome"), accessFlags := 18, slot := 0, constantValue := 0 }, { name := "quota", type := (.object "com/example/gate2/gate2/Quota"), accessFlags := 18, slot := 1, constantValue := 0 }, { name := "remaining", type := .int, accessFlags := 18, slot := 2, constantValue := 0 }, { name := "resetSeconds", type := .int, accessFlags := 18, slot := 3, constantValue := 0 }, { name := "UNCOUNTED", type := (.object "com/example/gate2/gate2/Decision"), accessFlags := 24, slot := 0, constantValue := 0 }]
  methods := #[k8m0, k8m1]
  instanceTypes := #[(.object "com/example/gate2/gate2/Decision$Outcome"), (.object "com/example/gate2/gate2/Quota"), .int, .int]
  staticTypes := #[(.object "com/example/gate2/gate2/Decision")]
  resolved := Array.replicate 85 none
  statics := some 1 }

def pool9 : Array CpInfo := pool [(1, u "java/lang/Cloneable"), (0, .class_ 1), (0, u "java/lang/Object"), (0, .class_ 3)] 3

/-- java/lang/Cloneable -/
def k9 : Class := { plain "java/lang/Cloneable" (some 0) with
  accessFlags := 1537
  interfaces := #[]
  cf := some (fileOf pool9 2 #[] #[] 1537 4 #[] #[])
  fields := #[]
  methods := #[]
  instanceTypes := #[]
  staticTypes := #[]
  resolved := Array.replicate 8 none
  statics := none }

/-- the primitive byte -/
def k10 : Class := { plain "byte" none with kind := .primitive 'B', accessFlags := 0x411 }
/-- [B -/
def k11 : Class := { plain "[B" (some 0) with kind := .array 10 .byte, interfaces := #[9, 4], accessFlags := 1041 }

/-- the primitive int -/
def k12 : Class := { plain "int" none with kind := .primitive 'I', accessFlags := 0x411 }
/-- [I -/
def k13 : Class := { plain "[I" (some 0) with kind := .array 12 .int, interfaces := #[9, 4], accessFlags := 1041 }

def heap : Heap := #[{ cls := 6, slots := #[.ref 2, .ref 3, .ref 4, .null], vm := .statics 6 },
  { cls := 8, slots := #[.ref 5], vm := .statics 8 },
  { cls := 6, slots := #[.null, .int 0, .int 0], vm := .none },
  { cls := 6, slots := #[.null, .int 1, .int 0], vm := .none },
  { cls := 6, slots := #[.null, .int 2, .int 0], vm := .none },
  { cls := 8, slots := #[.ref 2, .null, .int 0, .int 0], vm := .none }]
def classes : Array Class := #[k0, k1, k2, k3, k4, k5, k6, k7, k8, k9, k10, k11, k12, k13]
def interned : List (Array UInt16 × Addr) := []
def slotsUsed : Nat := 18
def theMethod : MethodId := ⟨1, 1⟩
def args0 : Array Value := #[.int 5, .int 6, .int 7]
def aboutOver (below : List Frame) : State where
  vm := { classes := classes, interned := interned.toArray }
  heap := heap
  slotsUsed := slotsUsed
  threads := #[{ frames := .invoking theMethod args0 :: below }]
def below0 : List Frame := [.native { method := ⟨0, 0⟩, args := #[] }]
def about1 : State := aboutOver below0
def p0 : Program := .bare "" "" ""
def e0 : Env := launch0.env 0 0 0
theorem w_frames : about1.frames = Frame.invoking theMethod args0 :: below0 := rfl
set_option maxRecDepth 65536 in
theorem w_args : argsFit about1.vm theMethod args0 = true := by decide +kernel
set_option maxRecDepth 65536 in
theorem w_heap : heapFits about1 = true := by decide +kernel
set_option maxRecDepth 65536 in
theorem w_runnable : about1.curStatus? = some .runnable := by decide +kernel
set_option maxRecDepth 65536 in
theorem w_alone : about1.alone = true := by decide +kernel
set_option maxRecDepth 65536 in
theorem w_named : about1.methodNamed? x = some theMethod := by decide +kernel
set_option maxRecDepth 65536 in
theorem w_hears : about1.hears theMethod below0 = true := by decide +kernel
set_option maxRecDepth 65536 in
theorem w_ripe : about1.ripe theMethod args0 below0 = true := by decide +kernel
theorem w_running : about1.status = .running := rfl
set_option maxRecDepth 65536 in
theorem w_room : about1.hasRoom e0.platform room_1 = true :=
  launch0.hasRoom_least _ room_1 (by decide +kernel) (by decide +kernel) (by decide +kernel) (by decide +kernel) (by decide +kernel) (by decide +kernel)
theorem allAtoms_all (ts : List Jvm.Cond) (a : Array Jvm.Value) (st : Jvm.State) : (allAtoms ts).before a st = ts.all (fun c => c.before a st) := by
  induction ts with
  | nil => rfl
  | cons c t ih =>
    show (Jvm.Cond.and c (allAtoms t)).before a st = _
    rw [Jvm.Cond.before_and, ih, List.all_cons]
def words1 : List Jvm.Cond := Jvm.Cond.code x code maxLocals ret :: tables_1
/-- a 'code' word, met by the world's own term for the bytes: nothing is compared byte by byte -/
theorem code_word {y : MethodName} {bytes : ByteArray} {mx : Nat} {rt : Option FieldType} {a : Array Value} {s : State} {m : MethodId} {meth : Method} {c : Code} (h1 : s.methodNamed? y = some m) (h2 : s.vm.method? m = some meth) (h3 : meth.code = some c) (h4 : c.code = bytes)
    (h5 : (c.maxLocals == mx && c.exceptionTable.isEmpty && decide (c.maxStack ≤ mostOperands) && decide (meth.sig.returnType = rt) && !meth.locks && decide (parseMethodDescriptor y.desc = some meth.sig)) = true) : (Jvm.Cond.code y bytes mx rt).before a s = true := by
  simp only [Bool.and_eq_true, beq_iff_eq, Bool.not_eq_true', decide_eq_true_eq] at h5
  obtain ⟨⟨⟨⟨⟨g1, g2⟩, g3⟩, g4⟩, g5⟩, g6⟩ := h5
  simp [Cond.before, Cond.holds, Cond.value, h1, h2, h3, h4, g1, g2, g3, g4, g5, g6]
def isCode : Jvm.Cond → Bool
  | .code _ _ _ _ => true
  | _ => false
theorem all_split {L : List Jvm.Cond} {P : Jvm.Cond → Bool} (h1 : L.all (fun c => isCode c || P c) = true) (h2 : ∀ c ∈ L.filter isCode, P c = true) : L.all P = true := by
  refine List.all_eq_true.mpr fun c hc => ?_
  have h := List.all_eq_true.mp h1 c hc
  rcases Bool.eq_false_or_eq_true (isCode c) with hi | hi
  · exact h2 c (List.mem_filter.mpr ⟨hc, hi⟩)
  · simpa [hi] using h
set_option maxRecDepth 65536 in
theorem w_c0 : (Jvm.Cond.code x code maxLocals ret).before args0 about1 = true := code_word (m := ⟨1, 1⟩) (meth := k1m1) (c := k1c1) (by decide +kernel) rfl rfl rfl (by decide +kernel)
set_option maxRecDepth 65536 in
theorem w_c1 : (Jvm.Cond.code ({ cls := "com/example/gate2/gate2/Decision", name := "<init>", desc := "(Lcom/example/gate2/gate2/Decision$Outcome;Lcom/example/gate2/gate2/Quota;II)V" } : Jvm.MethodName) prog_4_method_1_code (5 : Nat) (Option.none : Option Jvm.ClassFile.FieldType)).before args0 about1 = true := code_word (m := ⟨8, 0⟩) (meth := k8m0) (c := k8c0) (by decide +kernel) rfl rfl rfl (by decide +kernel)
set_option maxRecDepth 65536 in
theorem w_c2 : (Jvm.Cond.code ({ cls := "java/lang/Record", name := "<init>", desc := "()V" } : Jvm.MethodName) jdk_30_method_1_code (1 : Nat) (Option.none : Option Jvm.ClassFile.FieldType)).before args0 about1 = true := code_word (m := ⟨7, 0⟩) (meth := k7m0) (c := k7c0) (by decide +kernel) rfl rfl rfl (by decide +kernel)
set_option maxRecDepth 65536 in
theorem w_c3 : (Jvm.Cond.code ({ cls := "java/lang/Object", name := "<init>", desc := "()V" } : Jvm.MethodName) object_method_1_code (1 : Nat) (Option.none : Option Jvm.ClassFile.FieldType)).before args0 about1 = true := code_word (m := ⟨0, 0⟩) (meth := k0m0) (c := k0c0) (by decide +kernel) rfl rfl rfl (by decide +kernel)
set_option maxRecDepth 65536 in
theorem w_c4 : (Jvm.Cond.code ({ cls := "com/example/gate2/gate2/Decision", name := "allowed", desc := "()Z" } : Jvm.MethodName) prog_4_method_2_code (1 : Nat) (Option.some Jvm.ClassFile.FieldType.boolean)).before args0 about1 = true := code_word (m := ⟨8, 1⟩) (meth := k8m1) (c := k8c1) (by decide +kernel) rfl rfl rfl (by decide +kernel)
def codes1 : List Jvm.Cond := [Jvm.Cond.code x code maxLocals ret, Jvm.Cond.code ({ cls := "com/example/gate2/gate2/Decision", name := "<init>", desc := "(Lcom/example/gate2/gate2/Decision$Outcome;Lcom/example/gate2/gate2/Quota;II)V" } : Jvm.MethodName) prog_4_method_1_code (5 : Nat) (Option.none : Option Jvm.ClassFile.FieldType), Jvm.Cond.code ({ cls := "java/lang/Record", name := "<init>", desc := "()V" } : Jvm.MethodName) jdk_30_method_1_code (1 : Nat) (Option.none : Option Jvm.ClassFile.FieldType), Jvm.Cond.code ({ cls := "java/lang/Object", name := "<init>", desc := "()V" } : Jvm.MethodName) object_method_1_code (1 : Nat) (Option.none : Option Jvm.ClassFile.FieldType), Jvm.Cond.code ({ cls := "com/example/gate2/gate2/Decision", name := "allowed", desc := "()Z" } : Jvm.MethodName) prog_4_method_2_code (1 : Nat) (Option.some Jvm.ClassFile.FieldType.boolean)]
set_option maxRecDepth 65536 in
theorem codes_eq : words1.filter isCode = codes1 := rfl
theorem w_codes : ∀ c ∈ words1.filter isCode, c.before args0 about1 = true := by
  rw [codes_eq]
  intro c hc
  simp only [codes1, List.mem_cons, List.not_mem_nil, or_false] at hc
  rcases hc with rfl | rfl | rfl | rfl | rfl
  · exact w_c0
  · exact w_c1
  · exact w_c2
  · exact w_c3
  · exact w_c4
set_option maxRecDepth 65536 in
theorem w_t1 : (words1.take 24).all (fun c => isCode c || c.before args0 about1) = true := by decide +kernel
set_option maxRecDepth 65536 in
theorem w_t2 : (words1.drop 24).all (fun c => isCode c || c.before args0 about1) = true := by decide +kernel
theorem w_tables : (allAtoms (Jvm.Cond.code x code maxLocals ret :: tables_1)).before args0 about1 = true := by
  rw [allAtoms_all]
  show words1.all (fun c => c.before args0 about1) = true
  refine all_split ?_ w_codes
  rw [← List.take_append_drop 24 words1, List.all_append, w_t1, w_t2]
  rfl
set_option maxRecDepth 65536 in
theorem w_case : (Jvm.Cond.and given_1 narrow_1).before args0 about1 = true := by decide +kernel
theorem w_applies : (headSpec (Jvm.Cond.code x code maxLocals ret :: tables_1) room_1).applies x e0.platform about1 = true :=
  (Spec.applies_iff w_frames).mpr ⟨w_running, w_runnable, w_alone, w_named, w_hears, w_ripe, w_room, w_tables⟩
theorem atStart : AtStart classFile x code maxLocals ret World_1 tables_1 room_1 Calls_1 rest_1 Pre_1 launch0 p0 e0 about1 theMethod args0 below0 :=
  ⟨lists_1, trivial, launch0.admits_env _ _ _, launch0.least_env, fairChoices_fair.cas, fairChoices_fair.clock, w_frames, w_args, w_heap, w_applies, trivial, trivial, w_case⟩
end start1
theorem witness_1 : WitnessClaimed_1 := ⟨start1.p0, start1.e0, start1.about1, start1.theMethod, start1.args0, start1.below0, start1.atStart⟩
end Jvm.Pilot.@@N@@
