import JvmDerived
import JvmDerived.Pilot.@@N@@Statement
import JvmDerived.Pilot.@@N@@Code
set_option linter.unusedVariables false
set_option linter.unusedSimpArgs false
namespace Jvm.RoadKit
open Sem ClassFile Op Lib Jvm.Stand Jvm.Free Jvm.LawKit
section New
variable {p : Program} {l : Launch} {e : Env} {R : Room} {s : State} {m : MethodId} {args : Array Value} {below : List Frame} {meth : Method} {c : Code} {T : State} {locs : List Loc} {cells slots : Nat}
theorem retI (X : Stand p l e R s m args below meth c T locs cells slots) (hx : p.tables.exec = Jvm.exec) {pc : Nat} {Ls : Array Slot} {z : Int32} {rest : List Value} (hret : meth.sig.returnType = some .int) (hd : decode c.code pc = .ok (.ireturn, 1)) {fs : List Frame}
    (hl : ∀ (f : JFrame) (acts : List Action), f.method = m → f.locked = none → f.entered = [] → (doReturn e (T.setTop f) acts (some (.int z))).1 = T.setFrames fs) : Steps p.tables e below (T.setTop (mkF m pc Ls (.int z :: rest))) (T.setFrames fs) := by
  have hm' : T.vm.method? m = some meth := X.method'
  have hn : narrow .int (.int z) = .int z := rfl
  show Steps p.tables e below (T.setTop { method := m, pc := pc, locals := Ls, stack := _ :: rest, locked := none }) _
  jvm_step X.here [X.here.top, hx, hd, hm', hret, hn]
  first | (intro acts; rw [hl _ acts rfl rfl rfl]) | rw [hl _ _ rfl rfl rfl]
  exact Steps.refl _
end New
end Jvm.RoadKit
namespace Jvm.Pilot.@@N@@
open Jvm Jvm.ClassFile Sem Op Lib Jvm.Free Jvm.Stand Jvm.LawKit Jvm.RoadKit Bundle Jvm.Pilot.@@N@@.Jvm.D
theorem own_le {a b : Nat} (h : a = b) : 2 * 0 + a ≤ b := by omega
theorem own_m (i : Nat) {d : Jvm.Cond} (h : tables_1[i]? = some d) : d ∈ tables_1 := List.mem_of_getElem? h
/-- from the state T at the frame g the method comes to its return, with Q of what it returns -/
def own_Goes (tb : Tables) (e : Env) (below : List Frame) (s : State) (Q : Option Value → Heap → List Loc → Prop) (rc rs : Nat) (T : State) (g : JFrame) : Prop :=
  ∃ s₂ o, Steps tb e below (T.setTop g) s₂ ∧ s₂.status = .running ∧ Ended s₂ below o ∧ ∃ v L, o = .returned v ∧ Q v s₂.heap L ∧ FrameEnd s o s₂ L rc rs
theorem own_by {tb : Tables} {e : Env} {below : List Frame} {s : State} {Q : Option Value → Heap → List Loc → Prop} {rc rs : Nat} {T T' : State} {g g' : JFrame} (h : ∀ t, Steps tb e below (T'.setTop g') t → Steps tb e below (T.setTop g) t) (k : own_Goes tb e below s Q rc rs T' g') : own_Goes tb e below s Q rc rs T g := by
  obtain ⟨s₂, o, h1, h2⟩ := k
  exact ⟨s₂, o, h _ h1, h2⟩
section OwnRet
variable {p : Program} {l : Launch} {e : Env} {R : Room} {s : State} {m : MethodId} {args : Array Value} {below : List Frame} {meth : Method} {c : Code} {T : State} {locs : List Loc} {cells slots : Nat} {Q : Option Value → Heap → List Loc → Prop} {rc rs : Nat} {pc : Nat} {Ls : Array Slot} {rest : List Value}
theorem own_retI (X : Stand p l e R s m args below meth c T locs cells slots) (hx : p.tables.exec = Jvm.exec) {z : Int32} (hlk : meth.locks = false) (hret : meth.sig.returnType = some .int) (hd : decode c.code pc = .ok (.ireturn, 1)) (hc : cells ≤ rc) (hs : slots ≤ rs)
    (hQ : Q (some (.int z)) T.heap locs) : own_Goes p.tables e below s Q rc rs T (mkF m pc Ls (.int z :: rest)) := by
  obtain ⟨fs, hr, hrun, hended, hW, hsame⟩ := X.leave (v := some (.int z)) (fun h => by rw [hret] at h; cases h)
  exact ⟨_, _, retI X hx hret hd hr, hrun, hended, _, _, rfl, hQ, ⟨_, rfl⟩, hW, hsame.mono hc hs⟩
theorem own_retN (X : Stand p l e R s m args below meth c T locs cells slots) (hx : p.tables.exec = Jvm.exec) {z : Int32} {t : FieldType} (hlk : meth.locks = false) (hret : meth.sig.returnType = some t) (ht : t = .boolean ∨ t = .byte ∨ t = .char ∨ t = .short) (hd : decode c.code pc = .ok (.ireturn, 1)) (hc : cells ≤ rc) (hs : slots ≤ rs)
    (hQ : Q (some (.int (nar t z))) T.heap locs) : own_Goes p.tables e below s Q rc rs T (mkF m pc Ls (.int z :: rest)) := by
  obtain ⟨fs, hr, hrun, hended, hW, hsame⟩ := X.leave (v := some (.int (nar t z))) (fun h => by rw [hret] at h; cases h)
  exact ⟨_, _, retN X hx hret ht hd hr, hrun, hended, _, _, rfl, hQ, ⟨_, rfl⟩, hW, hsame.mono hc hs⟩
theorem own_retV (X : Stand p l e R s m args below meth c T locs cells slots) (hx : p.tables.exec = Jvm.exec) (hlk : meth.locks = false) (hret : meth.sig.returnType = none) (hd : decode c.code pc = .ok (.return_, 1)) (hc : cells ≤ rc) (hs : slots ≤ rs)
    (hQ : Q none T.heap locs) : own_Goes p.tables e below s Q rc rs T (mkF m pc Ls []) := by
  obtain ⟨fs, hr, hrun, hended, hW, hsame⟩ := X.leave (v := none) (fun _ => rfl)
  exact ⟨_, _, X.returnOut hx hret hd hr, hrun, hended, _, _, rfl, hQ, ⟨_, rfl⟩, hW, hsame.mono hc hs⟩
theorem own_retJ (X : Stand p l e R s m args below meth c T locs cells slots) (hx : p.tables.exec = Jvm.exec) {z : Int64} (hlk : meth.locks = false) (hret : meth.sig.returnType = some .long) (hd : decode c.code pc = .ok (.lreturn, 1)) (hc : cells ≤ rc) (hs : slots ≤ rs)
    (hQ : Q (some (.long z)) T.heap locs) : own_Goes p.tables e below s Q rc rs T (mkF m pc Ls (.long z :: rest)) := by
  obtain ⟨fs, hr, hrun, hended, hW, hsame⟩ := X.leave (v := some (.long z)) (fun h => by rw [hret] at h; cases h)
  exact ⟨_, _, retOut X hx hret rfl (Or.inr (Or.inl ⟨rfl, rfl, _, rfl⟩)) hd hr, hrun, hended, _, _, rfl, hQ, ⟨_, rfl⟩, hW, hsame.mono hc hs⟩
theorem own_retA (X : Stand p l e R s m args below meth c T locs cells slots) (hx : p.tables.exec = Jvm.exec) {w : Value} {t : FieldType} (hlk : meth.locks = false) (hret : meth.sig.returnType = some t) (ht : t.isReference = true) (hw : w.isRef = true) (hn : narrow t w = w) (hd : decode c.code pc = .ok (.areturn, 1)) (hc : cells ≤ rc) (hs : slots ≤ rs)
    (hQ : Q (some w) T.heap locs) : own_Goes p.tables e below s Q rc rs T (mkF m pc Ls (w :: rest)) := by
  obtain ⟨fs, hr, hrun, hended, hW, hsame⟩ := X.leave (v := some w) (fun h => by rw [hret] at h; cases h)
  exact ⟨_, _, retOut X hx hret hn (Or.inr (Or.inr (Or.inr (Or.inr ⟨rfl, ht, hw⟩)))) hd hr, hrun, hended, _, _, rfl, hQ, ⟨_, rfl⟩, hW, hsame.mono hc hs⟩
end OwnRet
theorem own_nsE {Z : State} {h : Heap} {a : Addr} {C : String} (E : Exa Z h a C) : ∃ c : Cell, h[a]? = some c ∧ c.vm.isStatics = false := by
  obtain ⟨c, k, h1, -, -, h4, -⟩ := E
  exact ⟨c, h1, h4⟩
theorem own_nsV {Z : State} {h : Heap} {a : Addr} {k : ClassId} {ty : FieldType} {n : Int32} {vs : List Value} {d : Value} (F : Arv Z h a k ty n vs d) : ∃ c : Cell, h[a]? = some c ∧ c.vm.isStatics = false := by
  obtain ⟨c, A, -⟩ := F
  exact ⟨c, A.1, A.plain⟩
theorem own_staKeep {Z : State} {h h' : Heap} {C n d : String} {v : Value} {ws : List Addr} (S : Sta Z h C n d v) (K : Keep h h' ws) (q : ∀ x ∈ ws, ∃ c : Cell, h[x]? = some c ∧ c.vm.isStatics = false) : Sta Z h' C n d v := by
  obtain ⟨cf, i, k, f, st, cell, h1, h2, h3, h4, h5, h6, h7⟩ := S
  refine ⟨cf, i, k, f, st, cell, h1, h2, h3, h4, K.2.1 st cell h5 (fun hin => ?_), h6, h7⟩
  obtain ⟨c, hc, hs⟩ := q st hin
  rw [h5] at hc
  cases hc
  rw [h6] at hs
  cases hs
theorem own_arrKeep {Z : State} {h h' : Heap} {a : Addr} {c : Cell} {ty : FieldType} {ws : List Addr} (A : Arr Z h a c ty) (K : Keep h h' ws) (q : a ∉ ws) : Arr Z h' a c ty := ⟨K.2.1 a c A.1 q, A.2⟩
theorem own_rem5 (x : Int32) : (x &&& (2147483647 : Int32)) % (5 : Int32) = 0 ∨ (x &&& (2147483647 : Int32)) % (5 : Int32) = 1 ∨ (x &&& (2147483647 : Int32)) % (5 : Int32) = 2 ∨ (x &&& (2147483647 : Int32)) % (5 : Int32) = 3 ∨ (x &&& (2147483647 : Int32)) % (5 : Int32) = 4 := by
  have h1 := c_mask x 2147483647 31 (by decide) (by decide)
  have h2 := (c_irem (x &&& (2147483647 : Int32)) 5 5 (by decide)).1 (by omega)
  generalize (x &&& (2147483647 : Int32)) % (5 : Int32) = k at *
  have h3 : k.toInt = 0 ∨ k.toInt = 1 ∨ k.toInt = 2 ∨ k.toInt = 3 ∨ k.toInt = 4 := by omega
  rcases h3 with h | h | h | h | h
  · have h4 : k = 0 := Int32.toInt_inj.mp h
    simp [h4]
  · have h4 : k = 1 := Int32.toInt_inj.mp h
    simp [h4]
  · have h4 : k = 2 := Int32.toInt_inj.mp h
    simp [h4]
  · have h4 : k = 3 := Int32.toInt_inj.mp h
    simp [h4]
  · have h4 : k = 4 := Int32.toInt_inj.mp h
    simp [h4]

theorem pn_com_example_firebreak_firebreak_core_MapStep : plainName "com/example/firebreak/firebreak/core/MapStep" = true := by first | (simp [plainName, overriddenIn]; done) | decide +kernel
theorem ef_1n0 (m : MethodId) (ob : Addr) (p1 : Int32) (a1 : Addr) (a2 : Addr) (a3 : Addr) (p2 : Int32) : entryFrame m #[(.ref ob), (.int p1), (.ref a1), (.ref a2), (.ref a3), (.int p2)] 6 = mkF m 0 #[.val (.ref ob), .val (.int p1), .val (.ref a1), .val (.ref a2), .val (.ref a3), .val (.int p2)] [] := by first | (simp [entryFrame, mkF, argsToLocals, Value.category]; done) | rfl
theorem d1_0 : decode prog_30_method_1_code 0 = .ok (.aload_n 0, 1) := by decide +kernel
theorem d1_1 : decode prog_30_method_1_code 1 = .ok (.invokespecial 1, 3) := by decide +kernel
theorem d1_4 : decode prog_30_method_1_code 4 = .ok (.aload_n 0, 1) := by decide +kernel
theorem d1_5 : decode prog_30_method_1_code 5 = .ok (.iload_n 1, 1) := by decide +kernel
theorem d1_6 : decode prog_30_method_1_code 6 = .ok (.putfield 7, 3) := by decide +kernel
theorem d1_9 : decode prog_30_method_1_code 9 = .ok (.aload_n 0, 1) := by decide +kernel
theorem d1_10 : decode prog_30_method_1_code 10 = .ok (.aload_n 2, 1) := by decide +kernel
theorem d1_11 : decode prog_30_method_1_code 11 = .ok (.invokevirtual 13, 3) := by decide +kernel
theorem d1_14 : decode prog_30_method_1_code 14 = .ok (.checkcast 14, 3) := by decide +kernel
theorem d1_17 : decode prog_30_method_1_code 17 = .ok (.putfield 19, 3) := by decide +kernel
theorem d1_20 : decode prog_30_method_1_code 20 = .ok (.aload_n 0, 1) := by decide +kernel
theorem d1_21 : decode prog_30_method_1_code 21 = .ok (.aload_n 3, 1) := by decide +kernel
theorem d1_22 : decode prog_30_method_1_code 22 = .ok (.invokevirtual 13, 3) := by decide +kernel
theorem d1_25 : decode prog_30_method_1_code 25 = .ok (.checkcast 14, 3) := by decide +kernel
theorem d1_28 : decode prog_30_method_1_code 28 = .ok (.putfield 22, 3) := by decide +kernel
theorem d1_31 : decode prog_30_method_1_code 31 = .ok (.aload_n 0, 1) := by decide +kernel
theorem d1_32 : decode prog_30_method_1_code 32 = .ok (.aload 4, 2) := by decide +kernel
theorem d1_34 : decode prog_30_method_1_code 34 = .ok (.invokevirtual 13, 3) := by decide +kernel
theorem d1_37 : decode prog_30_method_1_code 37 = .ok (.checkcast 14, 3) := by decide +kernel
theorem d1_40 : decode prog_30_method_1_code 40 = .ok (.putfield 25, 3) := by decide +kernel
theorem d1_43 : decode prog_30_method_1_code 43 = .ok (.aload_n 0, 1) := by decide +kernel
theorem d1_44 : decode prog_30_method_1_code 44 = .ok (.iload 5, 2) := by decide +kernel
theorem d1_46 : decode prog_30_method_1_code 46 = .ok (.putfield 28, 3) := by decide +kernel
theorem d1_49 : decode prog_30_method_1_code 49 = .ok (.return_, 1) := by decide +kernel
def Q1n0 (Z : State) (ob : Addr) (p1 : Int32) (a1 : Addr) (a2 : Addr) (a3 : Addr) (p2 : Int32) (k1 : ClassId) (k2 : ClassId) (k3 : ClassId) (h0 : Heap) (n0 : Nat) (v : Option Value) (h : Heap) (L : List Loc) : Prop := ∃ t2 : Addr, v = none ∧ Fr n0 L ∧ Keep h0 h [ob] ∧ Exa Z h ob "com/example/firebreak/firebreak/core/MapStep" ∧ h0.size ≤ t2 ∧ Fld Z h ob "com/example/firebreak/firebreak/core/MapStep" "costs" "[I" (.ref t2) ∧ Arv Z h t2 k2 .int (0 : Int32) [] (.int 0)
set_option maxRecDepth 65536 in
set_option maxHeartbeats 40000000 in
theorem rm1n0 (l : Launch) (Z : State) (a0 : Array Value) (hw : ∀ d ∈ tables_1, d.before a0 Z = true) (ws : List Jvm.Cond) (ob : Addr) (p1 : Int32) (a1 : Addr) (a2 : Addr) (a3 : Addr) (p2 : Int32) (k1 : ClassId) (k2 : ClassId) (k3 : ClassId) (h0 : Heap) (n0 : Nat) (Zle : n0 ≤ h0.size) (E_ob : Exa Z h0 ob "com/example/firebreak/firebreak/core/MapStep") (g_ob : n0 ≤ ob) (F_step_ob : Fld Z h0 ob "com/example/firebreak/firebreak/core/MapStep" "step" "I" (.int 0)) (F_clusterIds_ob : Fld Z h0 ob "com/example/firebreak/firebreak/core/MapStep" "clusterIds" "[I" .null) (F_costs_ob : Fld Z h0 ob "com/example/firebreak/firebreak/core/MapStep" "costs" "[I" .null) (F_targeting_ob : Fld Z h0 ob "com/example/firebreak/firebreak/core/MapStep" "targeting" "[I" .null) (F_idle_ob : Fld Z h0 ob "com/example/firebreak/firebreak/core/MapStep" "idle" "I" (.int 0)) (V_a1 : Arv Z h0 a1 k1 .int (0 : Int32) [] (.int 0)) (V_a2 : Arv Z h0 a2 k2 .int (0 : Int32) [] (.int 0)) (V_a3 : Arv Z h0 a3 k3 .int (0 : Int32) [] (.int 0)) (E_a1 : Exa Z h0 a1 "[I") (E_a2 : Exa Z h0 a2 "[I") (E_a3 : Exa Z h0 a3 "[I") (ne_a1_ob : a1 ≠ ob) (ne_a2_ob : a2 ≠ ob) (ne_a3_ob : a3 ≠ ob) :
    MetFree l (⟨"com/example/firebreak/firebreak/core/MapStep", "<init>", "(I[I[I[II)V"⟩ : MethodName) (head1 (Jvm.Cond.code (⟨"com/example/firebreak/firebreak/core/MapStep", "<init>", "(I[I[I[II)V"⟩ : MethodName) prog_30_method_1_code 6 none :: ws) ({ frames := 1, cells := 3, slots := 0, locals := 16 } : Room)) (fun a U => a = #[(.ref ob), (.int p1), (.ref a1), (.ref a2), (.ref a3), (.int p2)] ∧ Z.Warmed39 U.vm ∧ U.heap = h0) (fun _ _ _ _ _ => True) (fun _ U o U' => ∃ v L, o = .returned v ∧ Q1n0 Z ob p1 a1 a2 a3 p2 k1 k2 k3 h0 n0 v U'.heap L ∧ FrameEnd U o U' L ({ frames := 1, cells := 3, slots := 0, locals := 16 } : Room).cells ({ frames := 1, cells := 3, slots := 0, locals := 16 } : Room).slots) := by
  refine MetFree.of_bodySF (plainFor_of_name pn_com_example_firebreak_firebreak_core_MapStep) hisR ?_
  intro p e s m args below meth c s₁ Bd hml0 hP hK
  obtain ⟨rfl, hZ, hh⟩ := hP
  have hx := Bd.exec
  have hby := Bd.bytes
  have hml : c.maxLocals = 6 := hml0
  have hown : s.vm.findClass "com/example/firebreak/firebreak/core/MapStep" = some m.cls := findClass_of_methodNamed Bd.named
  have hnm := (name_of_methodNamed Bd.named Bd.method).1
  have X0 : Stand p l e ({ frames := 1, cells := 3, slots := 0, locals := 16 } : Room) s m #[(.ref ob), (.int p1), (.ref a1), (.ref a2), (.ref a3), (.int p2)] below meth c s₁ [] 0 0 := Stand.of_body Bd
  have e0 : s₁.heap = h0 := by rw [← hh, Bd.state]; rfl
  have N_ := Fr.nil n0
  have K_ := Keep.refl h0 [ob]
  show own_Goes p.tables e below s (Q1n0 Z ob p1 a1 a2 a3 p2 k1 k2 k3 h0 n0) ({ frames := 1, cells := 3, slots := 0, locals := 16 } : Room).cells ({ frames := 1, cells := 3, slots := 0, locals := 16 } : Room).slots s₁ (entryFrame m #[(.ref ob), (.int p1), (.ref a1), (.ref a2), (.ref a3), (.int p2)] 6)
  refine own_by (T' := s₁) (g' := (mkF m 0 #[.val (.ref ob), .val (.int p1), .val (.ref a1), .val (.ref a2), .val (.ref a3), .val (.int p2)] [])) (fun t k => castTop (ef_1n0 m ob p1 a1 a2 a3 p2) k) ?_
  refine own_by (T' := s₁) (g' := (mkF m 1 #[.val (.ref ob), .val (.int p1), .val (.ref a1), .val (.ref a2), .val (.ref a3), .val (.int p2)] [(.ref ob)])) (fun t k => XS.aloadN X0.here hx rfl (hb hby d1_0) rfl rfl k) ?_
  obtain ⟨T1, X1, e1, st1⟩ := initO X0 hx hZ hown (hw _ (own_m 8 rfl)) (hw _ (own_m 9 rfl)) (hw _ (own_m 10 rfl)) e0 (g := (mkF m 1 #[.val (.ref ob), .val (.int p1), .val (.ref a1), .val (.ref a2), .val (.ref a3), .val (.int p2)] [(.ref ob)])) rfl (by rw [hml]; rfl) rfl (hb hby d1_1) (by decide) (W := 0) (own_le rfl) (by decide)
  refine own_by (T' := T1) (g' := (mkF m 4 #[.val (.ref ob), .val (.int p1), .val (.ref a1), .val (.ref a2), .val (.ref a3), .val (.int p2)] [])) (fun t k => st1 t k) ?_
  refine own_by (T' := T1) (g' := (mkF m 5 #[.val (.ref ob), .val (.int p1), .val (.ref a1), .val (.ref a2), .val (.ref a3), .val (.int p2)] [(.ref ob)])) (fun t k => XS.aloadN X1.here hx rfl (hb hby d1_4) rfl rfl k) ?_
  refine own_by (T' := T1) (g' := (mkF m 6 #[.val (.ref ob), .val (.int p1), .val (.ref a1), .val (.ref a2), .val (.ref a3), .val (.int p2)] [(.int p1), (.ref ob)])) (fun t k => XS.iloadN X1.here hx rfl (hb hby d1_5) rfl k) ?_
  obtain ⟨T2, h2, X2, e2, W2, st2⟩ := putF X1 hx hZ hown (host := "") (Or.inl (hw _ (own_m 11 rfl))) Via.refl e1 F_step_ob E_ob (Or.inr ⟨(hw _ (own_m 12 rfl)), rfl, hnm⟩) (hw _ (own_m 3 rfl)) (ty := .int) (by decide) rfl rfl (g := (mkF m 6 #[.val (.ref ob), .val (.int p1), .val (.ref a1), .val (.ref a2), .val (.ref a3), .val (.int p2)] [(.int p1), (.ref ob)])) rfl rfl (hb hby d1_6)
  have F_step_ob_ := F_step_ob.same W2
  have E_ob := E_ob.wr W2
  have F_clusterIds_ob := F_clusterIds_ob.other W2 (Or.inr (slot_ne (Or.inr (hw _ (own_m 23 rfl))) (Or.inr (hw _ (own_m 12 rfl))) (by decide) (t := (.array .int)) (t' := .int) (by decide) (by decide)))
  have F_costs_ob := F_costs_ob.other W2 (Or.inr (slot_ne (Or.inr (hw _ (own_m 25 rfl))) (Or.inr (hw _ (own_m 12 rfl))) (by decide) (t := (.array .int)) (t' := .int) (by decide) (by decide)))
  have F_targeting_ob := F_targeting_ob.other W2 (Or.inr (slot_ne (Or.inr (hw _ (own_m 27 rfl))) (Or.inr (hw _ (own_m 12 rfl))) (by decide) (t := (.array .int)) (t' := .int) (by decide) (by decide)))
  have F_idle_ob := F_idle_ob.other W2 (Or.inr (slot_ne (Or.inr (hw _ (own_m 29 rfl))) (Or.inr (hw _ (own_m 12 rfl))) (by decide) (t := .int) (t' := .int) (by decide) (by decide)))
  have V_a1 := V_a1.other W2 ne_a1_ob
  have V_a2 := V_a2.other W2 ne_a2_ob
  have V_a3 := V_a3.other W2 ne_a3_ob
  have E_a1 := E_a1.wr W2
  have E_a2 := E_a2.wr W2
  have E_a3 := E_a3.wr W2
  have Zle := Nat.le_trans Zle (Keep.of_wr W2).1
  have K_ := K_.wr W2 (Or.inl (List.mem_of_getElem? (i := 0) rfl))
  have F_step_ob := F_step_ob_
  have N_ := Fr.snoc X2 N_ g_ob
  refine own_by (T' := T2) (g' := (mkF m 9 #[.val (.ref ob), .val (.int p1), .val (.ref a1), .val (.ref a2), .val (.ref a3), .val (.int p2)] [])) (fun t k => st2 t k) ?_
  refine own_by (T' := T2) (g' := (mkF m 10 #[.val (.ref ob), .val (.int p1), .val (.ref a1), .val (.ref a2), .val (.ref a3), .val (.int p2)] [(.ref ob)])) (fun t k => XS.aloadN X2.here hx rfl (hb hby d1_9) rfl rfl k) ?_
  refine own_by (T' := T2) (g' := (mkF m 11 #[.val (.ref ob), .val (.int p1), .val (.ref a1), .val (.ref a2), .val (.ref a3), .val (.int p2)] [(.ref a1), (.ref ob)])) (fun t k => XS.aloadN X2.here hx rfl (hb hby d1_10) rfl rfl k) ?_
  obtain ⟨T3, h3, X3, e3, E3, A3, AE3, st3⟩ := cloneH X2 hx hZ hown (hw _ (own_m 13 rfl)) (hw _ (own_m 14 rfl)) (hw _ (own_m 18 rfl)) (hw _ (own_m 16 rfl)) (hw _ (own_m 17 rfl)) (hw _ (own_m 19 rfl)) e2 V_a1.arh E_a1 (g := (mkF m 11 #[.val (.ref ob), .val (.int p1), .val (.ref a1), .val (.ref a2), .val (.ref a3), .val (.int p2)] [(.ref a1), (.ref ob)])) rfl (by rw [hml]; rfl) rfl (hb hby d1_11) (by decide) (W := 1) (cap := 0) (own_le rfl) (by decide) (by decide) (by decide) (by decide)
  obtain ⟨b3, g3⟩ : ∃ z, z = h2.size := ⟨_, rfl⟩
  rw [← g3] at A3 AE3 st3
  have ne_ob_b3 : ob ≠ b3 := Nat.ne_of_lt (Nat.lt_of_lt_of_eq E_ob.lt g3.symm)
  have ne_a1_b3 : a1 ≠ b3 := Nat.ne_of_lt (Nat.lt_of_lt_of_eq V_a1.lt g3.symm)
  have ne_a2_b3 : a2 ≠ b3 := Nat.ne_of_lt (Nat.lt_of_lt_of_eq V_a2.lt g3.symm)
  have ne_a3_b3 : a3 ≠ b3 := Nat.ne_of_lt (Nat.lt_of_lt_of_eq V_a3.lt g3.symm)
  have g_b3 : n0 ≤ b3 := Nat.le_trans Zle (Nat.le_of_eq g3.symm)
  have sz_b3 : h0.size ≤ b3 := Nat.le_trans K_.1 (Nat.le_of_eq g3.symm)
  have E_ob := E_ob.ext E3
  have F_clusterIds_ob := F_clusterIds_ob.ext E3
  have F_costs_ob := F_costs_ob.ext E3
  have F_targeting_ob := F_targeting_ob.ext E3
  have F_idle_ob := F_idle_ob.ext E3
  have V_a1 := V_a1.ext E3
  have V_a2 := V_a2.ext E3
  have V_a3 := V_a3.ext E3
  have E_a1 := E_a1.ext E3
  have E_a2 := E_a2.ext E3
  have E_a3 := E_a3.ext E3
  have Zle := Nat.le_trans Zle E3.1
  have K_ := K_.ext E3
  have F_step_ob := F_step_ob.ext E3
  have E_b3 := AE3
  have V_b3 : Arv Z h3 b3 k1 .int (0 : Int32) [] (.int 0) := A3
  refine own_by (T' := T3) (g' := (mkF m 14 #[.val (.ref ob), .val (.int p1), .val (.ref a1), .val (.ref a2), .val (.ref a3), .val (.int p2)] [(.ref b3), (.ref ob)])) (fun t k => st3 t k) ?_
  obtain ⟨T4, X4, e4, st4⟩ := castY X3 hx hZ hown (hw _ (own_m 20 rfl)) e3 (Ins.self E_b3) (g := (mkF m 14 #[.val (.ref ob), .val (.int p1), .val (.ref a1), .val (.ref a2), .val (.ref a3), .val (.int p2)] [(.ref b3), (.ref ob)])) rfl rfl (hb hby d1_14)
  refine own_by (T' := T4) (g' := (mkF m 17 #[.val (.ref ob), .val (.int p1), .val (.ref a1), .val (.ref a2), .val (.ref a3), .val (.int p2)] [(.ref b3), (.ref ob)])) (fun t k => st4 t k) ?_
  obtain ⟨T5, h5, X5, e5, W5, st5⟩ := putF X4 hx hZ hown (host := "") (Or.inl (hw _ (own_m 22 rfl))) Via.refl e4 F_clusterIds_ob E_ob (Or.inr ⟨(hw _ (own_m 23 rfl)), rfl, hnm⟩) (hw _ (own_m 3 rfl)) (ty := (.array .int)) (by decide) rfl rfl (g := (mkF m 17 #[.val (.ref ob), .val (.int p1), .val (.ref a1), .val (.ref a2), .val (.ref a3), .val (.int p2)] [(.ref b3), (.ref ob)])) rfl rfl (hb hby d1_17)
  have F_clusterIds_ob_ := F_clusterIds_ob.same W5
  have E_ob := E_ob.wr W5
  have F_costs_ob := F_costs_ob.other W5 (Or.inr (slot_ne (Or.inr (hw _ (own_m 25 rfl))) (Or.inr (hw _ (own_m 23 rfl))) (by decide) (t := (.array .int)) (t' := (.array .int)) (by decide) (by decide)))
  have F_targeting_ob := F_targeting_ob.other W5 (Or.inr (slot_ne (Or.inr (hw _ (own_m 27 rfl))) (Or.inr (hw _ (own_m 23 rfl))) (by decide) (t := (.array .int)) (t' := (.array .int)) (by decide) (by decide)))
  have F_idle_ob := F_idle_ob.other W5 (Or.inr (slot_ne (Or.inr (hw _ (own_m 29 rfl))) (Or.inr (hw _ (own_m 23 rfl))) (by decide) (t := .int) (t' := (.array .int)) (by decide) (by decide)))
  have V_a1 := V_a1.other W5 ne_a1_ob
  have V_a2 := V_a2.other W5 ne_a2_ob
  have V_a3 := V_a3.other W5 ne_a3_ob
  have E_a1 := E_a1.wr W5
  have E_a2 := E_a2.wr W5
  have E_a3 := E_a3.wr W5
  have Zle := Nat.le_trans Zle (Keep.of_wr W5).1
  have K_ := K_.wr W5 (Or.inl (List.mem_of_getElem? (i := 0) rfl))
  have F_step_ob := F_step_ob.other W5 (Or.inr (slot_ne (Or.inr (hw _ (own_m 12 rfl))) (Or.inr (hw _ (own_m 23 rfl))) (by decide) (t := .int) (t' := (.array .int)) (by decide) (by decide)))
  have E_b3 := E_b3.wr W5
  have V_b3 := V_b3.other W5 ne_ob_b3.symm
  have F_clusterIds_ob := F_clusterIds_ob_
  have N_ := Fr.snoc X5 N_ g_ob
  refine own_by (T' := T5) (g' := (mkF m 20 #[.val (.ref ob), .val (.int p1), .val (.ref a1), .val (.ref a2), .val (.ref a3), .val (.int p2)] [])) (fun t k => st5 t k) ?_
  refine own_by (T' := T5) (g' := (mkF m 21 #[.val (.ref ob), .val (.int p1), .val (.ref a1), .val (.ref a2), .val (.ref a3), .val (.int p2)] [(.ref ob)])) (fun t k => XS.aloadN X5.here hx rfl (hb hby d1_20) rfl rfl k) ?_
  refine own_by (T' := T5) (g' := (mkF m 22 #[.val (.ref ob), .val (.int p1), .val (.ref a1), .val (.ref a2), .val (.ref a3), .val (.int p2)] [(.ref a2), (.ref ob)])) (fun t k => XS.aloadN X5.here hx rfl (hb hby d1_21) rfl rfl k) ?_
  obtain ⟨T6, h6, X6, e6, E6, A6, AE6, st6⟩ := cloneH X5 hx hZ hown (hw _ (own_m 13 rfl)) (hw _ (own_m 14 rfl)) (hw _ (own_m 18 rfl)) (hw _ (own_m 16 rfl)) (hw _ (own_m 17 rfl)) (hw _ (own_m 19 rfl)) e5 V_a2.arh E_a2 (g := (mkF m 22 #[.val (.ref ob), .val (.int p1), .val (.ref a1), .val (.ref a2), .val (.ref a3), .val (.int p2)] [(.ref a2), (.ref ob)])) rfl (by rw [hml]; rfl) rfl (hb hby d1_22) (by decide) (W := 1) (cap := 0) (own_le rfl) (by decide) (by decide) (by decide) (by decide)
  obtain ⟨b6, g6⟩ : ∃ z, z = h5.size := ⟨_, rfl⟩
  rw [← g6] at A6 AE6 st6
  have ne_ob_b6 : ob ≠ b6 := Nat.ne_of_lt (Nat.lt_of_lt_of_eq E_ob.lt g6.symm)
  have ne_a1_b6 : a1 ≠ b6 := Nat.ne_of_lt (Nat.lt_of_lt_of_eq V_a1.lt g6.symm)
  have ne_a2_b6 : a2 ≠ b6 := Nat.ne_of_lt (Nat.lt_of_lt_of_eq V_a2.lt g6.symm)
  have ne_a3_b6 : a3 ≠ b6 := Nat.ne_of_lt (Nat.lt_of_lt_of_eq V_a3.lt g6.symm)
  have ne_b3_b6 : b3 ≠ b6 := Nat.ne_of_lt (Nat.lt_of_lt_of_eq E_b3.lt g6.symm)
  have g_b6 : n0 ≤ b6 := Nat.le_trans Zle (Nat.le_of_eq g6.symm)
  have sz_b6 : h0.size ≤ b6 := Nat.le_trans K_.1 (Nat.le_of_eq g6.symm)
  have E_ob := E_ob.ext E6
  have F_costs_ob := F_costs_ob.ext E6
  have F_targeting_ob := F_targeting_ob.ext E6
  have F_idle_ob := F_idle_ob.ext E6
  have V_a1 := V_a1.ext E6
  have V_a2 := V_a2.ext E6
  have V_a3 := V_a3.ext E6
  have E_a1 := E_a1.ext E6
  have E_a2 := E_a2.ext E6
  have E_a3 := E_a3.ext E6
  have Zle := Nat.le_trans Zle E6.1
  have K_ := K_.ext E6
  have F_step_ob := F_step_ob.ext E6
  have E_b3 := E_b3.ext E6
  have V_b3 := V_b3.ext E6
  have F_clusterIds_ob := F_clusterIds_ob.ext E6
  have E_b6 := AE6
  have V_b6 : Arv Z h6 b6 k2 .int (0 : Int32) [] (.int 0) := A6
  refine own_by (T' := T6) (g' := (mkF m 25 #[.val (.ref ob), .val (.int p1), .val (.ref a1), .val (.ref a2), .val (.ref a3), .val (.int p2)] [(.ref b6), (.ref ob)])) (fun t k => st6 t k) ?_
  obtain ⟨T7, X7, e7, st7⟩ := castY X6 hx hZ hown (hw _ (own_m 20 rfl)) e6 (Ins.self E_b6) (g := (mkF m 25 #[.val (.ref ob), .val (.int p1), .val (.ref a1), .val (.ref a2), .val (.ref a3), .val (.int p2)] [(.ref b6), (.ref ob)])) rfl rfl (hb hby d1_25)
  refine own_by (T' := T7) (g' := (mkF m 28 #[.val (.ref ob), .val (.int p1), .val (.ref a1), .val (.ref a2), .val (.ref a3), .val (.int p2)] [(.ref b6), (.ref ob)])) (fun t k => st7 t k) ?_
  obtain ⟨T8, h8, X8, e8, W8, st8⟩ := putF X7 hx hZ hown (host := "") (Or.inl (hw _ (own_m 24 rfl))) Via.refl e7 F_costs_ob E_ob (Or.inr ⟨(hw _ (own_m 25 rfl)), rfl, hnm⟩) (hw _ (own_m 3 rfl)) (ty := (.array .int)) (by decide) rfl rfl (g := (mkF m 28 #[.val (.ref ob), .val (.int p1), .val (.ref a1), .val (.ref a2), .val (.ref a3), .val (.int p2)] [(.ref b6), (.ref ob)])) rfl rfl (hb hby d1_28)
  have F_costs_ob_ := F_costs_ob.same W8
  have E_ob := E_ob.wr W8
  have F_targeting_ob := F_targeting_ob.other W8 (Or.inr (slot_ne (Or.inr (hw _ (own_m 27 rfl))) (Or.inr (hw _ (own_m 25 rfl))) (by decide) (t := (.array .int)) (t' := (.array .int)) (by decide) (by decide)))
  have F_idle_ob := F_idle_ob.other W8 (Or.inr (slot_ne (Or.inr (hw _ (own_m 29 rfl))) (Or.inr (hw _ (own_m 25 rfl))) (by decide) (t := .int) (t' := (.array .int)) (by decide) (by decide)))
  have V_a1 := V_a1.other W8 ne_a1_ob
  have V_a2 := V_a2.other W8 ne_a2_ob
  have V_a3 := V_a3.other W8 ne_a3_ob
  have E_a1 := E_a1.wr W8
  have E_a2 := E_a2.wr W8
  have E_a3 := E_a3.wr W8
  have Zle := Nat.le_trans Zle (Keep.of_wr W8).1
  have K_ := K_.wr W8 (Or.inl (List.mem_of_getElem? (i := 0) rfl))
  have F_step_ob := F_step_ob.other W8 (Or.inr (slot_ne (Or.inr (hw _ (own_m 12 rfl))) (Or.inr (hw _ (own_m 25 rfl))) (by decide) (t := .int) (t' := (.array .int)) (by decide) (by decide)))
  have E_b3 := E_b3.wr W8
  have V_b3 := V_b3.other W8 ne_ob_b3.symm
  have F_clusterIds_ob := F_clusterIds_ob.other W8 (Or.inr (slot_ne (Or.inr (hw _ (own_m 23 rfl))) (Or.inr (hw _ (own_m 25 rfl))) (by decide) (t := (.array .int)) (t' := (.array .int)) (by decide) (by decide)))
  have E_b6 := E_b6.wr W8
  have V_b6 := V_b6.other W8 ne_ob_b6.symm
  have F_costs_ob := F_costs_ob_
  have N_ := Fr.snoc X8 N_ g_ob
  refine own_by (T' := T8) (g' := (mkF m 31 #[.val (.ref ob), .val (.int p1), .val (.ref a1), .val (.ref a2), .val (.ref a3), .val (.int p2)] [])) (fun t k => st8 t k) ?_
  refine own_by (T' := T8) (g' := (mkF m 32 #[.val (.ref ob), .val (.int p1), .val (.ref a1), .val (.ref a2), .val (.ref a3), .val (.int p2)] [(.ref ob)])) (fun t k => XS.aloadN X8.here hx rfl (hb hby d1_31) rfl rfl k) ?_
  refine own_by (T' := T8) (g' := (mkF m 34 #[.val (.ref ob), .val (.int p1), .val (.ref a1), .val (.ref a2), .val (.ref a3), .val (.int p2)] [(.ref a3), (.ref ob)])) (fun t k => XS.aload X8.here hx rfl (hb hby d1_32) rfl rfl k) ?_
  obtain ⟨T9, h9, X9, e9, E9, A9, AE9, st9⟩ := cloneH X8 hx hZ hown (hw _ (own_m 13 rfl)) (hw _ (own_m 14 rfl)) (hw _ (own_m 18 rfl)) (hw _ (own_m 16 rfl)) (hw _ (own_m 17 rfl)) (hw _ (own_m 19 rfl)) e8 V_a3.arh E_a3 (g := (mkF m 34 #[.val (.ref ob), .val (.int p1), .val (.ref a1), .val (.ref a2), .val (.ref a3), .val (.int p2)] [(.ref a3), (.ref ob)])) rfl (by rw [hml]; rfl) rfl (hb hby d1_34) (by decide) (W := 1) (cap := 0) (own_le rfl) (by decide) (by decide) (by decide) (by decide)
  obtain ⟨b9, g9⟩ : ∃ z, z = h8.size := ⟨_, rfl⟩
  rw [← g9] at A9 AE9 st9
  have ne_ob_b9 : ob ≠ b9 := Nat.ne_of_lt (Nat.lt_of_lt_of_eq E_ob.lt g9.symm)
  have ne_a1_b9 : a1 ≠ b9 := Nat.ne_of_lt (Nat.lt_of_lt_of_eq V_a1.lt g9.symm)
  have ne_a2_b9 : a2 ≠ b9 := Nat.ne_of_lt (Nat.lt_of_lt_of_eq V_a2.lt g9.symm)
  have ne_a3_b9 : a3 ≠ b9 := Nat.ne_of_lt (Nat.lt_of_lt_of_eq V_a3.lt g9.symm)
  have ne_b3_b9 : b3 ≠ b9 := Nat.ne_of_lt (Nat.lt_of_lt_of_eq E_b3.lt g9.symm)
  have ne_b6_b9 : b6 ≠ b9 := Nat.ne_of_lt (Nat.lt_of_lt_of_eq E_b6.lt g9.symm)
  have g_b9 : n0 ≤ b9 := Nat.le_trans Zle (Nat.le_of_eq g9.symm)
  have sz_b9 : h0.size ≤ b9 := Nat.le_trans K_.1 (Nat.le_of_eq g9.symm)
  have E_ob := E_ob.ext E9
  have F_targeting_ob := F_targeting_ob.ext E9
  have F_idle_ob := F_idle_ob.ext E9
  have V_a1 := V_a1.ext E9
  have V_a2 := V_a2.ext E9
  have V_a3 := V_a3.ext E9
  have E_a1 := E_a1.ext E9
  have E_a2 := E_a2.ext E9
  have E_a3 := E_a3.ext E9
  have Zle := Nat.le_trans Zle E9.1
  have K_ := K_.ext E9
  have F_step_ob := F_step_ob.ext E9
  have E_b3 := E_b3.ext E9
  have V_b3 := V_b3.ext E9
  have F_clusterIds_ob := F_clusterIds_ob.ext E9
  have E_b6 := E_b6.ext E9
  have V_b6 := V_b6.ext E9
  have F_costs_ob := F_costs_ob.ext E9
  have E_b9 := AE9
  have V_b9 : Arv Z h9 b9 k3 .int (0 : Int32) [] (.int 0) := A9
  refine own_by (T' := T9) (g' := (mkF m 37 #[.val (.ref ob), .val (.int p1), .val (.ref a1), .val (.ref a2), .val (.ref a3), .val (.int p2)] [(.ref b9), (.ref ob)])) (fun t k => st9 t k) ?_
  obtain ⟨T10, X10, e10, st10⟩ := castY X9 hx hZ hown (hw _ (own_m 20 rfl)) e9 (Ins.self E_b9) (g := (mkF m 37 #[.val (.ref ob), .val (.int p1), .val (.ref a1), .val (.ref a2), .val (.ref a3), .val (.int p2)] [(.ref b9), (.ref ob)])) rfl rfl (hb hby d1_37)
  refine own_by (T' := T10) (g' := (mkF m 40 #[.val (.ref ob), .val (.int p1), .val (.ref a1), .val (.ref a2), .val (.ref a3), .val (.int p2)] [(.ref b9), (.ref ob)])) (fun t k => st10 t k) ?_
  obtain ⟨T11, h11, X11, e11, W11, st11⟩ := putF X10 hx hZ hown (host := "") (Or.inl (hw _ (own_m 26 rfl))) Via.refl e10 F_targeting_ob E_ob (Or.inr ⟨(hw _ (own_m 27 rfl)), rfl, hnm⟩) (hw _ (own_m 3 rfl)) (ty := (.array .int)) (by decide) rfl rfl (g := (mkF m 40 #[.val (.ref ob), .val (.int p1), .val (.ref a1), .val (.ref a2), .val (.ref a3), .val (.int p2)] [(.ref b9), (.ref ob)])) rfl rfl (hb hby d1_40)
  have F_targeting_ob_ := F_targeting_ob.same W11
  have E_ob := E_ob.wr W11
  have F_idle_ob := F_idle_ob.other W11 (Or.inr (slot_ne (Or.inr (hw _ (own_m 29 rfl))) (Or.inr (hw _ (own_m 27 rfl))) (by decide) (t := .int) (t' := (.array .int)) (by decide) (by decide)))
  have V_a1 := V_a1.other W11 ne_a1_ob
  have V_a2 := V_a2.other W11 ne_a2_ob
  have V_a3 := V_a3.other W11 ne_a3_ob
  have E_a1 := E_a1.wr W11
  have E_a2 := E_a2.wr W11
  have E_a3 := E_a3.wr W11
  have Zle := Nat.le_trans Zle (Keep.of_wr W11).1
  have K_ := K_.wr W11 (Or.inl (List.mem_of_getElem? (i := 0) rfl))
  have F_step_ob := F_step_ob.other W11 (Or.inr (slot_ne (Or.inr (hw _ (own_m 12 rfl))) (Or.inr (hw _ (own_m 27 rfl))) (by decide) (t := .int) (t' := (.array .int)) (by decide) (by decide)))
  have E_b3 := E_b3.wr W11
  have V_b3 := V_b3.other W11 ne_ob_b3.symm
  have F_clusterIds_ob := F_clusterIds_ob.other W11 (Or.inr (slot_ne (Or.inr (hw _ (own_m 23 rfl))) (Or.inr (hw _ (own_m 27 rfl))) (by decide) (t := (.array .int)) (t' := (.array .int)) (by decide) (by decide)))
  have E_b6 := E_b6.wr W11
  have V_b6 := V_b6.other W11 ne_ob_b6.symm
  have F_costs_ob := F_costs_ob.other W11 (Or.inr (slot_ne (Or.inr (hw _ (own_m 25 rfl))) (Or.inr (hw _ (own_m 27 rfl))) (by decide) (t := (.array .int)) (t' := (.array .int)) (by decide) (by decide)))
  have E_b9 := E_b9.wr W11
  have V_b9 := V_b9.other W11 ne_ob_b9.symm
  have F_targeting_ob := F_targeting_ob_
  have N_ := Fr.snoc X11 N_ g_ob
  refine own_by (T' := T11) (g' := (mkF m 43 #[.val (.ref ob), .val (.int p1), .val (.ref a1), .val (.ref a2), .val (.ref a3), .val (.int p2)] [])) (fun t k => st11 t k) ?_
  refine own_by (T' := T11) (g' := (mkF m 44 #[.val (.ref ob), .val (.int p1), .val (.ref a1), .val (.ref a2), .val (.ref a3), .val (.int p2)] [(.ref ob)])) (fun t k => XS.aloadN X11.here hx rfl (hb hby d1_43) rfl rfl k) ?_
  refine own_by (T' := T11) (g' := (mkF m 46 #[.val (.ref ob), .val (.int p1), .val (.ref a1), .val (.ref a2), .val (.ref a3), .val (.int p2)] [(.int p2), (.ref ob)])) (fun t k => XS.iload X11.here hx rfl (hb hby d1_44) rfl k) ?_
  obtain ⟨T12, h12, X12, e12, W12, st12⟩ := putF X11 hx hZ hown (host := "") (Or.inl (hw _ (own_m 28 rfl))) Via.refl e11 F_idle_ob E_ob (Or.inr ⟨(hw _ (own_m 29 rfl)), rfl, hnm⟩) (hw _ (own_m 3 rfl)) (ty := .int) (by decide) rfl rfl (g := (mkF m 46 #[.val (.ref ob), .val (.int p1), .val (.ref a1), .val (.ref a2), .val (.ref a3), .val (.int p2)] [(.int p2), (.ref ob)])) rfl rfl (hb hby d1_46)
  have F_idle_ob_ := F_idle_ob.same W12
  have E_ob := E_ob.wr W12
  have V_a1 := V_a1.other W12 ne_a1_ob
  have V_a2 := V_a2.other W12 ne_a2_ob
  have V_a3 := V_a3.other W12 ne_a3_ob
  have E_a1 := E_a1.wr W12
  have E_a2 := E_a2.wr W12
  have E_a3 := E_a3.wr W12
  have Zle := Nat.le_trans Zle (Keep.of_wr W12).1
  have K_ := K_.wr W12 (Or.inl (List.mem_of_getElem? (i := 0) rfl))
  have F_step_ob := F_step_ob.other W12 (Or.inr (slot_ne (Or.inr (hw _ (own_m 12 rfl))) (Or.inr (hw _ (own_m 29 rfl))) (by decide) (t := .int) (t' := .int) (by decide) (by decide)))
  have E_b3 := E_b3.wr W12
  have V_b3 := V_b3.other W12 ne_ob_b3.symm
  have F_clusterIds_ob := F_clusterIds_ob.other W12 (Or.inr (slot_ne (Or.inr (hw _ (own_m 23 rfl))) (Or.inr (hw _ (own_m 29 rfl))) (by decide) (t := (.array .int)) (t' := .int) (by decide) (by decide)))
  have E_b6 := E_b6.wr W12
  have V_b6 := V_b6.other W12 ne_ob_b6.symm
  have F_costs_ob := F_costs_ob.other W12 (Or.inr (slot_ne (Or.inr (hw _ (own_m 25 rfl))) (Or.inr (hw _ (own_m 29 rfl))) (by decide) (t := (.array .int)) (t' := .int) (by decide) (by decide)))
  have E_b9 := E_b9.wr W12
  have V_b9 := V_b9.other W12 ne_ob_b9.symm
  have F_targeting_ob := F_targeting_ob.other W12 (Or.inr (slot_ne (Or.inr (hw _ (own_m 27 rfl))) (Or.inr (hw _ (own_m 29 rfl))) (by decide) (t := (.array .int)) (t' := .int) (by decide) (by decide)))
  have F_idle_ob := F_idle_ob_
  have N_ := Fr.snoc X12 N_ g_ob
  refine own_by (T' := T12) (g' := (mkF m 49 #[.val (.ref ob), .val (.int p1), .val (.ref a1), .val (.ref a2), .val (.ref a3), .val (.int p2)] [])) (fun t k => st12 t k) ?_
  exact own_retV X12 hx Bd.notSynchronized Bd.returns (hb hby d1_49) (by decide) (by decide) (by rw [e12]; exact ⟨b6, rfl, N_, K_, E_ob, sz_b6, F_costs_ob, V_b6⟩)

theorem ef_3n0 (m : MethodId) (ob : Addr) : entryFrame m #[(.ref ob)] 6 = mkF m 0 #[.val (.ref ob), .unset, .unset, .unset, .unset, .unset] [] := by first | (simp [entryFrame, mkF, argsToLocals, Value.category]; done) | rfl
theorem d3_0 : decode prog_30_method_3_code 0 = .ok (.iconst 0, 1) := by decide +kernel
theorem d3_1 : decode prog_30_method_3_code 1 = .ok (.istore_n 1, 1) := by decide +kernel
theorem d3_2 : decode prog_30_method_3_code 2 = .ok (.aload_n 0, 1) := by decide +kernel
theorem d3_3 : decode prog_30_method_3_code 3 = .ok (.getfield 22, 3) := by decide +kernel
theorem d3_6 : decode prog_30_method_3_code 6 = .ok (.astore_n 2, 1) := by decide +kernel
theorem d3_7 : decode prog_30_method_3_code 7 = .ok (.aload_n 2, 1) := by decide +kernel
theorem d3_8 : decode prog_30_method_3_code 8 = .ok (.arraylength, 1) := by decide +kernel
theorem d3_9 : decode prog_30_method_3_code 9 = .ok (.istore_n 3, 1) := by decide +kernel
theorem d3_10 : decode prog_30_method_3_code 10 = .ok (.iconst 0, 1) := by decide +kernel
theorem d3_11 : decode prog_30_method_3_code 11 = .ok (.istore 4, 2) := by decide +kernel
theorem d3_13 : decode prog_30_method_3_code 13 = .ok (.iload 4, 2) := by decide +kernel
theorem d3_15 : decode prog_30_method_3_code 15 = .ok (.iload_n 3, 1) := by decide +kernel
theorem d3_16 : decode prog_30_method_3_code 16 = .ok (.if_icmp .ge 20, 3) := by decide +kernel
theorem d3_36 : decode prog_30_method_3_code 36 = .ok (.iload_n 1, 1) := by decide +kernel
theorem d3_37 : decode prog_30_method_3_code 37 = .ok (.ireturn, 1) := by decide +kernel
def Q3n0 (Z : State) (ob : Addr) (tt : Addr) (k2 : ClassId) (h0 : Heap) (n0 : Nat) (v : Option Value) (h : Heap) (L : List Loc) : Prop := v = some (.int 0) ∧ Fr n0 L ∧ h = h0
set_option maxRecDepth 65536 in
set_option maxHeartbeats 40000000 in
theorem rm3n0 (l : Launch) (Z : State) (a0 : Array Value) (hw : ∀ d ∈ tables_1, d.before a0 Z = true) (ws : List Jvm.Cond) (ob : Addr) (tt : Addr) (k2 : ClassId) (h0 : Heap) (n0 : Nat) (Zle : n0 ≤ h0.size) (F_costs_ob : Fld Z h0 ob "com/example/firebreak/firebreak/core/MapStep" "costs" "[I" (.ref tt)) (V_tt : Arv Z h0 tt k2 .int (0 : Int32) [] (.int 0)) :
    MetFree l (⟨"com/example/firebreak/firebreak/core/MapStep", "getBurning", "()I"⟩ : MethodName) (head1 (Jvm.Cond.code (⟨"com/example/firebreak/firebreak/core/MapStep", "getBurning", "()I"⟩ : MethodName) prog_30_method_3_code 6 (some .int) :: ws) ({ frames := 0, cells := 0, slots := 0, locals := 0 } : Room)) (fun a U => a = #[(.ref ob)] ∧ Z.Warmed39 U.vm ∧ U.heap = h0) (fun _ _ _ _ _ => True) (fun _ U o U' => ∃ v L, o = .returned v ∧ Q3n0 Z ob tt k2 h0 n0 v U'.heap L ∧ FrameEnd U o U' L ({ frames := 0, cells := 0, slots := 0, locals := 0 } : Room).cells ({ frames := 0, cells := 0, slots := 0, locals := 0 } : Room).slots) := by
  refine MetFree.of_bodySF (plainFor_of_name pn_com_example_firebreak_firebreak_core_MapStep) hisR ?_
  intro p e s m args below meth c s₁ Bd hml0 hP hK
  obtain ⟨rfl, hZ, hh⟩ := hP
  have hx := Bd.exec
  have hby := Bd.bytes
  have hml : c.maxLocals = 6 := hml0
  have hown : s.vm.findClass "com/example/firebreak/firebreak/core/MapStep" = some m.cls := findClass_of_methodNamed Bd.named
  have hnm := (name_of_methodNamed Bd.named Bd.method).1
  have X0 : Stand p l e ({ frames := 0, cells := 0, slots := 0, locals := 0 } : Room) s m #[(.ref ob)] below meth c s₁ [] 0 0 := Stand.of_body Bd
  have e0 : s₁.heap = h0 := by rw [← hh, Bd.state]; rfl
  have N_ := Fr.nil n0
  show own_Goes p.tables e below s (Q3n0 Z ob tt k2 h0 n0) ({ frames := 0, cells := 0, slots := 0, locals := 0 } : Room).cells ({ frames := 0, cells := 0, slots := 0, locals := 0 } : Room).slots s₁ (entryFrame m #[(.ref ob)] 6)
  refine own_by (T' := s₁) (g' := (mkF m 0 #[.val (.ref ob), .unset, .unset, .unset, .unset, .unset] [])) (fun t k => castTop (ef_3n0 m ob) k) ?_
  refine own_by (T' := s₁) (g' := (mkF m 1 #[.val (.ref ob), .unset, .unset, .unset, .unset, .unset] [(.int 0)])) (fun t k => XS.iconst X0.here hx rfl (hb hby d3_0) k) ?_
  refine own_by (T' := s₁) (g' := (mkF m 2 #[.val (.ref ob), .val (.int 0), .unset, .unset, .unset, .unset] [])) (fun t k => XS.istoreN X0.here hx rfl (hb hby d3_1) rfl (l' := #[.val (.ref ob), .val (.int 0), .unset, .unset, .unset, .unset]) rfl k) ?_
  refine own_by (T' := s₁) (g' := (mkF m 3 #[.val (.ref ob), .val (.int 0), .unset, .unset, .unset, .unset] [(.ref ob)])) (fun t k => XS.aloadN X0.here hx rfl (hb hby d3_2) rfl rfl k) ?_
  obtain ⟨T1, X1, e1, st1⟩ := getF X0 hx hZ hown (host := "") (Or.inl (hw _ (own_m 24 rfl))) Via.refl e0 F_costs_ob (g := (mkF m 3 #[.val (.ref ob), .val (.int 0), .unset, .unset, .unset, .unset] [(.ref ob)])) rfl rfl (hb hby d3_3)
  refine own_by (T' := T1) (g' := (mkF m 6 #[.val (.ref ob), .val (.int 0), .unset, .unset, .unset, .unset] [(.ref tt)])) (fun t k => st1 t k) ?_
  refine own_by (T' := T1) (g' := (mkF m 7 #[.val (.ref ob), .val (.int 0), .val (.ref tt), .unset, .unset, .unset] [])) (fun t k => XS.astoreN X1.here hx rfl (hb hby d3_6) rfl rfl (l' := #[.val (.ref ob), .val (.int 0), .val (.ref tt), .unset, .unset, .unset]) rfl k) ?_
  refine own_by (T' := T1) (g' := (mkF m 8 #[.val (.ref ob), .val (.int 0), .val (.ref tt), .unset, .unset, .unset] [(.ref tt)])) (fun t k => XS.aloadN X1.here hx rfl (hb hby d3_7) rfl rfl k) ?_
  obtain ⟨cl2, Ar2, -, S2, N2, -, -⟩ := id V_tt
  have st2 : ∀ t, Steps p.tables e below (T1.setTop (mkF m 9 #[.val (.ref ob), .val (.int 0), .val (.ref tt), .unset, .unset, .unset] [(.int 0)])) t → Steps p.tables e below (T1.setTop (mkF m 8 #[.val (.ref ob), .val (.int 0), .val (.ref tt), .unset, .unset, .unset] [(.ref tt)])) t := fun t k => X1.arraylength hx (by rw [e1]; exact Ar2.1) (State.isArrayOf_alike hZ.alike Ar2.2.1) (g := (mkF m 8 #[.val (.ref ob), .val (.int 0), .val (.ref tt), .unset, .unset, .unset] [(.ref tt)])) rfl rfl (hb hby d3_8) _ (by rw [len_of S2 N2]; exact k)
  refine own_by (T' := T1) (g' := (mkF m 9 #[.val (.ref ob), .val (.int 0), .val (.ref tt), .unset, .unset, .unset] [(.int 0)])) (fun t k => st2 t k) ?_
  refine own_by (T' := T1) (g' := (mkF m 10 #[.val (.ref ob), .val (.int 0), .val (.ref tt), .val (.int 0), .unset, .unset] [])) (fun t k => XS.istoreN X1.here hx rfl (hb hby d3_9) rfl (l' := #[.val (.ref ob), .val (.int 0), .val (.ref tt), .val (.int 0), .unset, .unset]) rfl k) ?_
  refine own_by (T' := T1) (g' := (mkF m 11 #[.val (.ref ob), .val (.int 0), .val (.ref tt), .val (.int 0), .unset, .unset] [(.int 0)])) (fun t k => XS.iconst X1.here hx rfl (hb hby d3_10) k) ?_
  refine own_by (T' := T1) (g' := (mkF m 13 #[.val (.ref ob), .val (.int 0), .val (.ref tt), .val (.int 0), .val (.int 0), .unset] [])) (fun t k => XS.istore X1.here hx rfl (hb hby d3_11) rfl (l' := #[.val (.ref ob), .val (.int 0), .val (.ref tt), .val (.int 0), .val (.int 0), .unset]) rfl k) ?_
  refine own_by (T' := T1) (g' := (mkF m 15 #[.val (.ref ob), .val (.int 0), .val (.ref tt), .val (.int 0), .val (.int 0), .unset] [(.int 0)])) (fun t k => XS.iload X1.here hx rfl (hb hby d3_13) rfl k) ?_
  refine own_by (T' := T1) (g' := (mkF m 16 #[.val (.ref ob), .val (.int 0), .val (.ref tt), .val (.int 0), .val (.int 0), .unset] [(.int 0), (.int 0)])) (fun t k => XS.iloadN X1.here hx rfl (hb hby d3_15) rfl k) ?_
  refine own_by (T' := T1) (g' := (mkF m 36 #[.val (.ref ob), .val (.int 0), .val (.ref tt), .val (.int 0), .val (.int 0), .unset] [])) (fun t k => XS.icmpYes X1.here hx rfl (pc0 := 16) (pc' := 36) rfl (hb hby d3_16) rfl (flt (by decide)).2.1 (by decide) (by decide) k) ?_
  refine own_by (T' := T1) (g' := (mkF m 37 #[.val (.ref ob), .val (.int 0), .val (.ref tt), .val (.int 0), .val (.int 0), .unset] [(.int 0)])) (fun t k => XS.iloadN X1.here hx rfl (hb hby d3_36) rfl k) ?_
  exact own_retI X1 hx Bd.notSynchronized Bd.returns (hb hby d3_37) (by decide) (by decide) (by rw [e1]; exact ⟨rfl, N_, rfl⟩)

theorem ef_1n1 (m : MethodId) (ob : Addr) (p1 : Int32) (a1 : Addr) (a2 : Addr) (a3 : Addr) (p2 : Int32) : entryFrame m #[(.ref ob), (.int p1), (.ref a1), (.ref a2), (.ref a3), (.int p2)] 6 = mkF m 0 #[.val (.ref ob), .val (.int p1), .val (.ref a1), .val (.ref a2), .val (.ref a3), .val (.int p2)] [] := by first | (simp [entryFrame, mkF, argsToLocals, Value.category]; done) | rfl
def Q1n1 (Z : State) (ob : Addr) (p1 : Int32) (a1 : Addr) (a2 : Addr) (a3 : Addr) (p2 : Int32) (k1 : ClassId) (k2 : ClassId) (k3 : ClassId) (u0 : Int32) (v0 : Int32) (w0 : Int32) (h0 : Heap) (n0 : Nat) (v : Option Value) (h : Heap) (L : List Loc) : Prop := ∃ t2 : Addr, v = none ∧ Fr n0 L ∧ Keep h0 h [ob] ∧ Exa Z h ob "com/example/firebreak/firebreak/core/MapStep" ∧ h0.size ≤ t2 ∧ Fld Z h ob "com/example/firebreak/firebreak/core/MapStep" "costs" "[I" (.ref t2) ∧ Arv Z h t2 k2 .int (1 : Int32) [(.int v0)] (.int 0)
set_option maxRecDepth 65536 in
set_option maxHeartbeats 40000000 in
theorem rm1n1 (l : Launch) (Z : State) (a0 : Array Value) (hw : ∀ d ∈ tables_1, d.before a0 Z = true) (ws : List Jvm.Cond) (ob : Addr) (p1 : Int32) (a1 : Addr) (a2 : Addr) (a3 : Addr) (p2 : Int32) (k1 : ClassId) (k2 : ClassId) (k3 : ClassId) (u0 : Int32) (v0 : Int32) (w0 : Int32) (h0 : Heap) (n0 : Nat) (Zle : n0 ≤ h0.size) (E_ob : Exa Z h0 ob "com/example/firebreak/firebreak/core/MapStep") (g_ob : n0 ≤ ob) (F_step_ob : Fld Z h0 ob "com/example/firebreak/firebreak/core/MapStep" "step" "I" (.int 0)) (F_clusterIds_ob : Fld Z h0 ob "com/example/firebreak/firebreak/core/MapStep" "clusterIds" "[I" .null) (F_costs_ob : Fld Z h0 ob "com/example/firebreak/firebreak/core/MapStep" "costs" "[I" .null) (F_targeting_ob : Fld Z h0 ob "com/example/firebreak/firebreak/core/MapStep" "targeting" "[I" .null) (F_idle_ob : Fld Z h0 ob "com/example/firebreak/firebreak/core/MapStep" "idle" "I" (.int 0)) (V_a1 : Arv Z h0 a1 k1 .int (1 : Int32) [(.int u0)] (.int 0)) (V_a2 : Arv Z h0 a2 k2 .int (1 : Int32) [(.int v0)] (.int 0)) (V_a3 : Arv Z h0 a3 k3 .int (1 : Int32) [(.int w0)] (.int 0)) (E_a1 : Exa Z h0 a1 "[I") (E_a2 : Exa Z h0 a2 "[I") (E_a3 : Exa Z h0 a3 "[I") (ne_a1_ob : a1 ≠ ob) (ne_a2_ob : a2 ≠ ob) (ne_a3_ob : a3 ≠ ob) :
    MetFree l (⟨"com/example/firebreak/firebreak/core/MapStep", "<init>", "(I[I[I[II)V"⟩ : MethodName) (head1 (Jvm.Cond.code (⟨"com/example/firebreak/firebreak/core/MapStep", "<init>", "(I[I[I[II)V"⟩ : MethodName) prog_30_method_1_code 6 none :: ws) ({ frames := 1, cells := 3, slots := 3, locals := 16 } : Room)) (fun a U => a = #[(.ref ob), (.int p1), (.ref a1), (.ref a2), (.ref a3), (.int p2)] ∧ Z.Warmed39 U.vm ∧ U.heap = h0) (fun _ _ _ _ _ => True) (fun _ U o U' => ∃ v L, o = .returned v ∧ Q1n1 Z ob p1 a1 a2 a3 p2 k1 k2 k3 u0 v0 w0 h0 n0 v U'.heap L ∧ FrameEnd U o U' L ({ frames := 1, cells := 3, slots := 3, locals := 16 } : Room).cells ({ frames := 1, cells := 3, slots := 3, locals := 16 } : Room).slots) := by
  refine MetFree.of_bodySF (plainFor_of_name pn_com_example_firebreak_firebreak_core_MapStep) hisR ?_
  intro p e s m args below meth c s₁ Bd hml0 hP hK
  obtain ⟨rfl, hZ, hh⟩ := hP
  have hx := Bd.exec
  have hby := Bd.bytes
  have hml : c.maxLocals = 6 := hml0
  have hown : s.vm.findClass "com/example/firebreak/firebreak/core/MapStep" = some m.cls := findClass_of_methodNamed Bd.named
  have hnm := (name_of_methodNamed Bd.named Bd.method).1
  have X0 : Stand p l e ({ frames := 1, cells := 3, slots := 3, locals := 16 } : Room) s m #[(.ref ob), (.int p1), (.ref a1), (.ref a2), (.ref a3), (.int p2)] below meth c s₁ [] 0 0 := Stand.of_body Bd
  have e0 : s₁.heap = h0 := by rw [← hh, Bd.state]; rfl
  have N_ := Fr.nil n0
  have K_ := Keep.refl h0 [ob]
  show own_Goes p.tables e below s (Q1n1 Z ob p1 a1 a2 a3 p2 k1 k2 k3 u0 v0 w0 h0 n0) ({ frames := 1, cells := 3, slots := 3, locals := 16 } : Room).cells ({ frames := 1, cells := 3, slots := 3, locals := 16 } : Room).slots s₁ (entryFrame m #[(.ref ob), (.int p1), (.ref a1), (.ref a2), (.ref a3), (.int p2)] 6)
  refine own_by (T' := s₁) (g' := (mkF m 0 #[.val (.ref ob), .val (.int p1), .val (.ref a1), .val (.ref a2), .val (.ref a3), .val (.int p2)] [])) (fun t k => castTop (ef_1n1 m ob p1 a1 a2 a3 p2) k) ?_
  refine own_by (T' := s₁) (g' := (mkF m 1 #[.val (.ref ob), .val (.int p1), .val (.ref a1), .val (.ref a2), .val (.ref a3), .val (.int p2)] [(.ref ob)])) (fun t k => XS.aloadN X0.here hx rfl (hb hby d1_0) rfl rfl k) ?_
  obtain ⟨T1, X1, e1, st1⟩ := initO X0 hx hZ hown (hw _ (own_m 8 rfl)) (hw _ (own_m 9 rfl)) (hw _ (own_m 10 rfl)) e0 (g := (mkF m 1 #[.val (.ref ob), .val (.int p1), .val (.ref a1), .val (.ref a2), .val (.ref a3), .val (.int p2)] [(.ref ob)])) rfl (by rw [hml]; rfl) rfl (hb hby d1_1) (by decide) (W := 0) (own_le rfl) (by decide)
  refine own_by (T' := T1) (g' := (mkF m 4 #[.val (.ref ob), .val (.int p1), .val (.ref a1), .val (.ref a2), .val (.ref a3), .val (.int p2)] [])) (fun t k => st1 t k) ?_
  refine own_by (T' := T1) (g' := (mkF m 5 #[.val (.ref ob), .val (.int p1), .val (.ref a1), .val (.ref a2), .val (.ref a3), .val (.int p2)] [(.ref ob)])) (fun t k => XS.aloadN X1.here hx rfl (hb hby d1_4) rfl rfl k) ?_
  refine own_by (T' := T1) (g' := (mkF m 6 #[.val (.ref ob), .val (.int p1), .val (.ref a1), .val (.ref a2), .val (.ref a3), .val (.int p2)] [(.int p1), (.ref ob)])) (fun t k => XS.iloadN X1.here hx rfl (hb hby d1_5) rfl k) ?_
  obtain ⟨T2, h2, X2, e2, W2, st2⟩ := putF X1 hx hZ hown (host := "") (Or.inl (hw _ (own_m 11 rfl))) Via.refl e1 F_step_ob E_ob (Or.inr ⟨(hw _ (own_m 12 rfl)), rfl, hnm⟩) (hw _ (own_m 3 rfl)) (ty := .int) (by decide) rfl rfl (g := (mkF m 6 #[.val (.ref ob), .val (.int p1), .val (.ref a1), .val (.ref a2), .val (.ref a3), .val (.int p2)] [(.int p1), (.ref ob)])) rfl rfl (hb hby d1_6)
  have F_step_ob_ := F_step_ob.same W2
  have E_ob := E_ob.wr W2
  have F_clusterIds_ob := F_clusterIds_ob.other W2 (Or.inr (slot_ne (Or.inr (hw _ (own_m 23 rfl))) (Or.inr (hw _ (own_m 12 rfl))) (by decide) (t := (.array .int)) (t' := .int) (by decide) (by decide)))
  have F_costs_ob := F_costs_ob.other W2 (Or.inr (slot_ne (Or.inr (hw _ (own_m 25 rfl))) (Or.inr (hw _ (own_m 12 rfl))) (by decide) (t := (.array .int)) (t' := .int) (by decide) (by decide)))
  have F_targeting_ob := F_targeting_ob.other W2 (Or.inr (slot_ne (Or.inr (hw _ (own_m 27 rfl))) (Or.inr (hw _ (own_m 12 rfl))) (by decide) (t := (.array .int)) (t' := .int) (by decide) (by decide)))
  have F_idle_ob := F_idle_ob.other W2 (Or.inr (slot_ne (Or.inr (hw _ (own_m 29 rfl))) (Or.inr (hw _ (own_m 12 rfl))) (by decide) (t := .int) (t' := .int) (by decide) (by decide)))
  have V_a1 := V_a1.other W2 ne_a1_ob
  have V_a2 := V_a2.other W2 ne_a2_ob
  have V_a3 := V_a3.other W2 ne_a3_ob
  have E_a1 := E_a1.wr W2
  have E_a2 := E_a2.wr W2
  have E_a3 := E_a3.wr W2
  have Zle := Nat.le_trans Zle (Keep.of_wr W2).1
  have K_ := K_.wr W2 (Or.inl (List.mem_of_getElem? (i := 0) rfl))
  have F_step_ob := F_step_ob_
  have N_ := Fr.snoc X2 N_ g_ob
  refine own_by (T' := T2) (g' := (mkF m 9 #[.val (.ref ob), .val (.int p1), .val (.ref a1), .val (.ref a2), .val (.ref a3), .val (.int p2)] [])) (fun t k => st2 t k) ?_
  refine own_by (T' := T2) (g' := (mkF m 10 #[.val (.ref ob), .val (.int p1), .val (.ref a1), .val (.ref a2), .val (.ref a3), .val (.int p2)] [(.ref ob)])) (fun t k => XS.aloadN X2.here hx rfl (hb hby d1_9) rfl rfl k) ?_
  refine own_by (T' := T2) (g' := (mkF m 11 #[.val (.ref ob), .val (.int p1), .val (.ref a1), .val (.ref a2), .val (.ref a3), .val (.int p2)] [(.ref a1), (.ref ob)])) (fun t k => XS.aloadN X2.here hx rfl (hb hby d1_10) rfl rfl k) ?_
  obtain ⟨T3, h3, X3, e3, E3, A3, AE3, st3⟩ := cloneH X2 hx hZ hown (hw _ (own_m 13 rfl)) (hw _ (own_m 14 rfl)) (hw _ (own_m 18 rfl)) (hw _ (own_m 16 rfl)) (hw _ (own_m 17 rfl)) (hw _ (own_m 19 rfl)) e2 V_a1.arh E_a1 (g := (mkF m 11 #[.val (.ref ob), .val (.int p1), .val (.ref a1), .val (.ref a2), .val (.ref a3), .val (.int p2)] [(.ref a1), (.ref ob)])) rfl (by rw [hml]; rfl) rfl (hb hby d1_11) (by decide) (W := 1) (cap := 1) (own_le rfl) (by decide) (by decide) (by decide) (by decide)
  obtain ⟨b3, g3⟩ : ∃ z, z = h2.size := ⟨_, rfl⟩
  rw [← g3] at A3 AE3 st3
  have ne_ob_b3 : ob ≠ b3 := Nat.ne_of_lt (Nat.lt_of_lt_of_eq E_ob.lt g3.symm)
  have ne_a1_b3 : a1 ≠ b3 := Nat.ne_of_lt (Nat.lt_of_lt_of_eq V_a1.lt g3.symm)
  have ne_a2_b3 : a2 ≠ b3 := Nat.ne_of_lt (Nat.lt_of_lt_of_eq V_a2.lt g3.symm)
  have ne_a3_b3 : a3 ≠ b3 := Nat.ne_of_lt (Nat.lt_of_lt_of_eq V_a3.lt g3.symm)
  have g_b3 : n0 ≤ b3 := Nat.le_trans Zle (Nat.le_of_eq g3.symm)
  have sz_b3 : h0.size ≤ b3 := Nat.le_trans K_.1 (Nat.le_of_eq g3.symm)
  have E_ob := E_ob.ext E3
  have F_clusterIds_ob := F_clusterIds_ob.ext E3
  have F_costs_ob := F_costs_ob.ext E3
  have F_targeting_ob := F_targeting_ob.ext E3
  have F_idle_ob := F_idle_ob.ext E3
  have V_a1 := V_a1.ext E3
  have V_a2 := V_a2.ext E3
  have V_a3 := V_a3.ext E3
  have E_a1 := E_a1.ext E3
  have E_a2 := E_a2.ext E3
  have E_a3 := E_a3.ext E3
  have Zle := Nat.le_trans Zle E3.1
  have K_ := K_.ext E3
  have F_step_ob := F_step_ob.ext E3
  have E_b3 := AE3
  have V_b3 : Arv Z h3 b3 k1 .int (1 : Int32) [(.int u0)] (.int 0) := A3
  refine own_by (T' := T3) (g' := (mkF m 14 #[.val (.ref ob), .val (.int p1), .val (.ref a1), .val (.ref a2), .val (.ref a3), .val (.int p2)] [(.ref b3), (.ref ob)])) (fun t k => st3 t k) ?_
  obtain ⟨T4, X4, e4, st4⟩ := castY X3 hx hZ hown (hw _ (own_m 20 rfl)) e3 (Ins.self E_b3) (g := (mkF m 14 #[.val (.ref ob), .val (.int p1), .val (.ref a1), .val (.ref a2), .val (.ref a3), .val (.int p2)] [(.ref b3), (.ref ob)])) rfl rfl (hb hby d1_14)
  refine own_by (T' := T4) (g' := (mkF m 17 #[.val (.ref ob), .val (.int p1), .val (.ref a1), .val (.ref a2), .val (.ref a3), .val (.int p2)] [(.ref b3), (.ref ob)])) (fun t k => st4 t k) ?_
  obtain ⟨T5, h5, X5, e5, W5, st5⟩ := putF X4 hx hZ hown (host := "") (Or.inl (hw _ (own_m 22 rfl))) Via.refl e4 F_clusterIds_ob E_ob (Or.inr ⟨(hw _ (own_m 23 rfl)), rfl, hnm⟩) (hw _ (own_m 3 rfl)) (ty := (.array .int)) (by decide) rfl rfl (g := (mkF m 17 #[.val (.ref ob), .val (.int p1), .val (.ref a1), .val (.ref a2), .val (.ref a3), .val (.int p2)] [(.ref b3), (.ref ob)])) rfl rfl (hb hby d1_17)
  have F_clusterIds_ob_ := F_clusterIds_ob.same W5
  have E_ob := E_ob.wr W5
  have F_costs_ob := F_costs_ob.other W5 (Or.inr (slot_ne (Or.inr (hw _ (own_m 25 rfl))) (Or.inr (hw _ (own_m 23 rfl))) (by decide) (t := (.array .int)) (t' := (.array .int)) (by decide) (by decide)))
  have F_targeting_ob := F_targeting_ob.other W5 (Or.inr (slot_ne (Or.inr (hw _ (own_m 27 rfl))) (Or.inr (hw _ (own_m 23 rfl))) (by decide) (t := (.array .int)) (t' := (.array .int)) (by decide) (by decide)))
  have F_idle_ob := F_idle_ob.other W5 (Or.inr (slot_ne (Or.inr (hw _ (own_m 29 rfl))) (Or.inr (hw _ (own_m 23 rfl))) (by decide) (t := .int) (t' := (.array .int)) (by decide) (by decide)))
  have V_a1 := V_a1.other W5 ne_a1_ob
  have V_a2 := V_a2.other W5 ne_a2_ob
  have V_a3 := V_a3.other W5 ne_a3_ob
  have E_a1 := E_a1.wr W5
  have E_a2 := E_a2.wr W5
  have E_a3 := E_a3.wr W5
  have Zle := Nat.le_trans Zle (Keep.of_wr W5).1
  have K_ := K_.wr W5 (Or.inl (List.mem_of_getElem? (i := 0) rfl))
  have F_step_ob := F_step_ob.other W5 (Or.inr (slot_ne (Or.inr (hw _ (own_m 12 rfl))) (Or.inr (hw _ (own_m 23 rfl))) (by decide) (t := .int) (t' := (.array .int)) (by decide) (by decide)))
  have E_b3 := E_b3.wr W5
  have V_b3 := V_b3.other W5 ne_ob_b3.symm
  have F_clusterIds_ob := F_clusterIds_ob_
  have N_ := Fr.snoc X5 N_ g_ob
  refine own_by (T' := T5) (g' := (mkF m 20 #[.val (.ref ob), .val (.int p1), .val (.ref a1), .val (.ref a2), .val (.ref a3), .val (.int p2)] [])) (fun t k => st5 t k) ?_
  refine own_by (T' := T5) (g' := (mkF m 21 #[.val (.ref ob), .val (.int p1), .val (.ref a1), .val (.ref a2), .val (.ref a3), .val (.int p2)] [(.ref ob)])) (fun t k => XS.aloadN X5.here hx rfl (hb hby d1_20) rfl rfl k) ?_
  refine own_by (T' := T5) (g' := (mkF m 22 #[.val (.ref ob), .val (.int p1), .val (.ref a1), .val (.ref a2), .val (.ref a3), .val (.int p2)] [(.ref a2), (.ref ob)])) (fun t k => XS.aloadN X5.here hx rfl (hb hby d1_21) rfl rfl k) ?_
  obtain ⟨T6, h6, X6, e6, E6, A6, AE6, st6⟩ := cloneH X5 hx hZ hown (hw _ (own_m 13 rfl)) (hw _ (own_m 14 rfl)) (hw _ (own_m 18 rfl)) (hw _ (own_m 16 rfl)) (hw _ (own_m 17 rfl)) (hw _ (own_m 19 rfl)) e5 V_a2.arh E_a2 (g := (mkF m 22 #[.val (.ref ob), .val (.int p1), .val (.ref a1), .val (.ref a2), .val (.ref a3), .val (.int p2)] [(.ref a2), (.ref ob)])) rfl (by rw [hml]; rfl) rfl (hb hby d1_22) (by decide) (W := 1) (cap := 1) (own_le rfl) (by decide) (by decide) (by decide) (by decide)
  obtain ⟨b6, g6⟩ : ∃ z, z = h5.size := ⟨_, rfl⟩
  rw [← g6] at A6 AE6 st6
  have ne_ob_b6 : ob ≠ b6 := Nat.ne_of_lt (Nat.lt_of_lt_of_eq E_ob.lt g6.symm)
  have ne_a1_b6 : a1 ≠ b6 := Nat.ne_of_lt (Nat.lt_of_lt_of_eq V_a1.lt g6.symm)
  have ne_a2_b6 : a2 ≠ b6 := Nat.ne_of_lt (Nat.lt_of_lt_of_eq V_a2.lt g6.symm)
  have ne_a3_b6 : a3 ≠ b6 := Nat.ne_of_lt (Nat.lt_of_lt_of_eq V_a3.lt g6.symm)
  have ne_b3_b6 : b3 ≠ b6 := Nat.ne_of_lt (Nat.lt_of_lt_of_eq E_b3.lt g6.symm)
  have g_b6 : n0 ≤ b6 := Nat.le_trans Zle (Nat.le_of_eq g6.symm)
  have sz_b6 : h0.size ≤ b6 := Nat.le_trans K_.1 (Nat.le_of_eq g6.symm)
  have E_ob := E_ob.ext E6
  have F_costs_ob := F_costs_ob.ext E6
  have F_targeting_ob := F_targeting_ob.ext E6
  have F_idle_ob := F_idle_ob.ext E6
  have V_a1 := V_a1.ext E6
  have V_a2 := V_a2.ext E6
  have V_a3 := V_a3.ext E6
  have E_a1 := E_a1.ext E6
  have E_a2 := E_a2.ext E6
  have E_a3 := E_a3.ext E6
  have Zle := Nat.le_trans Zle E6.1
  have K_ := K_.ext E6
  have F_step_ob := F_step_ob.ext E6
  have E_b3 := E_b3.ext E6
  have V_b3 := V_b3.ext E6
  have F_clusterIds_ob := F_clusterIds_ob.ext E6
  have E_b6 := AE6
  have V_b6 : Arv Z h6 b6 k2 .int (1 : Int32) [(.int v0)] (.int 0) := A6
  refine own_by (T' := T6) (g' := (mkF m 25 #[.val (.ref ob), .val (.int p1), .val (.ref a1), .val (.ref a2), .val (.ref a3), .val (.int p2)] [(.ref b6), (.ref ob)])) (fun t k => st6 t k) ?_
  obtain ⟨T7, X7, e7, st7⟩ := castY X6 hx hZ hown (hw _ (own_m 20 rfl)) e6 (Ins.self E_b6) (g := (mkF m 25 #[.val (.ref ob), .val (.int p1), .val (.ref a1), .val (.ref a2), .val (.ref a3), .val (.int p2)] [(.ref b6), (.ref ob)])) rfl rfl (hb hby d1_25)
  refine own_by (T' := T7) (g' := (mkF m 28 #[.val (.ref ob), .val (.int p1), .val (.ref a1), .val (.ref a2), .val (.ref a3), .val (.int p2)] [(.ref b6), (.ref ob)])) (fun t k => st7 t k) ?_
  obtain ⟨T8, h8, X8, e8, W8, st8⟩ := putF X7 hx hZ hown (host := "") (Or.inl (hw _ (own_m 24 rfl))) Via.refl e7 F_costs_ob E_ob (Or.inr ⟨(hw _ (own_m 25 rfl)), rfl, hnm⟩) (hw _ (own_m 3 rfl)) (ty := (.array .int)) (by decide) rfl rfl (g := (mkF m 28 #[.val (.ref ob), .val (.int p1), .val (.ref a1), .val (.ref a2), .val (.ref a3), .val (.int p2)] [(.ref b6), (.ref ob)])) rfl rfl (hb hby d1_28)
  have F_costs_ob_ := F_costs_ob.same W8
  have E_ob := E_ob.wr W8
  have F_targeting_ob := F_targeting_ob.other W8 (Or.inr (slot_ne (Or.inr (hw _ (own_m 27 rfl))) (Or.inr (hw _ (own_m 25 rfl))) (by decide) (t := (.array .int)) (t' := (.array .int)) (by decide) (by decide)))
  have F_idle_ob := F_idle_ob.other W8 (Or.inr (slot_ne (Or.inr (hw _ (own_m 29 rfl))) (Or.inr (hw _ (own_m 25 rfl))) (by decide) (t := .int) (t' := (.array .int)) (by decide) (by decide)))
  have V_a1 := V_a1.other W8 ne_a1_ob
  have V_a2 := V_a2.other W8 ne_a2_ob
  have V_a3 := V_a3.other W8 ne_a3_ob
  have E_a1 := E_a1.wr W8
  have E_a2 := E_a2.wr W8
  have E_a3 := E_a3.wr W8
  have Zle := Nat.le_trans Zle (Keep.of_wr W8).1
  have K_ := K_.wr W8 (Or.inl (List.mem_of_getElem? (i := 0) rfl))
  have F_step_ob := F_step_ob.other W8 (Or.inr (slot_ne (Or.inr (hw _ (own_m 12 rfl))) (Or.inr (hw _ (own_m 25 rfl))) (by decide) (t := .int) (t' := (.array .int)) (by decide) (by decide)))
  have E_b3 := E_b3.wr W8
  have V_b3 := V_b3.other W8 ne_ob_b3.symm
  have F_clusterIds_ob := F_clusterIds_ob.other W8 (Or.inr (slot_ne (Or.inr (hw _ (own_m 23 rfl))) (Or.inr (hw _ (own_m 25 rfl))) (by decide) (t := (.array .int)) (t' := (.array .int)) (by decide) (by decide)))
  have E_b6 := E_b6.wr W8
  have V_b6 := V_b6.other W8 ne_ob_b6.symm
  have F_costs_ob := F_costs_ob_
  have N_ := Fr.snoc X8 N_ g_ob
  refine own_by (T' := T8) (g' := (mkF m 31 #[.val (.ref ob), .val (.int p1), .val (.ref a1), .val (.ref a2), .val (.ref a3), .val (.int p2)] [])) (fun t k => st8 t k) ?_
  refine own_by (T' := T8) (g' := (mkF m 32 #[.val (.ref ob), .val (.int p1), .val (.ref a1), .val (.ref a2), .val (.ref a3), .val (.int p2)] [(.ref ob)])) (fun t k => XS.aloadN X8.here hx rfl (hb hby d1_31) rfl rfl k) ?_
  refine own_by (T' := T8) (g' := (mkF m 34 #[.val (.ref ob), .val (.int p1), .val (.ref a1), .val (.ref a2), .val (.ref a3), .val (.int p2)] [(.ref a3), (.ref ob)])) (fun t k => XS.aload X8.here hx rfl (hb hby d1_32) rfl rfl k) ?_
  obtain ⟨T9, h9, X9, e9, E9, A9, AE9, st9⟩ := cloneH X8 hx hZ hown (hw _ (own_m 13 rfl)) (hw _ (own_m 14 rfl)) (hw _ (own_m 18 rfl)) (hw _ (own_m 16 rfl)) (hw _ (own_m 17 rfl)) (hw _ (own_m 19 rfl)) e8 V_a3.arh E_a3 (g := (mkF m 34 #[.val (.ref ob), .val (.int p1), .val (.ref a1), .val (.ref a2), .val (.ref a3), .val (.int p2)] [(.ref a3), (.ref ob)])) rfl (by rw [hml]; rfl) rfl (hb hby d1_34) (by decide) (W := 1) (cap := 1) (own_le rfl) (by decide) (by decide) (by decide) (by decide)
  obtain ⟨b9, g9⟩ : ∃ z, z = h8.size := ⟨_, rfl⟩
  rw [← g9] at A9 AE9 st9
  have ne_ob_b9 : ob ≠ b9 := Nat.ne_of_lt (Nat.lt_of_lt_of_eq E_ob.lt g9.symm)
  have ne_a1_b9 : a1 ≠ b9 := Nat.ne_of_lt (Nat.lt_of_lt_of_eq V_a1.lt g9.symm)
  have ne_a2_b9 : a2 ≠ b9 := Nat.ne_of_lt (Nat.lt_of_lt_of_eq V_a2.lt g9.symm)
  have ne_a3_b9 : a3 ≠ b9 := Nat.ne_of_lt (Nat.lt_of_lt_of_eq V_a3.lt g9.symm)
  have ne_b3_b9 : b3 ≠ b9 := Nat.ne_of_lt (Nat.lt_of_lt_of_eq E_b3.lt g9.symm)
  have ne_b6_b9 : b6 ≠ b9 := Nat.ne_of_lt (Nat.lt_of_lt_of_eq E_b6.lt g9.symm)
  have g_b9 : n0 ≤ b9 := Nat.le_trans Zle (Nat.le_of_eq g9.symm)
  have sz_b9 : h0.size ≤ b9 := Nat.le_trans K_.1 (Nat.le_of_eq g9.symm)
  have E_ob := E_ob.ext E9
  have F_targeting_ob := F_targeting_ob.ext E9
  have F_idle_ob := F_idle_ob.ext E9
  have V_a1 := V_a1.ext E9
  have V_a2 := V_a2.ext E9
  have V_a3 := V_a3.ext E9
  have E_a1 := E_a1.ext E9
  have E_a2 := E_a2.ext E9
  have E_a3 := E_a3.ext E9
  have Zle := Nat.le_trans Zle E9.1
  have K_ := K_.ext E9
  have F_step_ob := F_step_ob.ext E9
  have E_b3 := E_b3.ext E9
  have V_b3 := V_b3.ext E9
  have F_clusterIds_ob := F_clusterIds_ob.ext E9
  have E_b6 := E_b6.ext E9
  have V_b6 := V_b6.ext E9
  have F_costs_ob := F_costs_ob.ext E9
  have E_b9 := AE9
  have V_b9 : Arv Z h9 b9 k3 .int (1 : Int32) [(.int w0)] (.int 0) := A9
  refine own_by (T' := T9) (g' := (mkF m 37 #[.val (.ref ob), .val (.int p1), .val (.ref a1), .val (.ref a2), .val (.ref a3), .val (.int p2)] [(.ref b9), (.ref ob)])) (fun t k => st9 t k) ?_
  obtain ⟨T10, X10, e10, st10⟩ := castY X9 hx hZ hown (hw _ (own_m 20 rfl)) e9 (Ins.self E_b9) (g := (mkF m 37 #[.val (.ref ob), .val (.int p1), .val (.ref a1), .val (.ref a2), .val (.ref a3), .val (.int p2)] [(.ref b9), (.ref ob)])) rfl rfl (hb hby d1_37)
  refine own_by (T' := T10) (g' := (mkF m 40 #[.val (.ref ob), .val (.int p1), .val (.ref a1), .val (.ref a2), .val (.ref a3), .val (.int p2)] [(.ref b9), (.ref ob)])) (fun t k => st10 t k) ?_
  obtain ⟨T11, h11, X11, e11, W11, st11⟩ := putF X10 hx hZ hown (host := "") (Or.inl (hw _ (own_m 26 rfl))) Via.refl e10 F_targeting_ob E_ob (Or.inr ⟨(hw _ (own_m 27 rfl)), rfl, hnm⟩) (hw _ (own_m 3 rfl)) (ty := (.array .int)) (by decide) rfl rfl (g := (mkF m 40 #[.val (.ref ob), .val (.int p1), .val (.ref a1), .val (.ref a2), .val (.ref a3), .val (.int p2)] [(.ref b9), (.ref ob)])) rfl rfl (hb hby d1_40)
  have F_targeting_ob_ := F_targeting_ob.same W11
  have E_ob := E_ob.wr W11
  have F_idle_ob := F_idle_ob.other W11 (Or.inr (slot_ne (Or.inr (hw _ (own_m 29 rfl))) (Or.inr (hw _ (own_m 27 rfl))) (by decide) (t := .int) (t' := (.array .int)) (by decide) (by decide)))
  have V_a1 := V_a1.other W11 ne_a1_ob
  have V_a2 := V_a2.other W11 ne_a2_ob
  have V_a3 := V_a3.other W11 ne_a3_ob
  have E_a1 := E_a1.wr W11
  have E_a2 := E_a2.wr W11
  have E_a3 := E_a3.wr W11
  have Zle := Nat.le_trans Zle (Keep.of_wr W11).1
  have K_ := K_.wr W11 (Or.inl (List.mem_of_getElem? (i := 0) rfl))
  have F_step_ob := F_step_ob.other W11 (Or.inr (slot_ne (Or.inr (hw _ (own_m 12 rfl))) (Or.inr (hw _ (own_m 27 rfl))) (by decide) (t := .int) (t' := (.array .int)) (by decide) (by decide)))
  have E_b3 := E_b3.wr W11
  have V_b3 := V_b3.other W11 ne_ob_b3.symm
  have F_clusterIds_ob := F_clusterIds_ob.other W11 (Or.inr (slot_ne (Or.inr (hw _ (own_m 23 rfl))) (Or.inr (hw _ (own_m 27 rfl))) (by decide) (t := (.array .int)) (t' := (.array .int)) (by decide) (by decide)))
  have E_b6 := E_b6.wr W11
  have V_b6 := V_b6.other W11 ne_ob_b6.symm
  have F_costs_ob := F_costs_ob.other W11 (Or.inr (slot_ne (Or.inr (hw _ (own_m 25 rfl))) (Or.inr (hw _ (own_m 27 rfl))) (by decide) (t := (.array .int)) (t' := (.array .int)) (by decide) (by decide)))
  have E_b9 := E_b9.wr W11
  have V_b9 := V_b9.other W11 ne_ob_b9.symm
  have F_targeting_ob := F_targeting_ob_
  have N_ := Fr.snoc X11 N_ g_ob
  refine own_by (T' := T11) (g' := (mkF m 43 #[.val (.ref ob), .val (.int p1), .val (.ref a1), .val (.ref a2), .val (.ref a3), .val (.int p2)] [])) (fun t k => st11 t k) ?_
  refine own_by (T' := T11) (g' := (mkF m 44 #[.val (.ref ob), .val (.int p1), .val (.ref a1), .val (.ref a2), .val (.ref a3), .val (.int p2)] [(.ref ob)])) (fun t k => XS.aloadN X11.here hx rfl (hb hby d1_43) rfl rfl k) ?_
  refine own_by (T' := T11) (g' := (mkF m 46 #[.val (.ref ob), .val (.int p1), .val (.ref a1), .val (.ref a2), .val (.ref a3), .val (.int p2)] [(.int p2), (.ref ob)])) (fun t k => XS.iload X11.here hx rfl (hb hby d1_44) rfl k) ?_
  obtain ⟨T12, h12, X12, e12, W12, st12⟩ := putF X11 hx hZ hown (host := "") (Or.inl (hw _ (own_m 28 rfl))) Via.refl e11 F_idle_ob E_ob (Or.inr ⟨(hw _ (own_m 29 rfl)), rfl, hnm⟩) (hw _ (own_m 3 rfl)) (ty := .int) (by decide) rfl rfl (g := (mkF m 46 #[.val (.ref ob), .val (.int p1), .val (.ref a1), .val (.ref a2), .val (.ref a3), .val (.int p2)] [(.int p2), (.ref ob)])) rfl rfl (hb hby d1_46)
  have F_idle_ob_ := F_idle_ob.same W12
  have E_ob := E_ob.wr W12
  have V_a1 := V_a1.other W12 ne_a1_ob
  have V_a2 := V_a2.other W12 ne_a2_ob
  have V_a3 := V_a3.other W12 ne_a3_ob
  have E_a1 := E_a1.wr W12
  have E_a2 := E_a2.wr W12
  have E_a3 := E_a3.wr W12
  have Zle := Nat.le_trans Zle (Keep.of_wr W12).1
  have K_ := K_.wr W12 (Or.inl (List.mem_of_getElem? (i := 0) rfl))
  have F_step_ob := F_step_ob.other W12 (Or.inr (slot_ne (Or.inr (hw _ (own_m 12 rfl))) (Or.inr (hw _ (own_m 29 rfl))) (by decide) (t := .int) (t' := .int) (by decide) (by decide)))
  have E_b3 := E_b3.wr W12
  have V_b3 := V_b3.other W12 ne_ob_b3.symm
  have F_clusterIds_ob := F_clusterIds_ob.other W12 (Or.inr (slot_ne (Or.inr (hw _ (own_m 23 rfl))) (Or.inr (hw _ (own_m 29 rfl))) (by decide) (t := (.array .int)) (t' := .int) (by decide) (by decide)))
  have E_b6 := E_b6.wr W12
  have V_b6 := V_b6.other W12 ne_ob_b6.symm
  have F_costs_ob := F_costs_ob.other W12 (Or.inr (slot_ne (Or.inr (hw _ (own_m 25 rfl))) (Or.inr (hw _ (own_m 29 rfl))) (by decide) (t := (.array .int)) (t' := .int) (by decide) (by decide)))
  have E_b9 := E_b9.wr W12
  have V_b9 := V_b9.other W12 ne_ob_b9.symm
  have F_targeting_ob := F_targeting_ob.other W12 (Or.inr (slot_ne (Or.inr (hw _ (own_m 27 rfl))) (Or.inr (hw _ (own_m 29 rfl))) (by decide) (t := (.array .int)) (t' := .int) (by decide) (by decide)))
  have F_idle_ob := F_idle_ob_
  have N_ := Fr.snoc X12 N_ g_ob
  refine own_by (T' := T12) (g' := (mkF m 49 #[.val (.ref ob), .val (.int p1), .val (.ref a1), .val (.ref a2), .val (.ref a3), .val (.int p2)] [])) (fun t k => st12 t k) ?_
  exact own_retV X12 hx Bd.notSynchronized Bd.returns (hb hby d1_49) (by decide) (by decide) (by rw [e12]; exact ⟨b6, rfl, N_, K_, E_ob, sz_b6, F_costs_ob, V_b6⟩)

theorem ef_3n1 (m : MethodId) (ob : Addr) : entryFrame m #[(.ref ob)] 6 = mkF m 0 #[.val (.ref ob), .unset, .unset, .unset, .unset, .unset] [] := by first | (simp [entryFrame, mkF, argsToLocals, Value.category]; done) | rfl
theorem d3_19 : decode prog_30_method_3_code 19 = .ok (.aload_n 2, 1) := by decide +kernel
theorem d3_20 : decode prog_30_method_3_code 20 = .ok (.iload 4, 2) := by decide +kernel
theorem d3_22 : decode prog_30_method_3_code 22 = .ok (.iaload, 1) := by decide +kernel
theorem d3_23 : decode prog_30_method_3_code 23 = .ok (.istore 5, 2) := by decide +kernel
theorem d3_25 : decode prog_30_method_3_code 25 = .ok (.iload_n 1, 1) := by decide +kernel
theorem d3_26 : decode prog_30_method_3_code 26 = .ok (.iload 5, 2) := by decide +kernel
theorem d3_28 : decode prog_30_method_3_code 28 = .ok (.iadd, 1) := by decide +kernel
theorem d3_29 : decode prog_30_method_3_code 29 = .ok (.istore_n 1, 1) := by decide +kernel
theorem d3_30 : decode prog_30_method_3_code 30 = .ok (.iinc 4 1, 3) := by decide +kernel
theorem d3_33 : decode prog_30_method_3_code 33 = .ok (.goto (-20), 3) := by decide +kernel
def Q3n1 (Z : State) (ob : Addr) (tt : Addr) (k2 : ClassId) (v0 : Int32) (h0 : Heap) (n0 : Nat) (v : Option Value) (h : Heap) (L : List Loc) : Prop := v = some (.int ((0 : Int32) + v0)) ∧ Fr n0 L ∧ h = h0
set_option maxRecDepth 65536 in
set_option maxHeartbeats 40000000 in
theorem rm3n1 (l : Launch) (Z : State) (a0 : Array Value) (hw : ∀ d ∈ tables_1, d.before a0 Z = true) (ws : List Jvm.Cond) (ob : Addr) (tt : Addr) (k2 : ClassId) (v0 : Int32) (h0 : Heap) (n0 : Nat) (Zle : n0 ≤ h0.size) (F_costs_ob : Fld Z h0 ob "com/example/firebreak/firebreak/core/MapStep" "costs" "[I" (.ref tt)) (V_tt : Arv Z h0 tt k2 .int (1 : Int32) [(.int v0)] (.int 0)) :
    MetFree l (⟨"com/example/firebreak/firebreak/core/MapStep", "getBurning", "()I"⟩ : MethodName) (head1 (Jvm.Cond.code (⟨"com/example/firebreak/firebreak/core/MapStep", "getBurning", "()I"⟩ : MethodName) prog_30_method_3_code 6 (some .int) :: ws) ({ frames := 0, cells := 0, slots := 0, locals := 0 } : Room)) (fun a U => a = #[(.ref ob)] ∧ Z.Warmed39 U.vm ∧ U.heap = h0) (fun _ _ _ _ _ => True) (fun _ U o U' => ∃ v L, o = .returned v ∧ Q3n1 Z ob tt k2 v0 h0 n0 v U'.heap L ∧ FrameEnd U o U' L ({ frames := 0, cells := 0, slots := 0, locals := 0 } : Room).cells ({ frames := 0, cells := 0, slots := 0, locals := 0 } : Room).slots) := by
  refine MetFree.of_bodySF (plainFor_of_name pn_com_example_firebreak_firebreak_core_MapStep) hisR ?_
  intro p e s m args below meth c s₁ Bd hml0 hP hK
  obtain ⟨rfl, hZ, hh⟩ := hP
  have hx := Bd.exec
  have hby := Bd.bytes
  have hml : c.maxLocals = 6 := hml0
  have hown : s.vm.findClass "com/example/firebreak/firebreak/core/MapStep" = some m.cls := findClass_of_methodNamed Bd.named
  have hnm := (name_of_methodNamed Bd.named Bd.method).1
  have X0 : Stand p l e ({ frames := 0, cells := 0, slots := 0, locals := 0 } : Room) s m #[(.ref ob)] below meth c s₁ [] 0 0 := Stand.of_body Bd
  have e0 : s₁.heap = h0 := by rw [← hh, Bd.state]; rfl
  have N_ := Fr.nil n0
  show own_Goes p.tables e below s (Q3n1 Z ob tt k2 v0 h0 n0) ({ frames := 0, cells := 0, slots := 0, locals := 0 } : Room).cells ({ frames := 0, cells := 0, slots := 0, locals := 0 } : Room).slots s₁ (entryFrame m #[(.ref ob)] 6)
  refine own_by (T' := s₁) (g' := (mkF m 0 #[.val (.ref ob), .unset, .unset, .unset, .unset, .unset] [])) (fun t k => castTop (ef_3n1 m ob) k) ?_
  refine own_by (T' := s₁) (g' := (mkF m 1 #[.val (.ref ob), .unset, .unset, .unset, .unset, .unset] [(.int 0)])) (fun t k => XS.iconst X0.here hx rfl (hb hby d3_0) k) ?_
  refine own_by (T' := s₁) (g' := (mkF m 2 #[.val (.ref ob), .val (.int 0), .unset, .unset, .unset, .unset] [])) (fun t k => XS.istoreN X0.here hx rfl (hb hby d3_1) rfl (l' := #[.val (.ref ob), .val (.int 0), .unset, .unset, .unset, .unset]) rfl k) ?_
  refine own_by (T' := s₁) (g' := (mkF m 3 #[.val (.ref ob), .val (.int 0), .unset, .unset, .unset, .unset] [(.ref ob)])) (fun t k => XS.aloadN X0.here hx rfl (hb hby d3_2) rfl rfl k) ?_
  obtain ⟨T1, X1, e1, st1⟩ := getF X0 hx hZ hown (host := "") (Or.inl (hw _ (own_m 24 rfl))) Via.refl e0 F_costs_ob (g := (mkF m 3 #[.val (.ref ob), .val (.int 0), .unset, .unset, .unset, .unset] [(.ref ob)])) rfl rfl (hb hby d3_3)
  refine own_by (T' := T1) (g' := (mkF m 6 #[.val (.ref ob), .val (.int 0), .unset, .unset, .unset, .unset] [(.ref tt)])) (fun t k => st1 t k) ?_
  refine own_by (T' := T1) (g' := (mkF m 7 #[.val (.ref ob), .val (.int 0), .val (.ref tt), .unset, .unset, .unset] [])) (fun t k => XS.astoreN X1.here hx rfl (hb hby d3_6) rfl rfl (l' := #[.val (.ref ob), .val (.int 0), .val (.ref tt), .unset, .unset, .unset]) rfl k) ?_
  refine own_by (T' := T1) (g' := (mkF m 8 #[.val (.ref ob), .val (.int 0), .val (.ref tt), .unset, .unset, .unset] [(.ref tt)])) (fun t k => XS.aloadN X1.here hx rfl (hb hby d3_7) rfl rfl k) ?_
  obtain ⟨cl2, Ar2, -, S2, N2, -, -⟩ := id V_tt
  have st2 : ∀ t, Steps p.tables e below (T1.setTop (mkF m 9 #[.val (.ref ob), .val (.int 0), .val (.ref tt), .unset, .unset, .unset] [(.int 1)])) t → Steps p.tables e below (T1.setTop (mkF m 8 #[.val (.ref ob), .val (.int 0), .val (.ref tt), .unset, .unset, .unset] [(.ref tt)])) t := fun t k => X1.arraylength hx (by rw [e1]; exact Ar2.1) (State.isArrayOf_alike hZ.alike Ar2.2.1) (g := (mkF m 8 #[.val (.ref ob), .val (.int 0), .val (.ref tt), .unset, .unset, .unset] [(.ref tt)])) rfl rfl (hb hby d3_8) _ (by rw [len_of S2 N2]; exact k)
  refine own_by (T' := T1) (g' := (mkF m 9 #[.val (.ref ob), .val (.int 0), .val (.ref tt), .unset, .unset, .unset] [(.int 1)])) (fun t k => st2 t k) ?_
  refine own_by (T' := T1) (g' := (mkF m 10 #[.val (.ref ob), .val (.int 0), .val (.ref tt), .val (.int 1), .unset, .unset] [])) (fun t k => XS.istoreN X1.here hx rfl (hb hby d3_9) rfl (l' := #[.val (.ref ob), .val (.int 0), .val (.ref tt), .val (.int 1), .unset, .unset]) rfl k) ?_
  refine own_by (T' := T1) (g' := (mkF m 11 #[.val (.ref ob), .val (.int 0), .val (.ref tt), .val (.int 1), .unset, .unset] [(.int 0)])) (fun t k => XS.iconst X1.here hx rfl (hb hby d3_10) k) ?_
  refine own_by (T' := T1) (g' := (mkF m 13 #[.val (.ref ob), .val (.int 0), .val (.ref tt), .val (.int 1), .val (.int 0), .unset] [])) (fun t k => XS.istore X1.here hx rfl (hb hby d3_11) rfl (l' := #[.val (.ref ob), .val (.int 0), .val (.ref tt), .val (.int 1), .val (.int 0), .unset]) rfl k) ?_
  refine own_by (T' := T1) (g' := (mkF m 15 #[.val (.ref ob), .val (.int 0), .val (.ref tt), .val (.int 1), .val (.int 0), .unset] [(.int 0)])) (fun t k => XS.iload X1.here hx rfl (hb hby d3_13) rfl k) ?_
  refine own_by (T' := T1) (g' := (mkF m 16 #[.val (.ref ob), .val (.int 0), .val (.ref tt), .val (.int 1), .val (.int 0), .unset] [(.int 1), (.int 0)])) (fun t k => XS.iloadN X1.here hx rfl (hb hby d3_15) rfl k) ?_
  refine own_by (T' := T1) (g' := (mkF m 19 #[.val (.ref ob), .val (.int 0), .val (.ref tt), .val (.int 1), .val (.int 0), .unset] [])) (fun t k => XS.icmpNo X1.here hx rfl (hb hby d3_16) rfl (tlt (by decide)).2.1 k) ?_
  refine own_by (T' := T1) (g' := (mkF m 20 #[.val (.ref ob), .val (.int 0), .val (.ref tt), .val (.int 1), .val (.int 0), .unset] [(.ref tt)])) (fun t k => XS.aloadN X1.here hx rfl (hb hby d3_19) rfl rfl k) ?_
  refine own_by (T' := T1) (g' := (mkF m 22 #[.val (.ref ob), .val (.int 0), .val (.ref tt), .val (.int 1), .val (.int 0), .unset] [(.int 0), (.ref tt)])) (fun t k => XS.iload X1.here hx rfl (hb hby d3_20) rfl k) ?_
  obtain ⟨cl3, Ar3, q3, S3, N3, Hs3, G3⟩ := id V_tt
  have hin3 : ¬ ((0 : Int32) < 0 ∨ cl3.slots.size ≤ ((0 : Int32)).toNatClampNeg) := inb_of S3 ⟨by decide, by decide⟩
  have hat3 : cl3.slots[((0 : Int32)).toNatClampNeg]? = some (.int v0) := Hs3.at hin3 rfl
  refine own_by (T' := T1) (g' := (mkF m 23 #[.val (.ref ob), .val (.int 0), .val (.ref tt), .val (.int 1), .val (.int 0), .unset] [(.int v0)])) (fun t k => X1.iaload hx (j := (0 : Int32)) (v := (.int v0)) (by rw [e1]; exact Ar3.1) (State.isArrayOf_alike hZ.alike Ar3.2.1) Ar3.2.2 hin3 hat3 (g := (mkF m 22 #[.val (.ref ob), .val (.int 0), .val (.ref tt), .val (.int 1), .val (.int 0), .unset] [(.int 0), (.ref tt)])) rfl rfl (hb hby d3_22) _ k) ?_
  refine own_by (T' := T1) (g' := (mkF m 25 #[.val (.ref ob), .val (.int 0), .val (.ref tt), .val (.int 1), .val (.int 0), .val (.int v0)] [])) (fun t k => XS.istore X1.here hx rfl (hb hby d3_23) rfl (l' := #[.val (.ref ob), .val (.int 0), .val (.ref tt), .val (.int 1), .val (.int 0), .val (.int v0)]) rfl k) ?_
  refine own_by (T' := T1) (g' := (mkF m 26 #[.val (.ref ob), .val (.int 0), .val (.ref tt), .val (.int 1), .val (.int 0), .val (.int v0)] [(.int 0)])) (fun t k => XS.iloadN X1.here hx rfl (hb hby d3_25) rfl k) ?_
  refine own_by (T' := T1) (g' := (mkF m 28 #[.val (.ref ob), .val (.int 0), .val (.ref tt), .val (.int 1), .val (.int 0), .val (.int v0)] [(.int v0), (.int 0)])) (fun t k => XS.iload X1.here hx rfl (hb hby d3_26) rfl k) ?_
  refine own_by (T' := T1) (g' := (mkF m 29 #[.val (.ref ob), .val (.int 0), .val (.ref tt), .val (.int 1), .val (.int 0), .val (.int v0)] [(.int ((0 : Int32) + v0))])) (fun t k => XS.iadd X1.here hx rfl (hb hby d3_28) rfl k) ?_
  refine own_by (T' := T1) (g' := (mkF m 30 #[.val (.ref ob), .val (.int ((0 : Int32) + v0)), .val (.ref tt), .val (.int 1), .val (.int 0), .val (.int v0)] [])) (fun t k => XS.istoreN X1.here hx rfl (hb hby d3_29) rfl (l' := #[.val (.ref ob), .val (.int ((0 : Int32) + v0)), .val (.ref tt), .val (.int 1), .val (.int 0), .val (.int v0)]) rfl k) ?_
  refine own_by (T' := T1) (g' := (mkF m 33 #[.val (.ref ob), .val (.int ((0 : Int32) + v0)), .val (.ref tt), .val (.int 1), .val (.int 1), .val (.int v0)] [])) (fun t k => XS.iinc X1.here hx rfl (hb hby d3_30) rfl (l' := #[.val (.ref ob), .val (.int ((0 : Int32) + v0)), .val (.ref tt), .val (.int 1), .val (.int 1), .val (.int v0)]) rfl k) ?_
  refine own_by (T' := T1) (g' := (mkF m 13 #[.val (.ref ob), .val (.int ((0 : Int32) + v0)), .val (.ref tt), .val (.int 1), .val (.int 1), .val (.int v0)] [])) (fun t k => XS.goto X1.here hx rfl (pc0 := 33) (pc' := 13) rfl (hb hby d3_33) (by decide) (by decide) k) ?_
  refine own_by (T' := T1) (g' := (mkF m 15 #[.val (.ref ob), .val (.int ((0 : Int32) + v0)), .val (.ref tt), .val (.int 1), .val (.int 1), .val (.int v0)] [(.int 1)])) (fun t k => XS.iload X1.here hx rfl (hb hby d3_13) rfl k) ?_
  refine own_by (T' := T1) (g' := (mkF m 16 #[.val (.ref ob), .val (.int ((0 : Int32) + v0)), .val (.ref tt), .val (.int 1), .val (.int 1), .val (.int v0)] [(.int 1), (.int 1)])) (fun t k => XS.iloadN X1.here hx rfl (hb hby d3_15) rfl k) ?_
  refine own_by (T' := T1) (g' := (mkF m 36 #[.val (.ref ob), .val (.int ((0 : Int32) + v0)), .val (.ref tt), .val (.int 1), .val (.int 1), .val (.int v0)] [])) (fun t k => XS.icmpYes X1.here hx rfl (pc0 := 16) (pc' := 36) rfl (hb hby d3_16) rfl (flt (by decide)).2.1 (by decide) (by decide) k) ?_
  refine own_by (T' := T1) (g' := (mkF m 37 #[.val (.ref ob), .val (.int ((0 : Int32) + v0)), .val (.ref tt), .val (.int 1), .val (.int 1), .val (.int v0)] [(.int ((0 : Int32) + v0))])) (fun t k => XS.iloadN X1.here hx rfl (hb hby d3_36) rfl k) ?_
  exact own_retI X1 hx Bd.notSynchronized Bd.returns (hb hby d3_37) (by decide) (by decide) (by rw [e1]; exact ⟨rfl, N_, rfl⟩)

theorem ef_1n2 (m : MethodId) (ob : Addr) (p1 : Int32) (a1 : Addr) (a2 : Addr) (a3 : Addr) (p2 : Int32) : entryFrame m #[(.ref ob), (.int p1), (.ref a1), (.ref a2), (.ref a3), (.int p2)] 6 = mkF m 0 #[.val (.ref ob), .val (.int p1), .val (.ref a1), .val (.ref a2), .val (.ref a3), .val (.int p2)] [] := by first | (simp [entryFrame, mkF, argsToLocals, Value.category]; done) | rfl
def Q1n2 (Z : State) (ob : Addr) (p1 : Int32) (a1 : Addr) (a2 : Addr) (a3 : Addr) (p2 : Int32) (k1 : ClassId) (k2 : ClassId) (k3 : ClassId) (u0 : Int32) (u1 : Int32) (v0 : Int32) (v1 : Int32) (w0 : Int32) (w1 : Int32) (h0 : Heap) (n0 : Nat) (v : Option Value) (h : Heap) (L : List Loc) : Prop := ∃ t2 : Addr, v = none ∧ Fr n0 L ∧ Keep h0 h [ob] ∧ Exa Z h ob "com/example/firebreak/firebreak/core/MapStep" ∧ h0.size ≤ t2 ∧ Fld Z h ob "com/example/firebreak/firebreak/core/MapStep" "costs" "[I" (.ref t2) ∧ Arv Z h t2 k2 .int (2 : Int32) [(.int v0), (.int v1)] (.int 0)
set_option maxRecDepth 65536 in
set_option maxHeartbeats 40000000 in
theorem rm1n2 (l : Launch) (Z : State) (a0 : Array Value) (hw : ∀ d ∈ tables_1, d.before a0 Z = true) (ws : List Jvm.Cond) (ob : Addr) (p1 : Int32) (a1 : Addr) (a2 : Addr) (a3 : Addr) (p2 : Int32) (k1 : ClassId) (k2 : ClassId) (k3 : ClassId) (u0 : Int32) (u1 : Int32) (v0 : Int32) (v1 : Int32) (w0 : Int32) (w1 : Int32) (h0 : Heap) (n0 : Nat) (Zle : n0 ≤ h0.size) (E_ob : Exa Z h0 ob "com/example/firebreak/firebreak/core/MapStep") (g_ob : n0 ≤ ob) (F_step_ob : Fld Z h0 ob "com/example/firebreak/firebreak/core/MapStep" "step" "I" (.int 0)) (F_clusterIds_ob : Fld Z h0 ob "com/example/firebreak/firebreak/core/MapStep" "clusterIds" "[I" .null) (F_costs_ob : Fld Z h0 ob "com/example/firebreak/firebreak/core/MapStep" "costs" "[I" .null) (F_targeting_ob : Fld Z h0 ob "com/example/firebreak/firebreak/core/MapStep" "targeting" "[I" .null) (F_idle_ob : Fld Z h0 ob "com/example/firebreak/firebreak/core/MapStep" "idle" "I" (.int 0)) (V_a1 : Arv Z h0 a1 k1 .int (2 : Int32) [(.int u0), (.int u1)] (.int 0)) (V_a2 : Arv Z h0 a2 k2 .int (2 : Int32) [(.int v0), (.int v1)] (.int 0)) (V_a3 : Arv Z h0 a3 k3 .int (2 : Int32) [(.int w0), (.int w1)] (.int 0)) (E_a1 : Exa Z h0 a1 "[I") (E_a2 : Exa Z h0 a2 "[I") (E_a3 : Exa Z h0 a3 "[I") (ne_a1_ob : a1 ≠ ob) (ne_a2_ob : a2 ≠ ob) (ne_a3_ob : a3 ≠ ob) :
    MetFree l (⟨"com/example/firebreak/firebreak/core/MapStep", "<init>", "(I[I[I[II)V"⟩ : MethodName) (head1 (Jvm.Cond.code (⟨"com/example/firebreak/firebreak/core/MapStep", "<init>", "(I[I[I[II)V"⟩ : MethodName) prog_30_method_1_code 6 none :: ws) ({ frames := 1, cells := 3, slots := 6, locals := 16 } : Room)) (fun a U => a = #[(.ref ob), (.int p1), (.ref a1), (.ref a2), (.ref a3), (.int p2)] ∧ Z.Warmed39 U.vm ∧ U.heap = h0) (fun _ _ _ _ _ => True) (fun _ U o U' => ∃ v L, o = .returned v ∧ Q1n2 Z ob p1 a1 a2 a3 p2 k1 k2 k3 u0 u1 v0 v1 w0 w1 h0 n0 v U'.heap L ∧ FrameEnd U o U' L ({ frames := 1, cells := 3, slots := 6, locals := 16 } : Room).cells ({ frames := 1, cells := 3, slots := 6, locals := 16 } : Room).slots) := by
  refine MetFree.of_bodySF (plainFor_of_name pn_com_example_firebreak_firebreak_core_MapStep) hisR ?_
  intro p e s m args below meth c s₁ Bd hml0 hP hK
  obtain ⟨rfl, hZ, hh⟩ := hP
  have hx := Bd.exec
  have hby := Bd.bytes
  have hml : c.maxLocals = 6 := hml0
  have hown : s.vm.findClass "com/example/firebreak/firebreak/core/MapStep" = some m.cls := findClass_of_methodNamed Bd.named
  have hnm := (name_of_methodNamed Bd.named Bd.method).1
  have X0 : Stand p l e ({ frames := 1, cells := 3, slots := 6, locals := 16 } : Room) s m #[(.ref ob), (.int p1), (.ref a1), (.ref a2), (.ref a3), (.int p2)] below meth c s₁ [] 0 0 := Stand.of_body Bd
  have e0 : s₁.heap = h0 := by rw [← hh, Bd.state]; rfl
  have N_ := Fr.nil n0
  have K_ := Keep.refl h0 [ob]
  show own_Goes p.tables e below s (Q1n2 Z ob p1 a1 a2 a3 p2 k1 k2 k3 u0 u1 v0 v1 w0 w1 h0 n0) ({ frames := 1, cells := 3, slots := 6, locals := 16 } : Room).cells ({ frames := 1, cells := 3, slots := 6, locals := 16 } : Room).slots s₁ (entryFrame m #[(.ref ob), (.int p1), (.ref a1), (.ref a2), (.ref a3), (.int p2)] 6)
  refine own_by (T' := s₁) (g' := (mkF m 0 #[.val (.ref ob), .val (.int p1), .val (.ref a1), .val (.ref a2), .val (.ref a3), .val (.int p2)] [])) (fun t k => castTop (ef_1n2 m ob p1 a1 a2 a3 p2) k) ?_
  refine own_by (T' := s₁) (g' := (mkF m 1 #[.val (.ref ob), .val (.int p1), .val (.ref a1), .val (.ref a2), .val (.ref a3), .val (.int p2)] [(.ref ob)])) (fun t k => XS.aloadN X0.here hx rfl (hb hby d1_0) rfl rfl k) ?_
  obtain ⟨T1, X1, e1, st1⟩ := initO X0 hx hZ hown (hw _ (own_m 8 rfl)) (hw _ (own_m 9 rfl)) (hw _ (own_m 10 rfl)) e0 (g := (mkF m 1 #[.val (.ref ob), .val (.int p1), .val (.ref a1), .val (.ref a2), .val (.ref a3), .val (.int p2)] [(.ref ob)])) rfl (by rw [hml]; rfl) rfl (hb hby d1_1) (by decide) (W := 0) (own_le rfl) (by decide)
  refine own_by (T' := T1) (g' := (mkF m 4 #[.val (.ref ob), .val (.int p1), .val (.ref a1), .val (.ref a2), .val (.ref a3), .val (.int p2)] [])) (fun t k => st1 t k) ?_
  refine own_by (T' := T1) (g' := (mkF m 5 #[.val (.ref ob), .val (.int p1), .val (.ref a1), .val (.ref a2), .val (.ref a3), .val (.int p2)] [(.ref ob)])) (fun t k => XS.aloadN X1.here hx rfl (hb hby d1_4) rfl rfl k) ?_
  refine own_by (T' := T1) (g' := (mkF m 6 #[.val (.ref ob), .val (.int p1), .val (.ref a1), .val (.ref a2), .val (.ref a3), .val (.int p2)] [(.int p1), (.ref ob)])) (fun t k => XS.iloadN X1.here hx rfl (hb hby d1_5) rfl k) ?_
  obtain ⟨T2, h2, X2, e2, W2, st2⟩ := putF X1 hx hZ hown (host := "") (Or.inl (hw _ (own_m 11 rfl))) Via.refl e1 F_step_ob E_ob (Or.inr ⟨(hw _ (own_m 12 rfl)), rfl, hnm⟩) (hw _ (own_m 3 rfl)) (ty := .int) (by decide) rfl rfl (g := (mkF m 6 #[.val (.ref ob), .val (.int p1), .val (.ref a1), .val (.ref a2), .val (.ref a3), .val (.int p2)] [(.int p1), (.ref ob)])) rfl rfl (hb hby d1_6)
  have F_step_ob_ := F_step_ob.same W2
  have E_ob := E_ob.wr W2
  have F_clusterIds_ob := F_clusterIds_ob.other W2 (Or.inr (slot_ne (Or.inr (hw _ (own_m 23 rfl))) (Or.inr (hw _ (own_m 12 rfl))) (by decide) (t := (.array .int)) (t' := .int) (by decide) (by decide)))
  have F_costs_ob := F_costs_ob.other W2 (Or.inr (slot_ne (Or.inr (hw _ (own_m 25 rfl))) (Or.inr (hw _ (own_m 12 rfl))) (by decide) (t := (.array .int)) (t' := .int) (by decide) (by decide)))
  have F_targeting_ob := F_targeting_ob.other W2 (Or.inr (slot_ne (Or.inr (hw _ (own_m 27 rfl))) (Or.inr (hw _ (own_m 12 rfl))) (by decide) (t := (.array .int)) (t' := .int) (by decide) (by decide)))
  have F_idle_ob := F_idle_ob.other W2 (Or.inr (slot_ne (Or.inr (hw _ (own_m 29 rfl))) (Or.inr (hw _ (own_m 12 rfl))) (by decide) (t := .int) (t' := .int) (by decide) (by decide)))
  have V_a1 := V_a1.other W2 ne_a1_ob
  have V_a2 := V_a2.other W2 ne_a2_ob
  have V_a3 := V_a3.other W2 ne_a3_ob
  have E_a1 := E_a1.wr W2
  have E_a2 := E_a2.wr W2
  have E_a3 := E_a3.wr W2
  have Zle := Nat.le_trans Zle (Keep.of_wr W2).1
  have K_ := K_.wr W2 (Or.inl (List.mem_of_getElem? (i := 0) rfl))
  have F_step_ob := F_step_ob_
  have N_ := Fr.snoc X2 N_ g_ob
  refine own_by (T' := T2) (g' := (mkF m 9 #[.val (.ref ob), .val (.int p1), .val (.ref a1), .val (.ref a2), .val (.ref a3), .val (.int p2)] [])) (fun t k => st2 t k) ?_
  refine own_by (T' := T2) (g' := (mkF m 10 #[.val (.ref ob), .val (.int p1), .val (.ref a1), .val (.ref a2), .val (.ref a3), .val (.int p2)] [(.ref ob)])) (fun t k => XS.aloadN X2.here hx rfl (hb hby d1_9) rfl rfl k) ?_
  refine own_by (T' := T2) (g' := (mkF m 11 #[.val (.ref ob), .val (.int p1), .val (.ref a1), .val (.ref a2), .val (.ref a3), .val (.int p2)] [(.ref a1), (.ref ob)])) (fun t k => XS.aloadN X2.here hx rfl (hb hby d1_10) rfl rfl k) ?_
  obtain ⟨T3, h3, X3, e3, E3, A3, AE3, st3⟩ := cloneH X2 hx hZ hown (hw _ (own_m 13 rfl)) (hw _ (own_m 14 rfl)) (hw _ (own_m 18 rfl)) (hw _ (own_m 16 rfl)) (hw _ (own_m 17 rfl)) (hw _ (own_m 19 rfl)) e2 V_a1.arh E_a1 (g := (mkF m 11 #[.val (.ref ob), .val (.int p1), .val (.ref a1), .val (.ref a2), .val (.ref a3), .val (.int p2)] [(.ref a1), (.ref ob)])) rfl (by rw [hml]; rfl) rfl (hb hby d1_11) (by decide) (W := 1) (cap := 2) (own_le rfl) (by decide) (by decide) (by decide) (by decide)
  obtain ⟨b3, g3⟩ : ∃ z, z = h2.size := ⟨_, rfl⟩
  rw [← g3] at A3 AE3 st3
  have ne_ob_b3 : ob ≠ b3 := Nat.ne_of_lt (Nat.lt_of_lt_of_eq E_ob.lt g3.symm)
  have ne_a1_b3 : a1 ≠ b3 := Nat.ne_of_lt (Nat.lt_of_lt_of_eq V_a1.lt g3.symm)
  have ne_a2_b3 : a2 ≠ b3 := Nat.ne_of_lt (Nat.lt_of_lt_of_eq V_a2.lt g3.symm)
  have ne_a3_b3 : a3 ≠ b3 := Nat.ne_of_lt (Nat.lt_of_lt_of_eq V_a3.lt g3.symm)
  have g_b3 : n0 ≤ b3 := Nat.le_trans Zle (Nat.le_of_eq g3.symm)
  have sz_b3 : h0.size ≤ b3 := Nat.le_trans K_.1 (Nat.le_of_eq g3.symm)
  have E_ob := E_ob.ext E3
  have F_clusterIds_ob := F_clusterIds_ob.ext E3
  have F_costs_ob := F_costs_ob.ext E3
  have F_targeting_ob := F_targeting_ob.ext E3
  have F_idle_ob := F_idle_ob.ext E3
  have V_a1 := V_a1.ext E3
  have V_a2 := V_a2.ext E3
  have V_a3 := V_a3.ext E3
  have E_a1 := E_a1.ext E3
  have E_a2 := E_a2.ext E3
  have E_a3 := E_a3.ext E3
  have Zle := Nat.le_trans Zle E3.1
  have K_ := K_.ext E3
  have F_step_ob := F_step_ob.ext E3
  have E_b3 := AE3
  have V_b3 : Arv Z h3 b3 k1 .int (2 : Int32) [(.int u0), (.int u1)] (.int 0) := A3
  refine own_by (T' := T3) (g' := (mkF m 14 #[.val (.ref ob), .val (.int p1), .val (.ref a1), .val (.ref a2), .val (.ref a3), .val (.int p2)] [(.ref b3), (.ref ob)])) (fun t k => st3 t k) ?_
  obtain ⟨T4, X4, e4, st4⟩ := castY X3 hx hZ hown (hw _ (own_m 20 rfl)) e3 (Ins.self E_b3) (g := (mkF m 14 #[.val (.ref ob), .val (.int p1), .val (.ref a1), .val (.ref a2), .val (.ref a3), .val (.int p2)] [(.ref b3), (.ref ob)])) rfl rfl (hb hby d1_14)
  refine own_by (T' := T4) (g' := (mkF m 17 #[.val (.ref ob), .val (.int p1), .val (.ref a1), .val (.ref a2), .val (.ref a3), .val (.int p2)] [(.ref b3), (.ref ob)])) (fun t k => st4 t k) ?_
  obtain ⟨T5, h5, X5, e5, W5, st5⟩ := putF X4 hx hZ hown (host := "") (Or.inl (hw _ (own_m 22 rfl))) Via.refl e4 F_clusterIds_ob E_ob (Or.inr ⟨(hw _ (own_m 23 rfl)), rfl, hnm⟩) (hw _ (own_m 3 rfl)) (ty := (.array .int)) (by decide) rfl rfl (g := (mkF m 17 #[.val (.ref ob), .val (.int p1), .val (.ref a1), .val (.ref a2), .val (.ref a3), .val (.int p2)] [(.ref b3), (.ref ob)])) rfl rfl (hb hby d1_17)
  have F_clusterIds_ob_ := F_clusterIds_ob.same W5
  have E_ob := E_ob.wr W5
  have F_costs_ob := F_costs_ob.other W5 (Or.inr (slot_ne (Or.inr (hw _ (own_m 25 rfl))) (Or.inr (hw _ (own_m 23 rfl))) (by decide) (t := (.array .int)) (t' := (.array .int)) (by decide) (by decide)))
  have F_targeting_ob := F_targeting_ob.other W5 (Or.inr (slot_ne (Or.inr (hw _ (own_m 27 rfl))) (Or.inr (hw _ (own_m 23 rfl))) (by decide) (t := (.array .int)) (t' := (.array .int)) (by decide) (by decide)))
  have F_idle_ob := F_idle_ob.other W5 (Or.inr (slot_ne (Or.inr (hw _ (own_m 29 rfl))) (Or.inr (hw _ (own_m 23 rfl))) (by decide) (t := .int) (t' := (.array .int)) (by decide) (by decide)))
  have V_a1 := V_a1.other W5 ne_a1_ob
  have V_a2 := V_a2.other W5 ne_a2_ob
  have V_a3 := V_a3.other W5 ne_a3_ob
  have E_a1 := E_a1.wr W5
  have E_a2 := E_a2.wr W5
  have E_a3 := E_a3.wr W5
  have Zle := Nat.le_trans Zle (Keep.of_wr W5).1
  have K_ := K_.wr W5 (Or.inl (List.mem_of_getElem? (i := 0) rfl))
  have F_step_ob := F_step_ob.other W5 (Or.inr (slot_ne (Or.inr (hw _ (own_m 12 rfl))) (Or.inr (hw _ (own_m 23 rfl))) (by decide) (t := .int) (t' := (.array .int)) (by decide) (by decide)))
  have E_b3 := E_b3.wr W5
  have V_b3 := V_b3.other W5 ne_ob_b3.symm
  have F_clusterIds_ob := F_clusterIds_ob_
  have N_ := Fr.snoc X5 N_ g_ob
  refine own_by (T' := T5) (g' := (mkF m 20 #[.val (.ref ob), .val (.int p1), .val (.ref a1), .val (.ref a2), .val (.ref a3), .val (.int p2)] [])) (fun t k => st5 t k) ?_
  refine own_by (T' := T5) (g' := (mkF m 21 #[.val (.ref ob), .val (.int p1), .val (.ref a1), .val (.ref a2), .val (.ref a3), .val (.int p2)] [(.ref ob)])) (fun t k => XS.aloadN X5.here hx rfl (hb hby d1_20) rfl rfl k) ?_
  refine own_by (T' := T5) (g' := (mkF m 22 #[.val (.ref ob), .val (.int p1), .val (.ref a1), .val (.ref a2), .val (.ref a3), .val (.int p2)] [(.ref a2), (.ref ob)])) (fun t k => XS.aloadN X5.here hx rfl (hb hby d1_21) rfl rfl k) ?_
  obtain ⟨T6, h6, X6, e6, E6, A6, AE6, st6⟩ := cloneH X5 hx hZ hown (hw _ (own_m 13 rfl)) (hw _ (own_m 14 rfl)) (hw _ (own_m 18 rfl)) (hw _ (own_m 16 rfl)) (hw _ (own_m 17 rfl)) (hw _ (own_m 19 rfl)) e5 V_a2.arh E_a2 (g := (mkF m 22 #[.val (.ref ob), .val (.int p1), .val (.ref a1), .val (.ref a2), .val (.ref a3), .val (.int p2)] [(.ref a2), (.ref ob)])) rfl (by rw [hml]; rfl) rfl (hb hby d1_22) (by decide) (W := 1) (cap := 2) (own_le rfl) (by decide) (by decide) (by decide) (by decide)
  obtain ⟨b6, g6⟩ : ∃ z, z = h5.size := ⟨_, rfl⟩
  rw [← g6] at A6 AE6 st6
  have ne_ob_b6 : ob ≠ b6 := Nat.ne_of_lt (Nat.lt_of_lt_of_eq E_ob.lt g6.symm)
  have ne_a1_b6 : a1 ≠ b6 := Nat.ne_of_lt (Nat.lt_of_lt_of_eq V_a1.lt g6.symm)
  have ne_a2_b6 : a2 ≠ b6 := Nat.ne_of_lt (Nat.lt_of_lt_of_eq V_a2.lt g6.symm)
  have ne_a3_b6 : a3 ≠ b6 := Nat.ne_of_lt (Nat.lt_of_lt_of_eq V_a3.lt g6.symm)
  have ne_b3_b6 : b3 ≠ b6 := Nat.ne_of_lt (Nat.lt_of_lt_of_eq E_b3.lt g6.symm)
  have g_b6 : n0 ≤ b6 := Nat.le_trans Zle (Nat.le_of_eq g6.symm)
  have sz_b6 : h0.size ≤ b6 := Nat.le_trans K_.1 (Nat.le_of_eq g6.symm)
  have E_ob := E_ob.ext E6
  have F_costs_ob := F_costs_ob.ext E6
  have F_targeting_ob := F_targeting_ob.ext E6
  have F_idle_ob := F_idle_ob.ext E6
  have V_a1 := V_a1.ext E6
  have V_a2 := V_a2.ext E6
  have V_a3 := V_a3.ext E6
  have E_a1 := E_a1.ext E6
  have E_a2 := E_a2.ext E6
  have E_a3 := E_a3.ext E6
  have Zle := Nat.le_trans Zle E6.1
  have K_ := K_.ext E6
  have F_step_ob := F_step_ob.ext E6
  have E_b3 := E_b3.ext E6
  have V_b3 := V_b3.ext E6
  have F_clusterIds_ob := F_clusterIds_ob.ext E6
  have E_b6 := AE6
  have V_b6 : Arv Z h6 b6 k2 .int (2 : Int32) [(.int v0), (.int v1)] (.int 0) := A6
  refine own_by (T' := T6) (g' := (mkF m 25 #[.val (.ref ob), .val (.int p1), .val (.ref a1), .val (.ref a2), .val (.ref a3), .val (.int p2)] [(.ref b6), (.ref ob)])) (fun t k => st6 t k) ?_
  obtain ⟨T7, X7, e7, st7⟩ := castY X6 hx hZ hown (hw _ (own_m 20 rfl)) e6 (Ins.self E_b6) (g := (mkF m 25 #[.val (.ref ob), .val (.int p1), .val (.ref a1), .val (.ref a2), .val (.ref a3), .val (.int p2)] [(.ref b6), (.ref ob)])) rfl rfl (hb hby d1_25)
  refine own_by (T' := T7) (g' := (mkF m 28 #[.val (.ref ob), .val (.int p1), .val (.ref a1), .val (.ref a2), .val (.ref a3), .val (.int p2)] [(.ref b6), (.ref ob)])) (fun t k => st7 t k) ?_
  obtain ⟨T8, h8, X8, e8, W8, st8⟩ := putF X7 hx hZ hown (host := "") (Or.inl (hw _ (own_m 24 rfl))) Via.refl e7 F_costs_ob E_ob (Or.inr ⟨(hw _ (own_m 25 rfl)), rfl, hnm⟩) (hw _ (own_m 3 rfl)) (ty := (.array .int)) (by decide) rfl rfl (g := (mkF m 28 #[.val (.ref ob), .val (.int p1), .val (.ref a1), .val (.ref a2), .val (.ref a3), .val (.int p2)] [(.ref b6), (.ref ob)])) rfl rfl (hb hby d1_28)
  have F_costs_ob_ := F_costs_ob.same W8
  have E_ob := E_ob.wr W8
  have F_targeting_ob := F_targeting_ob.other W8 (Or.inr (slot_ne (Or.inr (hw _ (own_m 27 rfl))) (Or.inr (hw _ (own_m 25 rfl))) (by decide) (t := (.array .int)) (t' := (.array .int)) (by decide) (by decide)))
  have F_idle_ob := F_idle_ob.other W8 (Or.inr (slot_ne (Or.inr (hw _ (own_m 29 rfl))) (Or.inr (hw _ (own_m 25 rfl))) (by decide) (t := .int) (t' := (.array .int)) (by decide) (by decide)))
  have V_a1 := V_a1.other W8 ne_a1_ob
  have V_a2 := V_a2.other W8 ne_a2_ob
  have V_a3 := V_a3.other W8 ne_a3_ob
  have E_a1 := E_a1.wr W8
  have E_a2 := E_a2.wr W8
  have E_a3 := E_a3.wr W8
  have Zle := Nat.le_trans Zle (Keep.of_wr W8).1
  have K_ := K_.wr W8 (Or.inl (List.mem_of_getElem? (i := 0) rfl))
  have F_step_ob := F_step_ob.other W8 (Or.inr (slot_ne (Or.inr (hw _ (own_m 12 rfl))) (Or.inr (hw _ (own_m 25 rfl))) (by decide) (t := .int) (t' := (.array .int)) (by decide) (by decide)))
  have E_b3 := E_b3.wr W8
  have V_b3 := V_b3.other W8 ne_ob_b3.symm
  have F_clusterIds_ob := F_clusterIds_ob.other W8 (Or.inr (slot_ne (Or.inr (hw _ (own_m 23 rfl))) (Or.inr (hw _ (own_m 25 rfl))) (by decide) (t := (.array .int)) (t' := (.array .int)) (by decide) (by decide)))
  have E_b6 := E_b6.wr W8
  have V_b6 := V_b6.other W8 ne_ob_b6.symm
  have F_costs_ob := F_costs_ob_
  have N_ := Fr.snoc X8 N_ g_ob
  refine own_by (T' := T8) (g' := (mkF m 31 #[.val (.ref ob), .val (.int p1), .val (.ref a1), .val (.ref a2), .val (.ref a3), .val (.int p2)] [])) (fun t k => st8 t k) ?_
  refine own_by (T' := T8) (g' := (mkF m 32 #[.val (.ref ob), .val (.int p1), .val (.ref a1), .val (.ref a2), .val (.ref a3), .val (.int p2)] [(.ref ob)])) (fun t k => XS.aloadN X8.here hx rfl (hb hby d1_31) rfl rfl k) ?_
  refine own_by (T' := T8) (g' := (mkF m 34 #[.val (.ref ob), .val (.int p1), .val (.ref a1), .val (.ref a2), .val (.ref a3), .val (.int p2)] [(.ref a3), (.ref ob)])) (fun t k => XS.aload X8.here hx rfl (hb hby d1_32) rfl rfl k) ?_
  obtain ⟨T9, h9, X9, e9, E9, A9, AE9, st9⟩ := cloneH X8 hx hZ hown (hw _ (own_m 13 rfl)) (hw _ (own_m 14 rfl)) (hw _ (own_m 18 rfl)) (hw _ (own_m 16 rfl)) (hw _ (own_m 17 rfl)) (hw _ (own_m 19 rfl)) e8 V_a3.arh E_a3 (g := (mkF m 34 #[.val (.ref ob), .val (.int p1), .val (.ref a1), .val (.ref a2), .val (.ref a3), .val (.int p2)] [(.ref a3), (.ref ob)])) rfl (by rw [hml]; rfl) rfl (hb hby d1_34) (by decide) (W := 1) (cap := 2) (own_le rfl) (by decide) (by decide) (by decide) (by decide)
  obtain ⟨b9, g9⟩ : ∃ z, z = h8.size := ⟨_, rfl⟩
  rw [← g9] at A9 AE9 st9
  have ne_ob_b9 : ob ≠ b9 := Nat.ne_of_lt (Nat.lt_of_lt_of_eq E_ob.lt g9.symm)
  have ne_a1_b9 : a1 ≠ b9 := Nat.ne_of_lt (Nat.lt_of_lt_of_eq V_a1.lt g9.symm)
  have ne_a2_b9 : a2 ≠ b9 := Nat.ne_of_lt (Nat.lt_of_lt_of_eq V_a2.lt g9.symm)
  have ne_a3_b9 : a3 ≠ b9 := Nat.ne_of_lt (Nat.lt_of_lt_of_eq V_a3.lt g9.symm)
  have ne_b3_b9 : b3 ≠ b9 := Nat.ne_of_lt (Nat.lt_of_lt_of_eq E_b3.lt g9.symm)
  have ne_b6_b9 : b6 ≠ b9 := Nat.ne_of_lt (Nat.lt_of_lt_of_eq E_b6.lt g9.symm)
  have g_b9 : n0 ≤ b9 := Nat.le_trans Zle (Nat.le_of_eq g9.symm)
  have sz_b9 : h0.size ≤ b9 := Nat.le_trans K_.1 (Nat.le_of_eq g9.symm)
  have E_ob := E_ob.ext E9
  have F_targeting_ob := F_targeting_ob.ext E9
  have F_idle_ob := F_idle_ob.ext E9
  have V_a1 := V_a1.ext E9
  have V_a2 := V_a2.ext E9
  have V_a3 := V_a3.ext E9
  have E_a1 := E_a1.ext E9
  have E_a2 := E_a2.ext E9
  have E_a3 := E_a3.ext E9
  have Zle := Nat.le_trans Zle E9.1
  have K_ := K_.ext E9
  have F_step_ob := F_step_ob.ext E9
  have E_b3 := E_b3.ext E9
  have V_b3 := V_b3.ext E9
  have F_clusterIds_ob := F_clusterIds_ob.ext E9
  have E_b6 := E_b6.ext E9
  have V_b6 := V_b6.ext E9
  have F_costs_ob := F_costs_ob.ext E9
  have E_b9 := AE9
  have V_b9 : Arv Z h9 b9 k3 .int (2 : Int32) [(.int w0), (.int w1)] (.int 0) := A9
  refine own_by (T' := T9) (g' := (mkF m 37 #[.val (.ref ob), .val (.int p1), .val (.ref a1), .val (.ref a2), .val (.ref a3), .val (.int p2)] [(.ref b9), (.ref ob)])) (fun t k => st9 t k) ?_
  obtain ⟨T10, X10, e10, st10⟩ := castY X9 hx hZ hown (hw _ (own_m 20 rfl)) e9 (Ins.self E_b9) (g := (mkF m 37 #[.val (.ref ob), .val (.int p1), .val (.ref a1), .val (.ref a2), .val (.ref a3), .val (.int p2)] [(.ref b9), (.ref ob)])) rfl rfl (hb hby d1_37)
  refine own_by (T' := T10) (g' := (mkF m 40 #[.val (.ref ob), .val (.int p1), .val (.ref a1), .val (.ref a2), .val (.ref a3), .val (.int p2)] [(.ref b9), (.ref ob)])) (fun t k => st10 t k) ?_
  obtain ⟨T11, h11, X11, e11, W11, st11⟩ := putF X10 hx hZ hown (host := "") (Or.inl (hw _ (own_m 26 rfl))) Via.refl e10 F_targeting_ob E_ob (Or.inr ⟨(hw _ (own_m 27 rfl)), rfl, hnm⟩) (hw _ (own_m 3 rfl)) (ty := (.array .int)) (by decide) rfl rfl (g := (mkF m 40 #[.val (.ref ob), .val (.int p1), .val (.ref a1), .val (.ref a2), .val (.ref a3), .val (.int p2)] [(.ref b9), (.ref ob)])) rfl rfl (hb hby d1_40)
  have F_targeting_ob_ := F_targeting_ob.same W11
  have E_ob := E_ob.wr W11
  have F_idle_ob := F_idle_ob.other W11 (Or.inr (slot_ne (Or.inr (hw _ (own_m 29 rfl))) (Or.inr (hw _ (own_m 27 rfl))) (by decide) (t := .int) (t' := (.array .int)) (by decide) (by decide)))
  have V_a1 := V_a1.other W11 ne_a1_ob
  have V_a2 := V_a2.other W11 ne_a2_ob
  have V_a3 := V_a3.other W11 ne_a3_ob
  have E_a1 := E_a1.wr W11
  have E_a2 := E_a2.wr W11
  have E_a3 := E_a3.wr W11
  have Zle := Nat.le_trans Zle (Keep.of_wr W11).1
  have K_ := K_.wr W11 (Or.inl (List.mem_of_getElem? (i := 0) rfl))
  have F_step_ob := F_step_ob.other W11 (Or.inr (slot_ne (Or.inr (hw _ (own_m 12 rfl))) (Or.inr (hw _ (own_m 27 rfl))) (by decide) (t := .int) (t' := (.array .int)) (by decide) (by decide)))
  have E_b3 := E_b3.wr W11
  have V_b3 := V_b3.other W11 ne_ob_b3.symm
  have F_clusterIds_ob := F_clusterIds_ob.other W11 (Or.inr (slot_ne (Or.inr (hw _ (own_m 23 rfl))) (Or.inr (hw _ (own_m 27 rfl))) (by decide) (t := (.array .int)) (t' := (.array .int)) (by decide) (by decide)))
  have E_b6 := E_b6.wr W11
  have V_b6 := V_b6.other W11 ne_ob_b6.symm
  have F_costs_ob := F_costs_ob.other W11 (Or.inr (slot_ne (Or.inr (hw _ (own_m 25 rfl))) (Or.inr (hw _ (own_m 27 rfl))) (by decide) (t := (.array .int)) (t' := (.array .int)) (by decide) (by decide)))
  have E_b9 := E_b9.wr W11
  have V_b9 := V_b9.other W11 ne_ob_b9.symm
  have F_targeting_ob := F_targeting_ob_
  have N_ := Fr.snoc X11 N_ g_ob
  refine own_by (T' := T11) (g' := (mkF m 43 #[.val (.ref ob), .val (.int p1), .val (.ref a1), .val (.ref a2), .val (.ref a3), .val (.int p2)] [])) (fun t k => st11 t k) ?_
  refine own_by (T' := T11) (g' := (mkF m 44 #[.val (.ref ob), .val (.int p1), .val (.ref a1), .val (.ref a2), .val (.ref a3), .val (.int p2)] [(.ref ob)])) (fun t k => XS.aloadN X11.here hx rfl (hb hby d1_43) rfl rfl k) ?_
  refine own_by (T' := T11) (g' := (mkF m 46 #[.val (.ref ob), .val (.int p1), .val (.ref a1), .val (.ref a2), .val (.ref a3), .val (.int p2)] [(.int p2), (.ref ob)])) (fun t k => XS.iload X11.here hx rfl (hb hby d1_44) rfl k) ?_
  obtain ⟨T12, h12, X12, e12, W12, st12⟩ := putF X11 hx hZ hown (host := "") (Or.inl (hw _ (own_m 28 rfl))) Via.refl e11 F_idle_ob E_ob (Or.inr ⟨(hw _ (own_m 29 rfl)), rfl, hnm⟩) (hw _ (own_m 3 rfl)) (ty := .int) (by decide) rfl rfl (g := (mkF m 46 #[.val (.ref ob), .val (.int p1), .val (.ref a1), .val (.ref a2), .val (.ref a3), .val (.int p2)] [(.int p2), (.ref ob)])) rfl rfl (hb hby d1_46)
  have F_idle_ob_ := F_idle_ob.same W12
  have E_ob := E_ob.wr W12
  have V_a1 := V_a1.other W12 ne_a1_ob
  have V_a2 := V_a2.other W12 ne_a2_ob
  have V_a3 := V_a3.other W12 ne_a3_ob
  have E_a1 := E_a1.wr W12
  have E_a2 := E_a2.wr W12
  have E_a3 := E_a3.wr W12
  have Zle := Nat.le_trans Zle (Keep.of_wr W12).1
  have K_ := K_.wr W12 (Or.inl (List.mem_of_getElem? (i := 0) rfl))
  have F_step_ob := F_step_ob.other W12 (Or.inr (slot_ne (Or.inr (hw _ (own_m 12 rfl))) (Or.inr (hw _ (own_m 29 rfl))) (by decide) (t := .int) (t' := .int) (by decide) (by decide)))
  have E_b3 := E_b3.wr W12
  have V_b3 := V_b3.other W12 ne_ob_b3.symm
  have F_clusterIds_ob := F_clusterIds_ob.other W12 (Or.inr (slot_ne (Or.inr (hw _ (own_m 23 rfl))) (Or.inr (hw _ (own_m 29 rfl))) (by decide) (t := (.array .int)) (t' := .int) (by decide) (by decide)))
  have E_b6 := E_b6.wr W12
  have V_b6 := V_b6.other W12 ne_ob_b6.symm
  have F_costs_ob := F_costs_ob.other W12 (Or.inr (slot_ne (Or.inr (hw _ (own_m 25 rfl))) (Or.inr (hw _ (own_m 29 rfl))) (by decide) (t := (.array .int)) (t' := .int) (by decide) (by decide)))
  have E_b9 := E_b9.wr W12
  have V_b9 := V_b9.other W12 ne_ob_b9.symm
  have F_targeting_ob := F_targeting_ob.other W12 (Or.inr (slot_ne (Or.inr (hw _ (own_m 27 rfl))) (Or.inr (hw _ (own_m 29 rfl))) (by decide) (t := (.array .int)) (t' := .int) (by decide) (by decide)))
  have F_idle_ob := F_idle_ob_
  have N_ := Fr.snoc X12 N_ g_ob
  refine own_by (T' := T12) (g' := (mkF m 49 #[.val (.ref ob), .val (.int p1), .val (.ref a1), .val (.ref a2), .val (.ref a3), .val (.int p2)] [])) (fun t k => st12 t k) ?_
  exact own_retV X12 hx Bd.notSynchronized Bd.returns (hb hby d1_49) (by decide) (by decide) (by rw [e12]; exact ⟨b6, rfl, N_, K_, E_ob, sz_b6, F_costs_ob, V_b6⟩)

theorem ef_3n2 (m : MethodId) (ob : Addr) : entryFrame m #[(.ref ob)] 6 = mkF m 0 #[.val (.ref ob), .unset, .unset, .unset, .unset, .unset] [] := by first | (simp [entryFrame, mkF, argsToLocals, Value.category]; done) | rfl
def Q3n2 (Z : State) (ob : Addr) (tt : Addr) (k2 : ClassId) (v0 : Int32) (v1 : Int32) (h0 : Heap) (n0 : Nat) (v : Option Value) (h : Heap) (L : List Loc) : Prop := v = some (.int (((0 : Int32) + v0) + v1)) ∧ Fr n0 L ∧ h = h0
set_option maxRecDepth 65536 in
set_option maxHeartbeats 40000000 in
theorem rm3n2 (l : Launch) (Z : State) (a0 : Array Value) (hw : ∀ d ∈ tables_1, d.before a0 Z = true) (ws : List Jvm.Cond) (ob : Addr) (tt : Addr) (k2 : ClassId) (v0 : Int32) (v1 : Int32) (h0 : Heap) (n0 : Nat) (Zle : n0 ≤ h0.size) (F_costs_ob : Fld Z h0 ob "com/example/firebreak/firebreak/core/MapStep" "costs" "[I" (.ref tt)) (V_tt : Arv Z h0 tt k2 .int (2 : Int32) [(.int v0), (.int v1)] (.int 0)) :
    MetFree l (⟨"com/example/firebreak/firebreak/core/MapStep", "getBurning", "()I"⟩ : MethodName) (head1 (Jvm.Cond.code (⟨"com/example/firebreak/firebreak/core/MapStep", "getBurning", "()I"⟩ : MethodName) prog_30_method_3_code 6 (some .int) :: ws) ({ frames := 0, cells := 0, slots := 0, locals := 0 } : Room)) (fun a U => a = #[(.ref ob)] ∧ Z.Warmed39 U.vm ∧ U.heap = h0) (fun _ _ _ _ _ => True) (fun _ U o U' => ∃ v L, o = .returned v ∧ Q3n2 Z ob tt k2 v0 v1 h0 n0 v U'.heap L ∧ FrameEnd U o U' L ({ frames := 0, cells := 0, slots := 0, locals := 0 } : Room).cells ({ frames := 0, cells := 0, slots := 0, locals := 0 } : Room).slots) := by
  refine MetFree.of_bodySF (plainFor_of_name pn_com_example_firebreak_firebreak_core_MapStep) hisR ?_
  intro p e s m args below meth c s₁ Bd hml0 hP hK
  obtain ⟨rfl, hZ, hh⟩ := hP
  have hx := Bd.exec
  have hby := Bd.bytes
  have hml : c.maxLocals = 6 := hml0
  have hown : s.vm.findClass "com/example/firebreak/firebreak/core/MapStep" = some m.cls := findClass_of_methodNamed Bd.named
  have hnm := (name_of_methodNamed Bd.named Bd.method).1
  have X0 : Stand p l e ({ frames := 0, cells := 0, slots := 0, locals := 0 } : Room) s m #[(.ref ob)] below meth c s₁ [] 0 0 := Stand.of_body Bd
  have e0 : s₁.heap = h0 := by rw [← hh, Bd.state]; rfl
  have N_ := Fr.nil n0
  show own_Goes p.tables e below s (Q3n2 Z ob tt k2 v0 v1 h0 n0) ({ frames := 0, cells := 0, slots := 0, locals := 0 } : Room).cells ({ frames := 0, cells := 0, slots := 0, locals := 0 } : Room).slots s₁ (entryFrame m #[(.ref ob)] 6)
  refine own_by (T' := s₁) (g' := (mkF m 0 #[.val (.ref ob), .unset, .unset, .unset, .unset, .unset] [])) (fun t k => castTop (ef_3n2 m ob) k) ?_
  refine own_by (T' := s₁) (g' := (mkF m 1 #[.val (.ref ob), .unset, .unset, .unset, .unset, .unset] [(.int 0)])) (fun t k => XS.iconst X0.here hx rfl (hb hby d3_0) k) ?_
  refine own_by (T' := s₁) (g' := (mkF m 2 #[.val (.ref ob), .val (.int 0), .unset, .unset, .unset, .unset] [])) (fun t k => XS.istoreN X0.here hx rfl (hb hby d3_1) rfl (l' := #[.val (.ref ob), .val (.int 0), .unset, .unset, .unset, .unset]) rfl k) ?_
  refine own_by (T' := s₁) (g' := (mkF m 3 #[.val (.ref ob), .val (.int 0), .unset, .unset, .unset, .unset] [(.ref ob)])) (fun t k => XS.aloadN X0.here hx rfl (hb hby d3_2) rfl rfl k) ?_
  obtain ⟨T1, X1, e1, st1⟩ := getF X0 hx hZ hown (host := "") (Or.inl (hw _ (own_m 24 rfl))) Via.refl e0 F_costs_ob (g := (mkF m 3 #[.val (.ref ob), .val (.int 0), .unset, .unset, .unset, .unset] [(.ref ob)])) rfl rfl (hb hby d3_3)
  refine own_by (T' := T1) (g' := (mkF m 6 #[.val (.ref ob), .val (.int 0), .unset, .unset, .unset, .unset] [(.ref tt)])) (fun t k => st1 t k) ?_
  refine own_by (T' := T1) (g' := (mkF m 7 #[.val (.ref ob), .val (.int 0), .val (.ref tt), .unset, .unset, .unset] [])) (fun t k => XS.astoreN X1.here hx rfl (hb hby d3_6) rfl rfl (l' := #[.val (.ref ob), .val (.int 0), .val (.ref tt), .unset, .unset, .unset]) rfl k) ?_
  refine own_by (T' := T1) (g' := (mkF m 8 #[.val (.ref ob), .val (.int 0), .val (.ref tt), .unset, .unset, .unset] [(.ref tt)])) (fun t k => XS.aloadN X1.here hx rfl (hb hby d3_7) rfl rfl k) ?_
  obtain ⟨cl2, Ar2, -, S2, N2, -, -⟩ := id V_tt
  have st2 : ∀ t, Steps p.tables e below (T1.setTop (mkF m 9 #[.val (.ref ob), .val (.int 0), .val (.ref tt), .unset, .unset, .unset] [(.int 2)])) t → Steps p.tables e below (T1.setTop (mkF m 8 #[.val (.ref ob), .val (.int 0), .val (.ref tt), .unset, .unset, .unset] [(.ref tt)])) t := fun t k => X1.arraylength hx (by rw [e1]; exact Ar2.1) (State.isArrayOf_alike hZ.alike Ar2.2.1) (g := (mkF m 8 #[.val (.ref ob), .val (.int 0), .val (.ref tt), .unset, .unset, .unset] [(.ref tt)])) rfl rfl (hb hby d3_8) _ (by rw [len_of S2 N2]; exact k)
  refine own_by (T' := T1) (g' := (mkF m 9 #[.val (.ref ob), .val (.int 0), .val (.ref tt), .unset, .unset, .unset] [(.int 2)])) (fun t k => st2 t k) ?_
  refine own_by (T' := T1) (g' := (mkF m 10 #[.val (.ref ob), .val (.int 0), .val (.ref tt), .val (.int 2), .unset, .unset] [])) (fun t k => XS.istoreN X1.here hx rfl (hb hby d3_9) rfl (l' := #[.val (.ref ob), .val (.int 0), .val (.ref tt), .val (.int 2), .unset, .unset]) rfl k) ?_
  refine own_by (T' := T1) (g' := (mkF m 11 #[.val (.ref ob), .val (.int 0), .val (.ref tt), .val (.int 2), .unset, .unset] [(.int 0)])) (fun t k => XS.iconst X1.here hx rfl (hb hby d3_10) k) ?_
  refine own_by (T' := T1) (g' := (mkF m 13 #[.val (.ref ob), .val (.int 0), .val (.ref tt), .val (.int 2), .val (.int 0), .unset] [])) (fun t k => XS.istore X1.here hx rfl (hb hby d3_11) rfl (l' := #[.val (.ref ob), .val (.int 0), .val (.ref tt), .val (.int 2), .val (.int 0), .unset]) rfl k) ?_
  refine own_by (T' := T1) (g' := (mkF m 15 #[.val (.ref ob), .val (.int 0), .val (.ref tt), .val (.int 2), .val (.int 0), .unset] [(.int 0)])) (fun t k => XS.iload X1.here hx rfl (hb hby d3_13) rfl k) ?_
  refine own_by (T' := T1) (g' := (mkF m 16 #[.val (.ref ob), .val (.int 0), .val (.ref tt), .val (.int 2), .val (.int 0), .unset] [(.int 2), (.int 0)])) (fun t k => XS.iloadN X1.here hx rfl (hb hby d3_15) rfl k) ?_
  refine own_by (T' := T1) (g' := (mkF m 19 #[.val (.ref ob), .val (.int 0), .val (.ref tt), .val (.int 2), .val (.int 0), .unset] [])) (fun t k => XS.icmpNo X1.here hx rfl (hb hby d3_16) rfl (tlt (by decide)).2.1 k) ?_
  refine own_by (T' := T1) (g' := (mkF m 20 #[.val (.ref ob), .val (.int 0), .val (.ref tt), .val (.int 2), .val (.int 0), .unset] [(.ref tt)])) (fun t k => XS.aloadN X1.here hx rfl (hb hby d3_19) rfl rfl k) ?_
  refine own_by (T' := T1) (g' := (mkF m 22 #[.val (.ref ob), .val (.int 0), .val (.ref tt), .val (.int 2), .val (.int 0), .unset] [(.int 0), (.ref tt)])) (fun t k => XS.iload X1.here hx rfl (hb hby d3_20) rfl k) ?_
  obtain ⟨cl3, Ar3, q3, S3, N3, Hs3, G3⟩ := id V_tt
  have hin3 : ¬ ((0 : Int32) < 0 ∨ cl3.slots.size ≤ ((0 : Int32)).toNatClampNeg) := inb_of S3 ⟨by decide, by decide⟩
  have hat3 : cl3.slots[((0 : Int32)).toNatClampNeg]? = some (.int v0) := Hs3.at hin3 rfl
  refine own_by (T' := T1) (g' := (mkF m 23 #[.val (.ref ob), .val (.int 0), .val (.ref tt), .val (.int 2), .val (.int 0), .unset] [(.int v0)])) (fun t k => X1.iaload hx (j := (0 : Int32)) (v := (.int v0)) (by rw [e1]; exact Ar3.1) (State.isArrayOf_alike hZ.alike Ar3.2.1) Ar3.2.2 hin3 hat3 (g := (mkF m 22 #[.val (.ref ob), .val (.int 0), .val (.ref tt), .val (.int 2), .val (.int 0), .unset] [(.int 0), (.ref tt)])) rfl rfl (hb hby d3_22) _ k) ?_
  refine own_by (T' := T1) (g' := (mkF m 25 #[.val (.ref ob), .val (.int 0), .val (.ref tt), .val (.int 2), .val (.int 0), .val (.int v0)] [])) (fun t k => XS.istore X1.here hx rfl (hb hby d3_23) rfl (l' := #[.val (.ref ob), .val (.int 0), .val (.ref tt), .val (.int 2), .val (.int 0), .val (.int v0)]) rfl k) ?_
  refine own_by (T' := T1) (g' := (mkF m 26 #[.val (.ref ob), .val (.int 0), .val (.ref tt), .val (.int 2), .val (.int 0), .val (.int v0)] [(.int 0)])) (fun t k => XS.iloadN X1.here hx rfl (hb hby d3_25) rfl k) ?_
  refine own_by (T' := T1) (g' := (mkF m 28 #[.val (.ref ob), .val (.int 0), .val (.ref tt), .val (.int 2), .val (.int 0), .val (.int v0)] [(.int v0), (.int 0)])) (fun t k => XS.iload X1.here hx rfl (hb hby d3_26) rfl k) ?_
  refine own_by (T' := T1) (g' := (mkF m 29 #[.val (.ref ob), .val (.int 0), .val (.ref tt), .val (.int 2), .val (.int 0), .val (.int v0)] [(.int ((0 : Int32) + v0))])) (fun t k => XS.iadd X1.here hx rfl (hb hby d3_28) rfl k) ?_
  refine own_by (T' := T1) (g' := (mkF m 30 #[.val (.ref ob), .val (.int ((0 : Int32) + v0)), .val (.ref tt), .val (.int 2), .val (.int 0), .val (.int v0)] [])) (fun t k => XS.istoreN X1.here hx rfl (hb hby d3_29) rfl (l' := #[.val (.ref ob), .val (.int ((0 : Int32) + v0)), .val (.ref tt), .val (.int 2), .val (.int 0), .val (.int v0)]) rfl k) ?_
  refine own_by (T' := T1) (g' := (mkF m 33 #[.val (.ref ob), .val (.int ((0 : Int32) + v0)), .val (.ref tt), .val (.int 2), .val (.int 1), .val (.int v0)] [])) (fun t k => XS.iinc X1.here hx rfl (hb hby d3_30) rfl (l' := #[.val (.ref ob), .val (.int ((0 : Int32) + v0)), .val (.ref tt), .val (.int 2), .val (.int 1), .val (.int v0)]) rfl k) ?_
  refine own_by (T' := T1) (g' := (mkF m 13 #[.val (.ref ob), .val (.int ((0 : Int32) + v0)), .val (.ref tt), .val (.int 2), .val (.int 1), .val (.int v0)] [])) (fun t k => XS.goto X1.here hx rfl (pc0 := 33) (pc' := 13) rfl (hb hby d3_33) (by decide) (by decide) k) ?_
  refine own_by (T' := T1) (g' := (mkF m 15 #[.val (.ref ob), .val (.int ((0 : Int32) + v0)), .val (.ref tt), .val (.int 2), .val (.int 1), .val (.int v0)] [(.int 1)])) (fun t k => XS.iload X1.here hx rfl (hb hby d3_13) rfl k) ?_
  refine own_by (T' := T1) (g' := (mkF m 16 #[.val (.ref ob), .val (.int ((0 : Int32) + v0)), .val (.ref tt), .val (.int 2), .val (.int 1), .val (.int v0)] [(.int 2), (.int 1)])) (fun t k => XS.iloadN X1.here hx rfl (hb hby d3_15) rfl k) ?_
  refine own_by (T' := T1) (g' := (mkF m 19 #[.val (.ref ob), .val (.int ((0 : Int32) + v0)), .val (.ref tt), .val (.int 2), .val (.int 1), .val (.int v0)] [])) (fun t k => XS.icmpNo X1.here hx rfl (hb hby d3_16) rfl (tlt (by decide)).2.1 k) ?_
  refine own_by (T' := T1) (g' := (mkF m 20 #[.val (.ref ob), .val (.int ((0 : Int32) + v0)), .val (.ref tt), .val (.int 2), .val (.int 1), .val (.int v0)] [(.ref tt)])) (fun t k => XS.aloadN X1.here hx rfl (hb hby d3_19) rfl rfl k) ?_
  refine own_by (T' := T1) (g' := (mkF m 22 #[.val (.ref ob), .val (.int ((0 : Int32) + v0)), .val (.ref tt), .val (.int 2), .val (.int 1), .val (.int v0)] [(.int 1), (.ref tt)])) (fun t k => XS.iload X1.here hx rfl (hb hby d3_20) rfl k) ?_
  obtain ⟨cl4, Ar4, q4, S4, N4, Hs4, G4⟩ := id V_tt
  have hin4 : ¬ ((1 : Int32) < 0 ∨ cl4.slots.size ≤ ((1 : Int32)).toNatClampNeg) := inb_of S4 ⟨by decide, by decide⟩
  have hat4 : cl4.slots[((1 : Int32)).toNatClampNeg]? = some (.int v1) := Hs4.at hin4 rfl
  refine own_by (T' := T1) (g' := (mkF m 23 #[.val (.ref ob), .val (.int ((0 : Int32) + v0)), .val (.ref tt), .val (.int 2), .val (.int 1), .val (.int v0)] [(.int v1)])) (fun t k => X1.iaload hx (j := (1 : Int32)) (v := (.int v1)) (by rw [e1]; exact Ar4.1) (State.isArrayOf_alike hZ.alike Ar4.2.1) Ar4.2.2 hin4 hat4 (g := (mkF m 22 #[.val (.ref ob), .val (.int ((0 : Int32) + v0)), .val (.ref tt), .val (.int 2), .val (.int 1), .val (.int v0)] [(.int 1), (.ref tt)])) rfl rfl (hb hby d3_22) _ k) ?_
  refine own_by (T' := T1) (g' := (mkF m 25 #[.val (.ref ob), .val (.int ((0 : Int32) + v0)), .val (.ref tt), .val (.int 2), .val (.int 1), .val (.int v1)] [])) (fun t k => XS.istore X1.here hx rfl (hb hby d3_23) rfl (l' := #[.val (.ref ob), .val (.int ((0 : Int32) + v0)), .val (.ref tt), .val (.int 2), .val (.int 1), .val (.int v1)]) rfl k) ?_
  refine own_by (T' := T1) (g' := (mkF m 26 #[.val (.ref ob), .val (.int ((0 : Int32) + v0)), .val (.ref tt), .val (.int 2), .val (.int 1), .val (.int v1)] [(.int ((0 : Int32) + v0))])) (fun t k => XS.iloadN X1.here hx rfl (hb hby d3_25) rfl k) ?_
  refine own_by (T' := T1) (g' := (mkF m 28 #[.val (.ref ob), .val (.int ((0 : Int32) + v0)), .val (.ref tt), .val (.int 2), .val (.int 1), .val (.int v1)] [(.int v1), (.int ((0 : Int32) + v0))])) (fun t k => XS.iload X1.here hx rfl (hb hby d3_26) rfl k) ?_
  refine own_by (T' := T1) (g' := (mkF m 29 #[.val (.ref ob), .val (.int ((0 : Int32) + v0)), .val (.ref tt), .val (.int 2), .val (.int 1), .val (.int v1)] [(.int (((0 : Int32) + v0) + v1))])) (fun t k => XS.iadd X1.here hx rfl (hb hby d3_28) rfl k) ?_
  refine own_by (T' := T1) (g' := (mkF m 30 #[.val (.ref ob), .val (.int (((0 : Int32) + v0) + v1)), .val (.ref tt), .val (.int 2), .val (.int 1), .val (.int v1)] [])) (fun t k => XS.istoreN X1.here hx rfl (hb hby d3_29) rfl (l' := #[.val (.ref ob), .val (.int (((0 : Int32) + v0) + v1)), .val (.ref tt), .val (.int 2), .val (.int 1), .val (.int v1)]) rfl k) ?_
  refine own_by (T' := T1) (g' := (mkF m 33 #[.val (.ref ob), .val (.int (((0 : Int32) + v0) + v1)), .val (.ref tt), .val (.int 2), .val (.int 2), .val (.int v1)] [])) (fun t k => XS.iinc X1.here hx rfl (hb hby d3_30) rfl (l' := #[.val (.ref ob), .val (.int (((0 : Int32) + v0) + v1)), .val (.ref tt), .val (.int 2), .val (.int 2), .val (.int v1)]) rfl k) ?_
  refine own_by (T' := T1) (g' := (mkF m 13 #[.val (.ref ob), .val (.int (((0 : Int32) + v0) + v1)), .val (.ref tt), .val (.int 2), .val (.int 2), .val (.int v1)] [])) (fun t k => XS.goto X1.here hx rfl (pc0 := 33) (pc' := 13) rfl (hb hby d3_33) (by decide) (by decide) k) ?_
  refine own_by (T' := T1) (g' := (mkF m 15 #[.val (.ref ob), .val (.int (((0 : Int32) + v0) + v1)), .val (.ref tt), .val (.int 2), .val (.int 2), .val (.int v1)] [(.int 2)])) (fun t k => XS.iload X1.here hx rfl (hb hby d3_13) rfl k) ?_
  refine own_by (T' := T1) (g' := (mkF m 16 #[.val (.ref ob), .val (.int (((0 : Int32) + v0) + v1)), .val (.ref tt), .val (.int 2), .val (.int 2), .val (.int v1)] [(.int 2), (.int 2)])) (fun t k => XS.iloadN X1.here hx rfl (hb hby d3_15) rfl k) ?_
  refine own_by (T' := T1) (g' := (mkF m 36 #[.val (.ref ob), .val (.int (((0 : Int32) + v0) + v1)), .val (.ref tt), .val (.int 2), .val (.int 2), .val (.int v1)] [])) (fun t k => XS.icmpYes X1.here hx rfl (pc0 := 16) (pc' := 36) rfl (hb hby d3_16) rfl (flt (by decide)).2.1 (by decide) (by decide) k) ?_
  refine own_by (T' := T1) (g' := (mkF m 37 #[.val (.ref ob), .val (.int (((0 : Int32) + v0) + v1)), .val (.ref tt), .val (.int 2), .val (.int 2), .val (.int v1)] [(.int (((0 : Int32) + v0) + v1))])) (fun t k => XS.iloadN X1.here hx rfl (hb hby d3_36) rfl k) ?_
  exact own_retI X1 hx Bd.notSynchronized Bd.returns (hb hby d3_37) (by decide) (by decide) (by rw [e1]; exact ⟨rfl, N_, rfl⟩)

theorem ef_1n3 (m : MethodId) (ob : Addr) (p1 : Int32) (a1 : Addr) (a2 : Addr) (a3 : Addr) (p2 : Int32) : entryFrame m #[(.ref ob), (.int p1), (.ref a1), (.ref a2), (.ref a3), (.int p2)] 6 = mkF m 0 #[.val (.ref ob), .val (.int p1), .val (.ref a1), .val (.ref a2), .val (.ref a3), .val (.int p2)] [] := by first | (simp [entryFrame, mkF, argsToLocals, Value.category]; done) | rfl
def Q1n3 (Z : State) (ob : Addr) (p1 : Int32) (a1 : Addr) (a2 : Addr) (a3 : Addr) (p2 : Int32) (k1 : ClassId) (k2 : ClassId) (k3 : ClassId) (u0 : Int32) (u1 : Int32) (u2 : Int32) (v0 : Int32) (v1 : Int32) (v2 : Int32) (w0 : Int32) (w1 : Int32) (w2 : Int32) (h0 : Heap) (n0 : Nat) (v : Option Value) (h : Heap) (L : List Loc) : Prop := ∃ t2 : Addr, v = none ∧ Fr n0 L ∧ Keep h0 h [ob] ∧ Exa Z h ob "com/example/firebreak/firebreak/core/MapStep" ∧ h0.size ≤ t2 ∧ Fld Z h ob "com/example/firebreak/firebreak/core/MapStep" "costs" "[I" (.ref t2) ∧ Arv Z h t2 k2 .int (3 : Int32) [(.int v0), (.int v1), (.int v2)] (.int 0)
set_option maxRecDepth 65536 in
set_option maxHeartbeats 40000000 in
theorem rm1n3 (l : Launch) (Z : State) (a0 : Array Value) (hw : ∀ d ∈ tables_1, d.before a0 Z = true) (ws : List Jvm.Cond) (ob : Addr) (p1 : Int32) (a1 : Addr) (a2 : Addr) (a3 : Addr) (p2 : Int32) (k1 : ClassId) (k2 : ClassId) (k3 : ClassId) (u0 : Int32) (u1 : Int32) (u2 : Int32) (v0 : Int32) (v1 : Int32) (v2 : Int32) (w0 : Int32) (w1 : Int32) (w2 : Int32) (h0 : Heap) (n0 : Nat) (Zle : n0 ≤ h0.size) (E_ob : Exa Z h0 ob "com/example/firebreak/firebreak/core/MapStep") (g_ob : n0 ≤ ob) (F_step_ob : Fld Z h0 ob "com/example/firebreak/firebreak/core/MapStep" "step" "I" (.int 0)) (F_clusterIds_ob : Fld Z h0 ob "com/example/firebreak/firebreak/core/MapStep" "clusterIds" "[I" .null) (F_costs_ob : Fld Z h0 ob "com/example/firebreak/firebreak/core/MapStep" "costs" "[I" .null) (F_targeting_ob : Fld Z h0 ob "com/example/firebreak/firebreak/core/MapStep" "targeting" "[I" .null) (F_idle_ob : Fld Z h0 ob "com/example/firebreak/firebreak/core/MapStep" "idle" "I" (.int 0)) (V_a1 : Arv Z h0 a1 k1 .int (3 : Int32) [(.int u0), (.int u1), (.int u2)] (.int 0)) (V_a2 : Arv Z h0 a2 k2 .int (3 : Int32) [(.int v0), (.int v1), (.int v2)] (.int 0)) (V_a3 : Arv Z h0 a3 k3 .int (3 : Int32) [(.int w0), (.int w1), (.int w2)] (.int 0)) (E_a1 : Exa Z h0 a1 "[I") (E_a2 : Exa Z h0 a2 "[I") (E_a3 : Exa Z h0 a3 "[I") (ne_a1_ob : a1 ≠ ob) (ne_a2_ob : a2 ≠ ob) (ne_a3_ob : a3 ≠ ob) :
    MetFree l (⟨"com/example/firebreak/firebreak/core/MapStep", "<init>", "(I[I[I[II)V"⟩ : MethodName) (head1 (Jvm.Cond.code (⟨"com/example/firebreak/firebreak/core/MapStep", "<init>", "(I[I[I[II)V"⟩ : MethodName) prog_30_method_1_code 6 none :: ws) ({ frames := 1, cells := 3, slots := 9, locals := 16 } : Room)) (fun a U => a = #[(.ref ob), (.int p1), (.ref a1), (.ref a2), (.ref a3), (.int p2)] ∧ Z.Warmed39 U.vm ∧ U.heap = h0) (fun _ _ _ _ _ => True) (fun _ U o U' => ∃ v L, o = .returned v ∧ Q1n3 Z ob p1 a1 a2 a3 p2 k1 k2 k3 u0 u1 u2 v0 v1 v2 w0 w1 w2 h0 n0 v U'.heap L ∧ FrameEnd U o U' L ({ frames := 1, cells := 3, slots := 9, locals := 16 } : Room).cells ({ frames := 1, cells := 3, slots := 9, locals := 16 } : Room).slots) := by
  refine MetFree.of_bodySF (plainFor_of_name pn_com_example_firebreak_firebreak_core_MapStep) hisR ?_
  intro p e s m args below meth c s₁ Bd hml0 hP hK
  obtain ⟨rfl, hZ, hh⟩ := hP
  have hx := Bd.exec
  have hby := Bd.bytes
  have hml : c.maxLocals = 6 := hml0
  have hown : s.vm.findClass "com/example/firebreak/firebreak/core/MapStep" = some m.cls := findClass_of_methodNamed Bd.named
  have hnm := (name_of_methodNamed Bd.named Bd.method).1
  have X0 : Stand p l e ({ frames := 1, cells := 3, slots := 9, locals := 16 } : Room) s m #[(.ref ob), (.int p1), (.ref a1), (.ref a2), (.ref a3), (.int p2)] below meth c s₁ [] 0 0 := Stand.of_body Bd
  have e0 : s₁.heap = h0 := by rw [← hh, Bd.state]; rfl
  have N_ := Fr.nil n0
  have K_ := Keep.refl h0 [ob]
  show own_Goes p.tables e below s (Q1n3 Z ob p1 a1 a2 a3 p2 k1 k2 k3 u0 u1 u2 v0 v1 v2 w0 w1 w2 h0 n0) ({ frames := 1, cells := 3, slots := 9, locals := 16 } : Room).cells ({ frames := 1, cells := 3, slots := 9, locals := 16 } : Room).slots s₁ (entryFrame m #[(.ref ob), (.int p1), (.ref a1), (.ref a2), (.ref a3), (.int p2)] 6)
  refine own_by (T' := s₁) (g' := (mkF m 0 #[.val (.ref ob), .val (.int p1), .val (.ref a1), .val (.ref a2), .val (.ref a3), .val (.int p2)] [])) (fun t k => castTop (ef_1n3 m ob p1 a1 a2 a3 p2) k) ?_
  refine own_by (T' := s₁) (g' := (mkF m 1 #[.val (.ref ob), .val (.int p1), .val (.ref a1), .val (.ref a2), .val (.ref a3), .val (.int p2)] [(.ref ob)])) (fun t k => XS.aloadN X0.here hx rfl (hb hby d1_0) rfl rfl k) ?_
  obtain ⟨T1, X1, e1, st1⟩ := initO X0 hx hZ hown (hw _ (own_m 8 rfl)) (hw _ (own_m 9 rfl)) (hw _ (own_m 10 rfl)) e0 (g := (mkF m 1 #[.val (.ref ob), .val (.int p1), .val (.ref a1), .val (.ref a2), .val (.ref a3), .val (.int p2)] [(.ref ob)])) rfl (by rw [hml]; rfl) rfl (hb hby d1_1) (by decide) (W := 0) (own_le rfl) (by decide)
  refine own_by (T' := T1) (g' := (mkF m 4 #[.val (.ref ob), .val (.int p1), .val (.ref a1), .val (.ref a2), .val (.ref a3), .val (.int p2)] [])) (fun t k => st1 t k) ?_
  refine own_by (T' := T1) (g' := (mkF m 5 #[.val (.ref ob), .val (.int p1), .val (.ref a1), .val (.ref a2), .val (.ref a3), .val (.int p2)] [(.ref ob)])) (fun t k => XS.aloadN X1.here hx rfl (hb hby d1_4) rfl rfl k) ?_
  refine own_by (T' := T1) (g' := (mkF m 6 #[.val (.ref ob), .val (.int p1), .val (.ref a1), .val (.ref a2), .val (.ref a3), .val (.int p2)] [(.int p1), (.ref ob)])) (fun t k => XS.iloadN X1.here hx rfl (hb hby d1_5) rfl k) ?_
  obtain ⟨T2, h2, X2, e2, W2, st2⟩ := putF X1 hx hZ hown (host := "") (Or.inl (hw _ (own_m 11 rfl))) Via.refl e1 F_step_ob E_ob (Or.inr ⟨(hw _ (own_m 12 rfl)), rfl, hnm⟩) (hw _ (own_m 3 rfl)) (ty := .int) (by decide) rfl rfl (g := (mkF m 6 #[.val (.ref ob), .val (.int p1), .val (.ref a1), .val (.ref a2), .val (.ref a3), .val (.int p2)] [(.int p1), (.ref ob)])) rfl rfl (hb hby d1_6)
  have F_step_ob_ := F_step_ob.same W2
  have E_ob := E_ob.wr W2
  have F_clusterIds_ob := F_clusterIds_ob.other W2 (Or.inr (slot_ne (Or.inr (hw _ (own_m 23 rfl))) (Or.inr (hw _ (own_m 12 rfl))) (by decide) (t := (.array .int)) (t' := .int) (by decide) (by decide)))
  have F_costs_ob := F_costs_ob.other W2 (Or.inr (slot_ne (Or.inr (hw _ (own_m 25 rfl))) (Or.inr (hw _ (own_m 12 rfl))) (by decide) (t := (.array .int)) (t' := .int) (by decide) (by decide)))
  have F_targeting_ob := F_targeting_ob.other W2 (Or.inr (slot_ne (Or.inr (hw _ (own_m 27 rfl))) (Or.inr (hw _ (own_m 12 rfl))) (by decide) (t := (.array .int)) (t' := .int) (by decide) (by decide)))
  have F_idle_ob := F_idle_ob.other W2 (Or.inr (slot_ne (Or.inr (hw _ (own_m 29 rfl))) (Or.inr (hw _ (own_m 12 rfl))) (by decide) (t := .int) (t' := .int) (by decide) (by decide)))
  have V_a1 := V_a1.other W2 ne_a1_ob
  have V_a2 := V_a2.other W2 ne_a2_ob
  have V_a3 := V_a3.other W2 ne_a3_ob
  have E_a1 := E_a1.wr W2
  have E_a2 := E_a2.wr W2
  have E_a3 := E_a3.wr W2
  have Zle := Nat.le_trans Zle (Keep.of_wr W2).1
  have K_ := K_.wr W2 (Or.inl (List.mem_of_getElem? (i := 0) rfl))
  have F_step_ob := F_step_ob_
  have N_ := Fr.snoc X2 N_ g_ob
  refine own_by (T' := T2) (g' := (mkF m 9 #[.val (.ref ob), .val (.int p1), .val (.ref a1), .val (.ref a2), .val (.ref a3), .val (.int p2)] [])) (fun t k => st2 t k) ?_
  refine own_by (T' := T2) (g' := (mkF m 10 #[.val (.ref ob), .val (.int p1), .val (.ref a1), .val (.ref a2), .val (.ref a3), .val (.int p2)] [(.ref ob)])) (fun t k => XS.aloadN X2.here hx rfl (hb hby d1_9) rfl rfl k) ?_
  refine own_by (T' := T2) (g' := (mkF m 11 #[.val (.ref ob), .val (.int p1), .val (.ref a1), .val (.ref a2), .val (.ref a3), .val (.int p2)] [(.ref a1), (.ref ob)])) (fun t k => XS.aloadN X2.here hx rfl (hb hby d1_10) rfl rfl k) ?_
  obtain ⟨T3, h3, X3, e3, E3, A3, AE3, st3⟩ := cloneH X2 hx hZ hown (hw _ (own_m 13 rfl)) (hw _ (own_m 14 rfl)) (hw _ (own_m 18 rfl)) (hw _ (own_m 16 rfl)) (hw _ (own_m 17 rfl)) (hw _ (own_m 19 rfl)) e2 V_a1.arh E_a1 (g := (mkF m 11 #[.val (.ref ob), .val (.int p1), .val (.ref a1), .val (.ref a2), .val (.ref a3), .val (.int p2)] [(.ref a1), (.ref ob)])) rfl (by rw [hml]; rfl) rfl (hb hby d1_11) (by decide) (W := 1) (cap := 3) (own_le rfl) (by decide) (by decide) (by decide) (by decide)
  obtain ⟨b3, g3⟩ : ∃ z, z = h2.size := ⟨_, rfl⟩
  rw [← g3] at A3 AE3 st3
  have ne_ob_b3 : ob ≠ b3 := Nat.ne_of_lt (Nat.lt_of_lt_of_eq E_ob.lt g3.symm)
  have ne_a1_b3 : a1 ≠ b3 := Nat.ne_of_lt (Nat.lt_of_lt_of_eq V_a1.lt g3.symm)
  have ne_a2_b3 : a2 ≠ b3 := Nat.ne_of_lt (Nat.lt_of_lt_of_eq V_a2.lt g3.symm)
  have ne_a3_b3 : a3 ≠ b3 := Nat.ne_of_lt (Nat.lt_of_lt_of_eq V_a3.lt g3.symm)
  have g_b3 : n0 ≤ b3 := Nat.le_trans Zle (Nat.le_of_eq g3.symm)
  have sz_b3 : h0.size ≤ b3 := Nat.le_trans K_.1 (Nat.le_of_eq g3.symm)
  have E_ob := E_ob.ext E3
  have F_clusterIds_ob := F_clusterIds_ob.ext E3
  have F_costs_ob := F_costs_ob.ext E3
  have F_targeting_ob := F_targeting_ob.ext E3
  have F_idle_ob := F_idle_ob.ext E3
  have V_a1 := V_a1.ext E3
  have V_a2 := V_a2.ext E3
  have V_a3 := V_a3.ext E3
  have E_a1 := E_a1.ext E3
  have E_a2 := E_a2.ext E3
  have E_a3 := E_a3.ext E3
  have Zle := Nat.le_trans Zle E3.1
  have K_ := K_.ext E3
  have F_step_ob := F_step_ob.ext E3
  have E_b3 := AE3
  have V_b3 : Arv Z h3 b3 k1 .int (3 : Int32) [(.int u0), (.int u1), (.int u2)] (.int 0) := A3
  refine own_by (T' := T3) (g' := (mkF m 14 #[.val (.ref ob), .val (.int p1), .val (.ref a1), .val (.ref a2), .val (.ref a3), .val (.int p2)] [(.ref b3), (.ref ob)])) (fun t k => st3 t k) ?_
  obtain ⟨T4, X4, e4, st4⟩ := castY X3 hx hZ hown (hw _ (own_m 20 rfl)) e3 (Ins.self E_b3) (g := (mkF m 14 #[.val (.ref ob), .val (.int p1), .val (.ref a1), .val (.ref a2), .val (.ref a3), .val (.int p2)] [(.ref b3), (.ref ob)])) rfl rfl (hb hby d1_14)
  refine own_by (T' := T4) (g' := (mkF m 17 #[.val (.ref ob), .val (.int p1), .val (.ref a1), .val (.ref a2), .val (.ref a3), .val (.int p2)] [(.ref b3), (.ref ob)])) (fun t k => st4 t k) ?_
  obtain ⟨T5, h5, X5, e5, W5, st5⟩ := putF X4 hx hZ hown (host := "") (Or.inl (hw _ (own_m 22 rfl))) Via.refl e4 F_clusterIds_ob E_ob (Or.inr ⟨(hw _ (own_m 23 rfl)), rfl, hnm⟩) (hw _ (own_m 3 rfl)) (ty := (.array .int)) (by decide) rfl rfl (g := (mkF m 17 #[.val (.ref ob), .val (.int p1), .val (.ref a1), .val (.ref a2), .val (.ref a3), .val (.int p2)] [(.ref b3), (.ref ob)])) rfl rfl (hb hby d1_17)
  have F_clusterIds_ob_ := F_clusterIds_ob.same W5
  have E_ob := E_ob.wr W5
  have F_costs_ob := F_costs_ob.other W5 (Or.inr (slot_ne (Or.inr (hw _ (own_m 25 rfl))) (Or.inr (hw _ (own_m 23 rfl))) (by decide) (t := (.array .int)) (t' := (.array .int)) (by decide) (by decide)))
  have F_targeting_ob := F_targeting_ob.other W5 (Or.inr (slot_ne (Or.inr (hw _ (own_m 27 rfl))) (Or.inr (hw _ (own_m 23 rfl))) (by decide) (t := (.array .int)) (t' := (.array .int)) (by decide) (by decide)))
  have F_idle_ob := F_idle_ob.other W5 (Or.inr (slot_ne (Or.inr (hw _ (own_m 29 rfl))) (Or.inr (hw _ (own_m 23 rfl))) (by decide) (t := .int) (t' := (.array .int)) (by decide) (by decide)))
  have V_a1 := V_a1.other W5 ne_a1_ob
  have V_a2 := V_a2.other W5 ne_a2_ob
  have V_a3 := V_a3.other W5 ne_a3_ob
  have E_a1 := E_a1.wr W5
  have E_a2 := E_a2.wr W5
  have E_a3 := E_a3.wr W5
  have Zle := Nat.le_trans Zle (Keep.of_wr W5).1
  have K_ := K_.wr W5 (Or.inl (List.mem_of_getElem? (i := 0) rfl))
  have F_step_ob := F_step_ob.other W5 (Or.inr (slot_ne (Or.inr (hw _ (own_m 12 rfl))) (Or.inr (hw _ (own_m 23 rfl))) (by decide) (t := .int) (t' := (.array .int)) (by decide) (by decide)))
  have E_b3 := E_b3.wr W5
  have V_b3 := V_b3.other W5 ne_ob_b3.symm
  have F_clusterIds_ob := F_clusterIds_ob_
  have N_ := Fr.snoc X5 N_ g_ob
  refine own_by (T' := T5) (g' := (mkF m 20 #[.val (.ref ob), .val (.int p1), .val (.ref a1), .val (.ref a2), .val (.ref a3), .val (.int p2)] [])) (fun t k => st5 t k) ?_
  refine own_by (T' := T5) (g' := (mkF m 21 #[.val (.ref ob), .val (.int p1), .val (.ref a1), .val (.ref a2), .val (.ref a3), .val (.int p2)] [(.ref ob)])) (fun t k => XS.aloadN X5.here hx rfl (hb hby d1_20) rfl rfl k) ?_
  refine own_by (T' := T5) (g' := (mkF m 22 #[.val (.ref ob), .val (.int p1), .val (.ref a1), .val (.ref a2), .val (.ref a3), .val (.int p2)] [(.ref a2), (.ref ob)])) (fun t k => XS.aloadN X5.here hx rfl (hb hby d1_21) rfl rfl k) ?_
  obtain ⟨T6, h6, X6, e6, E6, A6, AE6, st6⟩ := cloneH X5 hx hZ hown (hw _ (own_m 13 rfl)) (hw _ (own_m 14 rfl)) (hw _ (own_m 18 rfl)) (hw _ (own_m 16 rfl)) (hw _ (own_m 17 rfl)) (hw _ (own_m 19 rfl)) e5 V_a2.arh E_a2 (g := (mkF m 22 #[.val (.ref ob), .val (.int p1), .val (.ref a1), .val (.ref a2), .val (.ref a3), .val (.int p2)] [(.ref a2), (.ref ob)])) rfl (by rw [hml]; rfl) rfl (hb hby d1_22) (by decide) (W := 1) (cap := 3) (own_le rfl) (by decide) (by decide) (by decide) (by decide)
  obtain ⟨b6, g6⟩ : ∃ z, z = h5.size := ⟨_, rfl⟩
  rw [← g6] at A6 AE6 st6
  have ne_ob_b6 : ob ≠ b6 := Nat.ne_of_lt (Nat.lt_of_lt_of_eq E_ob.lt g6.symm)
  have ne_a1_b6 : a1 ≠ b6 := Nat.ne_of_lt (Nat.lt_of_lt_of_eq V_a1.lt g6.symm)
  have ne_a2_b6 : a2 ≠ b6 := Nat.ne_of_lt (Nat.lt_of_lt_of_eq V_a2.lt g6.symm)
  have ne_a3_b6 : a3 ≠ b6 := Nat.ne_of_lt (Nat.lt_of_lt_of_eq V_a3.lt g6.symm)
  have ne_b3_b6 : b3 ≠ b6 := Nat.ne_of_lt (Nat.lt_of_lt_of_eq E_b3.lt g6.symm)
  have g_b6 : n0 ≤ b6 := Nat.le_trans Zle (Nat.le_of_eq g6.symm)
  have sz_b6 : h0.size ≤ b6 := Nat.le_trans K_.1 (Nat.le_of_eq g6.symm)
  have E_ob := E_ob.ext E6
  have F_costs_ob := F_costs_ob.ext E6
  have F_targeting_ob := F_targeting_ob.ext E6
  have F_idle_ob := F_idle_ob.ext E6
  have V_a1 := V_a1.ext E6
  have V_a2 := V_a2.ext E6
  have V_a3 := V_a3.ext E6
  have E_a1 := E_a1.ext E6
  have E_a2 := E_a2.ext E6
  have E_a3 := E_a3.ext E6
  have Zle := Nat.le_trans Zle E6.1
  have K_ := K_.ext E6
  have F_step_ob := F_step_ob.ext E6
  have E_b3 := E_b3.ext E6
  have V_b3 := V_b3.ext E6
  have F_clusterIds_ob := F_clusterIds_ob.ext E6
  have E_b6 := AE6
  have V_b6 : Arv Z h6 b6 k2 .int (3 : Int32) [(.int v0), (.int v1), (.int v2)] (.int 0) := A6
  refine own_by (T' := T6) (g' := (mkF m 25 #[.val (.ref ob), .val (.int p1), .val (.ref a1), .val (.ref a2), .val (.ref a3), .val (.int p2)] [(.ref b6), (.ref ob)])) (fun t k => st6 t k) ?_
  obtain ⟨T7, X7, e7, st7⟩ := castY X6 hx hZ hown (hw _ (own_m 20 rfl)) e6 (Ins.self E_b6) (g := (mkF m 25 #[.val (.ref ob), .val (.int p1), .val (.ref a1), .val (.ref a2), .val (.ref a3), .val (.int p2)] [(.ref b6), (.ref ob)])) rfl rfl (hb hby d1_25)
  refine own_by (T' := T7) (g' := (mkF m 28 #[.val (.ref ob), .val (.int p1), .val (.ref a1), .val (.ref a2), .val (.ref a3), .val (.int p2)] [(.ref b6), (.ref ob)])) (fun t k => st7 t k) ?_
  obtain ⟨T8, h8, X8, e8, W8, st8⟩ := putF X7 hx hZ hown (host := "") (Or.inl (hw _ (own_m 24 rfl))) Via.refl e7 F_costs_ob E_ob (Or.inr ⟨(hw _ (own_m 25 rfl)), rfl, hnm⟩) (hw _ (own_m 3 rfl)) (ty := (.array .int)) (by decide) rfl rfl (g := (mkF m 28 #[.val (.ref ob), .val (.int p1), .val (.ref a1), .val (.ref a2), .val (.ref a3), .val (.int p2)] [(.ref b6), (.ref ob)])) rfl rfl (hb hby d1_28)
  have F_costs_ob_ := F_costs_ob.same W8
  have E_ob := E_ob.wr W8
  have F_targeting_ob := F_targeting_ob.other W8 (Or.inr (slot_ne (Or.inr (hw _ (own_m 27 rfl))) (Or.inr (hw _ (own_m 25 rfl))) (by decide) (t := (.array .int)) (t' := (.array .int)) (by decide) (by decide)))
  have F_idle_ob := F_idle_ob.other W8 (Or.inr (slot_ne (Or.inr (hw _ (own_m 29 rfl))) (Or.inr (hw _ (own_m 25 rfl))) (by decide) (t := .int) (t' := (.array .int)) (by decide) (by decide)))
  have V_a1 := V_a1.other W8 ne_a1_ob
  have V_a2 := V_a2.other W8 ne_a2_ob
  have V_a3 := V_a3.other W8 ne_a3_ob
  have E_a1 := E_a1.wr W8
  have E_a2 := E_a2.wr W8
  have E_a3 := E_a3.wr W8
  have Zle := Nat.le_trans Zle (Keep.of_wr W8).1
  have K_ := K_.wr W8 (Or.inl (List.mem_of_getElem? (i := 0) rfl))
  have F_step_ob := F_step_ob.other W8 (Or.inr (slot_ne (Or.inr (hw _ (own_m 12 rfl))) (Or.inr (hw _ (own_m 25 rfl))) (by decide) (t := .int) (t' := (.array .int)) (by decide) (by decide)))
  have E_b3 := E_b3.wr W8
  have V_b3 := V_b3.other W8 ne_ob_b3.symm
  have F_clusterIds_ob := F_clusterIds_ob.other W8 (Or.inr (slot_ne (Or.inr (hw _ (own_m 23 rfl))) (Or.inr (hw _ (own_m 25 rfl))) (by decide) (t := (.array .int)) (t' := (.array .int)) (by decide) (by decide)))
  have E_b6 := E_b6.wr W8
  have V_b6 := V_b6.other W8 ne_ob_b6.symm
  have F_costs_ob := F_costs_ob_
  have N_ := Fr.snoc X8 N_ g_ob
  refine own_by (T' := T8) (g' := (mkF m 31 #[.val (.ref ob), .val (.int p1), .val (.ref a1), .val (.ref a2), .val (.ref a3), .val (.int p2)] [])) (fun t k => st8 t k) ?_
  refine own_by (T' := T8) (g' := (mkF m 32 #[.val (.ref ob), .val (.int p1), .val (.ref a1), .val (.ref a2), .val (.ref a3), .val (.int p2)] [(.ref ob)])) (fun t k => XS.aloadN X8.here hx rfl (hb hby d1_31) rfl rfl k) ?_
  refine own_by (T' := T8) (g' := (mkF m 34 #[.val (.ref ob), .val (.int p1), .val (.ref a1), .val (.ref a2), .val (.ref a3), .val (.int p2)] [(.ref a3), (.ref ob)])) (fun t k => XS.aload X8.here hx rfl (hb hby d1_32) rfl rfl k) ?_
  obtain ⟨T9, h9, X9, e9, E9, A9, AE9, st9⟩ := cloneH X8 hx hZ hown (hw _ (own_m 13 rfl)) (hw _ (own_m 14 rfl)) (hw _ (own_m 18 rfl)) (hw _ (own_m 16 rfl)) (hw _ (own_m 17 rfl)) (hw _ (own_m 19 rfl)) e8 V_a3.arh E_a3 (g := (mkF m 34 #[.val (.ref ob), .val (.int p1), .val (.ref a1), .val (.ref a2), .val (.ref a3), .val (.int p2)] [(.ref a3), (.ref ob)])) rfl (by rw [hml]; rfl) rfl (hb hby d1_34) (by decide) (W := 1) (cap := 3) (own_le rfl) (by decide) (by decide) (by decide) (by decide)
  obtain ⟨b9, g9⟩ : ∃ z, z = h8.size := ⟨_, rfl⟩
  rw [← g9] at A9 AE9 st9
  have ne_ob_b9 : ob ≠ b9 := Nat.ne_of_lt (Nat.lt_of_lt_of_eq E_ob.lt g9.symm)
  have ne_a1_b9 : a1 ≠ b9 := Nat.ne_of_lt (Nat.lt_of_lt_of_eq V_a1.lt g9.symm)
  have ne_a2_b9 : a2 ≠ b9 := Nat.ne_of_lt (Nat.lt_of_lt_of_eq V_a2.lt g9.symm)
  have ne_a3_b9 : a3 ≠ b9 := Nat.ne_of_lt (Nat.lt_of_lt_of_eq V_a3.lt g9.symm)
  have ne_b3_b9 : b3 ≠ b9 := Nat.ne_of_lt (Nat.lt_of_lt_of_eq E_b3.lt g9.symm)
  have ne_b6_b9 : b6 ≠ b9 := Nat.ne_of_lt (Nat.lt_of_lt_of_eq E_b6.lt g9.symm)
  have g_b9 : n0 ≤ b9 := Nat.le_trans Zle (Nat.le_of_eq g9.symm)
  have sz_b9 : h0.size ≤ b9 := Nat.le_trans K_.1 (Nat.le_of_eq g9.symm)
  have E_ob := E_ob.ext E9
  have F_targeting_ob := F_targeting_ob.ext E9
  have F_idle_ob := F_idle_ob.ext E9
  have V_a1 := V_a1.ext E9
  have V_a2 := V_a2.ext E9
  have V_a3 := V_a3.ext E9
  have E_a1 := E_a1.ext E9
  have E_a2 := E_a2.ext E9
  have E_a3 := E_a3.ext E9
  have Zle := Nat.le_trans Zle E9.1
  have K_ := K_.ext E9
  have F_step_ob := F_step_ob.ext E9
  have E_b3 := E_b3.ext E9
  have V_b3 := V_b3.ext E9
  have F_clusterIds_ob := F_clusterIds_ob.ext E9
  have E_b6 := E_b6.ext E9
  have V_b6 := V_b6.ext E9
  have F_costs_ob := F_costs_ob.ext E9
  have E_b9 := AE9
  have V_b9 : Arv Z h9 b9 k3 .int (3 : Int32) [(.int w0), (.int w1), (.int w2)] (.int 0) := A9
  refine own_by (T' := T9) (g' := (mkF m 37 #[.val (.ref ob), .val (.int p1), .val (.ref a1), .val (.ref a2), .val (.ref a3), .val (.int p2)] [(.ref b9), (.ref ob)])) (fun t k => st9 t k) ?_
  obtain ⟨T10, X10, e10, st10⟩ := castY X9 hx hZ hown (hw _ (own_m 20 rfl)) e9 (Ins.self E_b9) (g := (mkF m 37 #[.val (.ref ob), .val (.int p1), .val (.ref a1), .val (.ref a2), .val (.ref a3), .val (.int p2)] [(.ref b9), (.ref ob)])) rfl rfl (hb hby d1_37)
  refine own_by (T' := T10) (g' := (mkF m 40 #[.val (.ref ob), .val (.int p1), .val (.ref a1), .val (.ref a2), .val (.ref a3), .val (.int p2)] [(.ref b9), (.ref ob)])) (fun t k => st10 t k) ?_
  obtain ⟨T11, h11, X11, e11, W11, st11⟩ := putF X10 hx hZ hown (host := "") (Or.inl (hw _ (own_m 26 rfl))) Via.refl e10 F_targeting_ob E_ob (Or.inr ⟨(hw _ (own_m 27 rfl)), rfl, hnm⟩) (hw _ (own_m 3 rfl)) (ty := (.array .int)) (by decide) rfl rfl (g := (mkF m 40 #[.val (.ref ob), .val (.int p1), .val (.ref a1), .val (.ref a2), .val (.ref a3), .val (.int p2)] [(.ref b9), (.ref ob)])) rfl rfl (hb hby d1_40)
  have F_targeting_ob_ := F_targeting_ob.same W11
  have E_ob := E_ob.wr W11
  have F_idle_ob := F_idle_ob.other W11 (Or.inr (slot_ne (Or.inr (hw _ (own_m 29 rfl))) (Or.inr (hw _ (own_m 27 rfl))) (by decide) (t := .int) (t' := (.array .int)) (by decide) (by decide)))
  have V_a1 := V_a1.other W11 ne_a1_ob
  have V_a2 := V_a2.other W11 ne_a2_ob
  have V_a3 := V_a3.other W11 ne_a3_ob
  have E_a1 := E_a1.wr W11
  have E_a2 := E_a2.wr W11
  have E_a3 := E_a3.wr W11
  have Zle := Nat.le_trans Zle (Keep.of_wr W11).1
  have K_ := K_.wr W11 (Or.inl (List.mem_of_getElem? (i := 0) rfl))
  have F_step_ob := F_step_ob.other W11 (Or.inr (slot_ne (Or.inr (hw _ (own_m 12 rfl))) (Or.inr (hw _ (own_m 27 rfl))) (by decide) (t := .int) (t' := (.array .int)) (by decide) (by decide)))
  have E_b3 := E_b3.wr W11
  have V_b3 := V_b3.other W11 ne_ob_b3.symm
  have F_clusterIds_ob := F_clusterIds_ob.other W11 (Or.inr (slot_ne (Or.inr (hw _ (own_m 23 rfl))) (Or.inr (hw _ (own_m 27 rfl))) (by decide) (t := (.array .int)) (t' := (.array .int)) (by decide) (by decide)))
  have E_b6 := E_b6.wr W11
  have V_b6 := V_b6.other W11 ne_ob_b6.symm
  have F_costs_ob := F_costs_ob.other W11 (Or.inr (slot_ne (Or.inr (hw _ (own_m 25 rfl))) (Or.inr (hw _ (own_m 27 rfl))) (by decide) (t := (.array .int)) (t' := (.array .int)) (by decide) (by decide)))
  have E_b9 := E_b9.wr W11
  have V_b9 := V_b9.other W11 ne_ob_b9.symm
  have F_targeting_ob := F_targeting_ob_
  have N_ := Fr.snoc X11 N_ g_ob
  refine own_by (T' := T11) (g' := (mkF m 43 #[.val (.ref ob), .val (.int p1), .val (.ref a1), .val (.ref a2), .val (.ref a3), .val (.int p2)] [])) (fun t k => st11 t k) ?_
  refine own_by (T' := T11) (g' := (mkF m 44 #[.val (.ref ob), .val (.int p1), .val (.ref a1), .val (.ref a2), .val (.ref a3), .val (.int p2)] [(.ref ob)])) (fun t k => XS.aloadN X11.here hx rfl (hb hby d1_43) rfl rfl k) ?_
  refine own_by (T' := T11) (g' := (mkF m 46 #[.val (.ref ob), .val (.int p1), .val (.ref a1), .val (.ref a2), .val (.ref a3), .val (.int p2)] [(.int p2), (.ref ob)])) (fun t k => XS.iload X11.here hx rfl (hb hby d1_44) rfl k) ?_
  obtain ⟨T12, h12, X12, e12, W12, st12⟩ := putF X11 hx hZ hown (host := "") (Or.inl (hw _ (own_m 28 rfl))) Via.refl e11 F_idle_ob E_ob (Or.inr ⟨(hw _ (own_m 29 rfl)), rfl, hnm⟩) (hw _ (own_m 3 rfl)) (ty := .int) (by decide) rfl rfl (g := (mkF m 46 #[.val (.ref ob), .val (.int p1), .val (.ref a1), .val (.ref a2), .val (.ref a3), .val (.int p2)] [(.int p2), (.ref ob)])) rfl rfl (hb hby d1_46)
  have F_idle_ob_ := F_idle_ob.same W12
  have E_ob := E_ob.wr W12
  have V_a1 := V_a1.other W12 ne_a1_ob
  have V_a2 := V_a2.other W12 ne_a2_ob
  have V_a3 := V_a3.other W12 ne_a3_ob
  have E_a1 := E_a1.wr W12
  have E_a2 := E_a2.wr W12
  have E_a3 := E_a3.wr W12
  have Zle := Nat.le_trans Zle (Keep.of_wr W12).1
  have K_ := K_.wr W12 (Or.inl (List.mem_of_getElem? (i := 0) rfl))
  have F_step_ob := F_step_ob.other W12 (Or.inr (slot_ne (Or.inr (hw _ (own_m 12 rfl))) (Or.inr (hw _ (own_m 29 rfl))) (by decide) (t := .int) (t' := .int) (by decide) (by decide)))
  have E_b3 := E_b3.wr W12
  have V_b3 := V_b3.other W12 ne_ob_b3.symm
  have F_clusterIds_ob := F_clusterIds_ob.other W12 (Or.inr (slot_ne (Or.inr (hw _ (own_m 23 rfl))) (Or.inr (hw _ (own_m 29 rfl))) (by decide) (t := (.array .int)) (t' := .int) (by decide) (by decide)))
  have E_b6 := E_b6.wr W12
  have V_b6 := V_b6.other W12 ne_ob_b6.symm
  have F_costs_ob := F_costs_ob.other W12 (Or.inr (slot_ne (Or.inr (hw _ (own_m 25 rfl))) (Or.inr (hw _ (own_m 29 rfl))) (by decide) (t := (.array .int)) (t' := .int) (by decide) (by decide)))
  have E_b9 := E_b9.wr W12
  have V_b9 := V_b9.other W12 ne_ob_b9.symm
  have F_targeting_ob := F_targeting_ob.other W12 (Or.inr (slot_ne (Or.inr (hw _ (own_m 27 rfl))) (Or.inr (hw _ (own_m 29 rfl))) (by decide) (t := (.array .int)) (t' := .int) (by decide) (by decide)))
  have F_idle_ob := F_idle_ob_
  have N_ := Fr.snoc X12 N_ g_ob
  refine own_by (T' := T12) (g' := (mkF m 49 #[.val (.ref ob), .val (.int p1), .val (.ref a1), .val (.ref a2), .val (.ref a3), .val (.int p2)] [])) (fun t k => st12 t k) ?_
  exact own_retV X12 hx Bd.notSynchronized Bd.returns (hb hby d1_49) (by decide) (by decide) (by rw [e12]; exact ⟨b6, rfl, N_, K_, E_ob, sz_b6, F_costs_ob, V_b6⟩)

theorem ef_3n3 (m : MethodId) (ob : Addr) : entryFrame m #[(.ref ob)] 6 = mkF m 0 #[.val (.ref ob), .unset, .unset, .unset, .unset, .unset] [] := by first | (simp [entryFrame, mkF, argsToLocals, Value.category]; done) | rfl
def Q3n3 (Z : State) (ob : Addr) (tt : Addr) (k2 : ClassId) (v0 : Int32) (v1 : Int32) (v2 : Int32) (h0 : Heap) (n0 : Nat) (v : Option Value) (h : Heap) (L : List Loc) : Prop := v = some (.int ((((0 : Int32) + v0) + v1) + v2)) ∧ Fr n0 L ∧ h = h0
set_option maxRecDepth 65536 in
set_option maxHeartbeats 40000000 in
theorem rm3n3 (l : Launch) (Z : State) (a0 : Array Value) (hw : ∀ d ∈ tables_1, d.before a0 Z = true) (ws : List Jvm.Cond) (ob : Addr) (tt : Addr) (k2 : ClassId) (v0 : Int32) (v1 : Int32) (v2 : Int32) (h0 : Heap) (n0 : Nat) (Zle : n0 ≤ h0.size) (F_costs_ob : Fld Z h0 ob "com/example/firebreak/firebreak/core/MapStep" "costs" "[I" (.ref tt)) (V_tt : Arv Z h0 tt k2 .int (3 : Int32) [(.int v0), (.int v1), (.int v2)] (.int 0)) :
    MetFree l (⟨"com/example/firebreak/firebreak/core/MapStep", "getBurning", "()I"⟩ : MethodName) (head1 (Jvm.Cond.code (⟨"com/example/firebreak/firebreak/core/MapStep", "getBurning", "()I"⟩ : MethodName) prog_30_method_3_code 6 (some .int) :: ws) ({ frames := 0, cells := 0, slots := 0, locals := 0 } : Room)) (fun a U => a = #[(.ref ob)] ∧ Z.Warmed39 U.vm ∧ U.heap = h0) (fun _ _ _ _ _ => True) (fun _ U o U' => ∃ v L, o = .returned v ∧ Q3n3 Z ob tt k2 v0 v1 v2 h0 n0 v U'.heap L ∧ FrameEnd U o U' L ({ frames := 0, cells := 0, slots := 0, locals := 0 } : Room).cells ({ frames := 0, cells := 0, slots := 0, locals := 0 } : Room).slots) := by
  refine MetFree.of_bodySF (plainFor_of_name pn_com_example_firebreak_firebreak_core_MapStep) hisR ?_
  intro p e s m args below meth c s₁ Bd hml0 hP hK
  obtain ⟨rfl, hZ, hh⟩ := hP
  have hx := Bd.exec
  have hby := Bd.bytes
  have hml : c.maxLocals = 6 := hml0
  have hown : s.vm.findClass "com/example/firebreak/firebreak/core/MapStep" = some m.cls := findClass_of_methodNamed Bd.named
  have hnm := (name_of_methodNamed Bd.named Bd.method).1
  have X0 : Stand p l e ({ frames := 0, cells := 0, slots := 0, locals := 0 } : Room) s m #[(.ref ob)] below meth c s₁ [] 0 0 := Stand.of_body Bd
  have e0 : s₁.heap = h0 := by rw [← hh, Bd.state]; rfl
  have N_ := Fr.nil n0
  show own_Goes p.tables e below s (Q3n3 Z ob tt k2 v0 v1 v2 h0 n0) ({ frames := 0, cells := 0, slots := 0, locals := 0 } : Room).cells ({ frames := 0, cells := 0, slots := 0, locals := 0 } : Room).slots s₁ (entryFrame m #[(.ref ob)] 6)
  refine own_by (T' := s₁) (g' := (mkF m 0 #[.val (.ref ob), .unset, .unset, .unset, .unset, .unset] [])) (fun t k => castTop (ef_3n3 m ob) k) ?_
  refine own_by (T' := s₁) (g' := (mkF m 1 #[.val (.ref ob), .unset, .unset, .unset, .unset, .unset] [(.int 0)])) (fun t k => XS.iconst X0.here hx rfl (hb hby d3_0) k) ?_
  refine own_by (T' := s₁) (g' := (mkF m 2 #[.val (.ref ob), .val (.int 0), .unset, .unset, .unset, .unset] [])) (fun t k => XS.istoreN X0.here hx rfl (hb hby d3_1) rfl (l' := #[.val (.ref ob), .val (.int 0), .unset, .unset, .unset, .unset]) rfl k) ?_
  refine own_by (T' := s₁) (g' := (mkF m 3 #[.val (.ref ob), .val (.int 0), .unset, .unset, .unset, .unset] [(.ref ob)])) (fun t k => XS.aloadN X0.here hx rfl (hb hby d3_2) rfl rfl k) ?_
  obtain ⟨T1, X1, e1, st1⟩ := getF X0 hx hZ hown (host := "") (Or.inl (hw _ (own_m 24 rfl))) Via.refl e0 F_costs_ob (g := (mkF m 3 #[.val (.ref ob), .val (.int 0), .unset, .unset, .unset, .unset] [(.ref ob)])) rfl rfl (hb hby d3_3)
  refine own_by (T' := T1) (g' := (mkF m 6 #[.val (.ref ob), .val (.int 0), .unset, .unset, .unset, .unset] [(.ref tt)])) (fun t k => st1 t k) ?_
  refine own_by (T' := T1) (g' := (mkF m 7 #[.val (.ref ob), .val (.int 0), .val (.ref tt), .unset, .unset, .unset] [])) (fun t k => XS.astoreN X1.here hx rfl (hb hby d3_6) rfl rfl (l' := #[.val (.ref ob), .val (.int 0), .val (.ref tt), .unset, .unset, .unset]) rfl k) ?_
  refine own_by (T' := T1) (g' := (mkF m 8 #[.val (.ref ob), .val (.int 0), .val (.ref tt), .unset, .unset, .unset] [(.ref tt)])) (fun t k => XS.aloadN X1.here hx rfl (hb hby d3_7) rfl rfl k) ?_
  obtain ⟨cl2, Ar2, -, S2, N2, -, -⟩ := id V_tt
  have st2 : ∀ t, Steps p.tables e below (T1.setTop (mkF m 9 #[.val (.ref ob), .val (.int 0), .val (.ref tt), .unset, .unset, .unset] [(.int 3)])) t → Steps p.tables e below (T1.setTop (mkF m 8 #[.val (.ref ob), .val (.int 0), .val (.ref tt), .unset, .unset, .unset] [(.ref tt)])) t := fun t k => X1.arraylength hx (by rw [e1]; exact Ar2.1) (State.isArrayOf_alike hZ.alike Ar2.2.1) (g := (mkF m 8 #[.val (.ref ob), .val (.int 0), .val (.ref tt), .unset, .unset, .unset] [(.ref tt)])) rfl rfl (hb hby d3_8) _ (by rw [len_of S2 N2]; exact k)
  refine own_by (T' := T1) (g' := (mkF m 9 #[.val (.ref ob), .val (.int 0), .val (.ref tt), .unset, .unset, .unset] [(.int 3)])) (fun t k => st2 t k) ?_
  refine own_by (T' := T1) (g' := (mkF m 10 #[.val (.ref ob), .val (.int 0), .val (.ref tt), .val (.int 3), .unset, .unset] [])) (fun t k => XS.istoreN X1.here hx rfl (hb hby d3_9) rfl (l' := #[.val (.ref ob), .val (.int 0), .val (.ref tt), .val (.int 3), .unset, .unset]) rfl k) ?_
  refine own_by (T' := T1) (g' := (mkF m 11 #[.val (.ref ob), .val (.int 0), .val (.ref tt), .val (.int 3), .unset, .unset] [(.int 0)])) (fun t k => XS.iconst X1.here hx rfl (hb hby d3_10) k) ?_
  refine own_by (T' := T1) (g' := (mkF m 13 #[.val (.ref ob), .val (.int 0), .val (.ref tt), .val (.int 3), .val (.int 0), .unset] [])) (fun t k => XS.istore X1.here hx rfl (hb hby d3_11) rfl (l' := #[.val (.ref ob), .val (.int 0), .val (.ref tt), .val (.int 3), .val (.int 0), .unset]) rfl k) ?_
  refine own_by (T' := T1) (g' := (mkF m 15 #[.val (.ref ob), .val (.int 0), .val (.ref tt), .val (.int 3), .val (.int 0), .unset] [(.int 0)])) (fun t k => XS.iload X1.here hx rfl (hb hby d3_13) rfl k) ?_
  refine own_by (T' := T1) (g' := (mkF m 16 #[.val (.ref ob), .val (.int 0), .val (.ref tt), .val (.int 3), .val (.int 0), .unset] [(.int 3), (.int 0)])) (fun t k => XS.iloadN X1.here hx rfl (hb hby d3_15) rfl k) ?_
  refine own_by (T' := T1) (g' := (mkF m 19 #[.val (.ref ob), .val (.int 0), .val (.ref tt), .val (.int 3), .val (.int 0), .unset] [])) (fun t k => XS.icmpNo X1.here hx rfl (hb hby d3_16) rfl (tlt (by decide)).2.1 k) ?_
  refine own_by (T' := T1) (g' := (mkF m 20 #[.val (.ref ob), .val (.int 0), .val (.ref tt), .val (.int 3), .val (.int 0), .unset] [(.ref tt)])) (fun t k => XS.aloadN X1.here hx rfl (hb hby d3_19) rfl rfl k) ?_
  refine own_by (T' := T1) (g' := (mkF m 22 #[.val (.ref ob), .val (.int 0), .val (.ref tt), .val (.int 3), .val (.int 0), .unset] [(.int 0), (.ref tt)])) (fun t k => XS.iload X1.here hx rfl (hb hby d3_20) rfl k) ?_
  obtain ⟨cl3, Ar3, q3, S3, N3, Hs3, G3⟩ := id V_tt
  have hin3 : ¬ ((0 : Int32) < 0 ∨ cl3.slots.size ≤ ((0 : Int32)).toNatClampNeg) := inb_of S3 ⟨by decide, by decide⟩
  have hat3 : cl3.slots[((0 : Int32)).toNatClampNeg]? = some (.int v0) := Hs3.at hin3 rfl
  refine own_by (T' := T1) (g' := (mkF m 23 #[.val (.ref ob), .val (.int 0), .val (.ref tt), .val (.int 3), .val (.int 0), .unset] [(.int v0)])) (fun t k => X1.iaload hx (j := (0 : Int32)) (v := (.int v0)) (by rw [e1]; exact Ar3.1) (State.isArrayOf_alike hZ.alike Ar3.2.1) Ar3.2.2 hin3 hat3 (g := (mkF m 22 #[.val (.ref ob), .val (.int 0), .val (.ref tt), .val (.int 3), .val (.int 0), .unset] [(.int 0), (.ref tt)])) rfl rfl (hb hby d3_22) _ k) ?_
  refine own_by (T' := T1) (g' := (mkF m 25 #[.val (.ref ob), .val (.int 0), .val (.ref tt), .val (.int 3), .val (.int 0), .val (.int v0)] [])) (fun t k => XS.istore X1.here hx rfl (hb hby d3_23) rfl (l' := #[.val (.ref ob), .val (.int 0), .val (.ref tt), .val (.int 3), .val (.int 0), .val (.int v0)]) rfl k) ?_
  refine own_by (T' := T1) (g' := (mkF m 26 #[.val (.ref ob), .val (.int 0), .val (.ref tt), .val (.int 3), .val (.int 0), .val (.int v0)] [(.int 0)])) (fun t k => XS.iloadN X1.here hx rfl (hb hby d3_25) rfl k) ?_
  refine own_by (T' := T1) (g' := (mkF m 28 #[.val (.ref ob), .val (.int 0), .val (.ref tt), .val (.int 3), .val (.int 0), .val (.int v0)] [(.int v0), (.int 0)])) (fun t k => XS.iload X1.here hx rfl (hb hby d3_26) rfl k) ?_
  refine own_by (T' := T1) (g' := (mkF m 29 #[.val (.ref ob), .val (.int 0), .val (.ref tt), .val (.int 3), .val (.int 0), .val (.int v0)] [(.int ((0 : Int32) + v0))])) (fun t k => XS.iadd X1.here hx rfl (hb hby d3_28) rfl k) ?_
  refine own_by (T' := T1) (g' := (mkF m 30 #[.val (.ref ob), .val (.int ((0 : Int32) + v0)), .val (.ref tt), .val (.int 3), .val (.int 0), .val (.int v0)] [])) (fun t k => XS.istoreN X1.here hx rfl (hb hby d3_29) rfl (l' := #[.val (.ref ob), .val (.int ((0 : Int32) + v0)), .val (.ref tt), .val (.int 3), .val (.int 0), .val (.int v0)]) rfl k) ?_
  refine own_by (T' := T1) (g' := (mkF m 33 #[.val (.ref ob), .val (.int ((0 : Int32) + v0)), .val (.ref tt), .val (.int 3), .val (.int 1), .val (.int v0)] [])) (fun t k => XS.iinc X1.here hx rfl (hb hby d3_30) rfl (l' := #[.val (.ref ob), .val (.int ((0 : Int32) + v0)), .val (.ref tt), .val (.int 3), .val (.int 1), .val (.int v0)]) rfl k) ?_
  refine own_by (T' := T1) (g' := (mkF m 13 #[.val (.ref ob), .val (.int ((0 : Int32) + v0)), .val (.ref tt), .val (.int 3), .val (.int 1), .val (.int v0)] [])) (fun t k => XS.goto X1.here hx rfl (pc0 := 33) (pc' := 13) rfl (hb hby d3_33) (by decide) (by decide) k) ?_
  refine own_by (T' := T1) (g' := (mkF m 15 #[.val (.ref ob), .val (.int ((0 : Int32) + v0)), .val (.ref tt), .val (.int 3), .val (.int 1), .val (.int v0)] [(.int 1)])) (fun t k => XS.iload X1.here hx rfl (hb hby d3_13) rfl k) ?_
  refine own_by (T' := T1) (g' := (mkF m 16 #[.val (.ref ob), .val (.int ((0 : Int32) + v0)), .val (.ref tt), .val (.int 3), .val (.int 1), .val (.int v0)] [(.int 3), (.int 1)])) (fun t k => XS.iloadN X1.here hx rfl (hb hby d3_15) rfl k) ?_
  refine own_by (T' := T1) (g' := (mkF m 19 #[.val (.ref ob), .val (.int ((0 : Int32) + v0)), .val (.ref tt), .val (.int 3), .val (.int 1), .val (.int v0)] [])) (fun t k => XS.icmpNo X1.here hx rfl (hb hby d3_16) rfl (tlt (by decide)).2.1 k) ?_
  refine own_by (T' := T1) (g' := (mkF m 20 #[.val (.ref ob), .val (.int ((0 : Int32) + v0)), .val (.ref tt), .val (.int 3), .val (.int 1), .val (.int v0)] [(.ref tt)])) (fun t k => XS.aloadN X1.here hx rfl (hb hby d3_19) rfl rfl k) ?_
  refine own_by (T' := T1) (g' := (mkF m 22 #[.val (.ref ob), .val (.int ((0 : Int32) + v0)), .val (.ref tt), .val (.int 3), .val (.int 1), .val (.int v0)] [(.int 1), (.ref tt)])) (fun t k => XS.iload X1.here hx rfl (hb hby d3_20) rfl k) ?_
  obtain ⟨cl4, Ar4, q4, S4, N4, Hs4, G4⟩ := id V_tt
  have hin4 : ¬ ((1 : Int32) < 0 ∨ cl4.slots.size ≤ ((1 : Int32)).toNatClampNeg) := inb_of S4 ⟨by decide, by decide⟩
  have hat4 : cl4.slots[((1 : Int32)).toNatClampNeg]? = some (.int v1) := Hs4.at hin4 rfl
  refine own_by (T' := T1) (g' := (mkF m 23 #[.val (.ref ob), .val (.int ((0 : Int32) + v0)), .val (.ref tt), .val (.int 3), .val (.int 1), .val (.int v0)] [(.int v1)])) (fun t k => X1.iaload hx (j := (1 : Int32)) (v := (.int v1)) (by rw [e1]; exact Ar4.1) (State.isArrayOf_alike hZ.alike Ar4.2.1) Ar4.2.2 hin4 hat4 (g := (mkF m 22 #[.val (.ref ob), .val (.int ((0 : Int32) + v0)), .val (.ref tt), .val (.int 3), .val (.int 1), .val (.int v0)] [(.int 1), (.ref tt)])) rfl rfl (hb hby d3_22) _ k) ?_
  refine own_by (T' := T1) (g' := (mkF m 25 #[.val (.ref ob), .val (.int ((0 : Int32) + v0)), .val (.ref tt), .val (.int 3), .val (.int 1), .val (.int v1)] [])) (fun t k => XS.istore X1.here hx rfl (hb hby d3_23) rfl (l' := #[.val (.ref ob), .val (.int ((0 : Int32) + v0)), .val (.ref tt), .val (.int 3), .val (.int 1), .val (.int v1)]) rfl k) ?_
  refine own_by (T' := T1) (g' := (mkF m 26 #[.val (.ref ob), .val (.int ((0 : Int32) + v0)), .val (.ref tt), .val (.int 3), .val (.int 1), .val (.int v1)] [(.int ((0 : Int32) + v0))])) (fun t k => XS.iloadN X1.here hx rfl (hb hby d3_25) rfl k) ?_
  refine own_by (T' := T1) (g' := (mkF m 28 #[.val (.ref ob), .val (.int ((0 : Int32) + v0)), .val (.ref tt), .val (.int 3), .val (.int 1), .val (.int v1)] [(.int v1), (.int ((0 : Int32) + v0))])) (fun t k => XS.iload X1.here hx rfl (hb hby d3_26) rfl k) ?_
  refine own_by (T' := T1) (g' := (mkF m 29 #[.val (.ref ob), .val (.int ((0 : Int32) + v0)), .val (.ref tt), .val (.int 3), .val (.int 1), .val (.int v1)] [(.int (((0 : Int32) + v0) + v1))])) (fun t k => XS.iadd X1.here hx rfl (hb hby d3_28) rfl k) ?_
  refine own_by (T' := T1) (g' := (mkF m 30 #[.val (.ref ob), .val (.int (((0 : Int32) + v0) + v1)), .val (.ref tt), .val (.int 3), .val (.int 1), .val (.int v1)] [])) (fun t k => XS.istoreN X1.here hx rfl (hb hby d3_29) rfl (l' := #[.val (.ref ob), .val (.int (((0 : Int32) + v0) + v1)), .val (.ref tt), .val (.int 3), .val (.int 1), .val (.int v1)]) rfl k) ?_
  refine own_by (T' := T1) (g' := (mkF m 33 #[.val (.ref ob), .val (.int (((0 : Int32) + v0) + v1)), .val (.ref tt), .val (.int 3), .val (.int 2), .val (.int v1)] [])) (fun t k => XS.iinc X1.here hx rfl (hb hby d3_30) rfl (l' := #[.val (.ref ob), .val (.int (((0 : Int32) + v0) + v1)), .val (.ref tt), .val (.int 3), .val (.int 2), .val (.int v1)]) rfl k) ?_
  refine own_by (T' := T1) (g' := (mkF m 13 #[.val (.ref ob), .val (.int (((0 : Int32) + v0) + v1)), .val (.ref tt), .val (.int 3), .val (.int 2), .val (.int v1)] [])) (fun t k => XS.goto X1.here hx rfl (pc0 := 33) (pc' := 13) rfl (hb hby d3_33) (by decide) (by decide) k) ?_
  refine own_by (T' := T1) (g' := (mkF m 15 #[.val (.ref ob), .val (.int (((0 : Int32) + v0) + v1)), .val (.ref tt), .val (.int 3), .val (.int 2), .val (.int v1)] [(.int 2)])) (fun t k => XS.iload X1.here hx rfl (hb hby d3_13) rfl k) ?_
  refine own_by (T' := T1) (g' := (mkF m 16 #[.val (.ref ob), .val (.int (((0 : Int32) + v0) + v1)), .val (.ref tt), .val (.int 3), .val (.int 2), .val (.int v1)] [(.int 3), (.int 2)])) (fun t k => XS.iloadN X1.here hx rfl (hb hby d3_15) rfl k) ?_
  refine own_by (T' := T1) (g' := (mkF m 19 #[.val (.ref ob), .val (.int (((0 : Int32) + v0) + v1)), .val (.ref tt), .val (.int 3), .val (.int 2), .val (.int v1)] [])) (fun t k => XS.icmpNo X1.here hx rfl (hb hby d3_16) rfl (tlt (by decide)).2.1 k) ?_
  refine own_by (T' := T1) (g' := (mkF m 20 #[.val (.ref ob), .val (.int (((0 : Int32) + v0) + v1)), .val (.ref tt), .val (.int 3), .val (.int 2), .val (.int v1)] [(.ref tt)])) (fun t k => XS.aloadN X1.here hx rfl (hb hby d3_19) rfl rfl k) ?_
  refine own_by (T' := T1) (g' := (mkF m 22 #[.val (.ref ob), .val (.int (((0 : Int32) + v0) + v1)), .val (.ref tt), .val (.int 3), .val (.int 2), .val (.int v1)] [(.int 2), (.ref tt)])) (fun t k => XS.iload X1.here hx rfl (hb hby d3_20) rfl k) ?_
  obtain ⟨cl5, Ar5, q5, S5, N5, Hs5, G5⟩ := id V_tt
  have hin5 : ¬ ((2 : Int32) < 0 ∨ cl5.slots.size ≤ ((2 : Int32)).toNatClampNeg) := inb_of S5 ⟨by decide, by decide⟩
  have hat5 : cl5.slots[((2 : Int32)).toNatClampNeg]? = some (.int v2) := Hs5.at hin5 rfl
  refine own_by (T' := T1) (g' := (mkF m 23 #[.val (.ref ob), .val (.int (((0 : Int32) + v0) + v1)), .val (.ref tt), .val (.int 3), .val (.int 2), .val (.int v1)] [(.int v2)])) (fun t k => X1.iaload hx (j := (2 : Int32)) (v := (.int v2)) (by rw [e1]; exact Ar5.1) (State.isArrayOf_alike hZ.alike Ar5.2.1) Ar5.2.2 hin5 hat5 (g := (mkF m 22 #[.val (.ref ob), .val (.int (((0 : Int32) + v0) + v1)), .val (.ref tt), .val (.int 3), .val (.int 2), .val (.int v1)] [(.int 2), (.ref tt)])) rfl rfl (hb hby d3_22) _ k) ?_
  refine own_by (T' := T1) (g' := (mkF m 25 #[.val (.ref ob), .val (.int (((0 : Int32) + v0) + v1)), .val (.ref tt), .val (.int 3), .val (.int 2), .val (.int v2)] [])) (fun t k => XS.istore X1.here hx rfl (hb hby d3_23) rfl (l' := #[.val (.ref ob), .val (.int (((0 : Int32) + v0) + v1)), .val (.ref tt), .val (.int 3), .val (.int 2), .val (.int v2)]) rfl k) ?_
  refine own_by (T' := T1) (g' := (mkF m 26 #[.val (.ref ob), .val (.int (((0 : Int32) + v0) + v1)), .val (.ref tt), .val (.int 3), .val (.int 2), .val (.int v2)] [(.int (((0 : Int32) + v0) + v1))])) (fun t k => XS.iloadN X1.here hx rfl (hb hby d3_25) rfl k) ?_
  refine own_by (T' := T1) (g' := (mkF m 28 #[.val (.ref ob), .val (.int (((0 : Int32) + v0) + v1)), .val (.ref tt), .val (.int 3), .val (.int 2), .val (.int v2)] [(.int v2), (.int (((0 : Int32) + v0) + v1))])) (fun t k => XS.iload X1.here hx rfl (hb hby d3_26) rfl k) ?_
  refine own_by (T' := T1) (g' := (mkF m 29 #[.val (.ref ob), .val (.int (((0 : Int32) + v0) + v1)), .val (.ref tt), .val (.int 3), .val (.int 2), .val (.int v2)] [(.int ((((0 : Int32) + v0) + v1) + v2))])) (fun t k => XS.iadd X1.here hx rfl (hb hby d3_28) rfl k) ?_
  refine own_by (T' := T1) (g' := (mkF m 30 #[.val (.ref ob), .val (.int ((((0 : Int32) + v0) + v1) + v2)), .val (.ref tt), .val (.int 3), .val (.int 2), .val (.int v2)] [])) (fun t k => XS.istoreN X1.here hx rfl (hb hby d3_29) rfl (l' := #[.val (.ref ob), .val (.int ((((0 : Int32) + v0) + v1) + v2)), .val (.ref tt), .val (.int 3), .val (.int 2), .val (.int v2)]) rfl k) ?_
  refine own_by (T' := T1) (g' := (mkF m 33 #[.val (.ref ob), .val (.int ((((0 : Int32) + v0) + v1) + v2)), .val (.ref tt), .val (.int 3), .val (.int 3), .val (.int v2)] [])) (fun t k => XS.iinc X1.here hx rfl (hb hby d3_30) rfl (l' := #[.val (.ref ob), .val (.int ((((0 : Int32) + v0) + v1) + v2)), .val (.ref tt), .val (.int 3), .val (.int 3), .val (.int v2)]) rfl k) ?_
  refine own_by (T' := T1) (g' := (mkF m 13 #[.val (.ref ob), .val (.int ((((0 : Int32) + v0) + v1) + v2)), .val (.ref tt), .val (.int 3), .val (.int 3), .val (.int v2)] [])) (fun t k => XS.goto X1.here hx rfl (pc0 := 33) (pc' := 13) rfl (hb hby d3_33) (by decide) (by decide) k) ?_
  refine own_by (T' := T1) (g' := (mkF m 15 #[.val (.ref ob), .val (.int ((((0 : Int32) + v0) + v1) + v2)), .val (.ref tt), .val (.int 3), .val (.int 3), .val (.int v2)] [(.int 3)])) (fun t k => XS.iload X1.here hx rfl (hb hby d3_13) rfl k) ?_
  refine own_by (T' := T1) (g' := (mkF m 16 #[.val (.ref ob), .val (.int ((((0 : Int32) + v0) + v1) + v2)), .val (.ref tt), .val (.int 3), .val (.int 3), .val (.int v2)] [(.int 3), (.int 3)])) (fun t k => XS.iloadN X1.here hx rfl (hb hby d3_15) rfl k) ?_
  refine own_by (T' := T1) (g' := (mkF m 36 #[.val (.ref ob), .val (.int ((((0 : Int32) + v0) + v1) + v2)), .val (.ref tt), .val (.int 3), .val (.int 3), .val (.int v2)] [])) (fun t k => XS.icmpYes X1.here hx rfl (pc0 := 16) (pc' := 36) rfl (hb hby d3_16) rfl (flt (by decide)).2.1 (by decide) (by decide) k) ?_
  refine own_by (T' := T1) (g' := (mkF m 37 #[.val (.ref ob), .val (.int ((((0 : Int32) + v0) + v1) + v2)), .val (.ref tt), .val (.int 3), .val (.int 3), .val (.int v2)] [(.int ((((0 : Int32) + v0) + v1) + v2))])) (fun t k => XS.iloadN X1.here hx rfl (hb hby d3_36) rfl k) ?_
  exact own_retI X1 hx Bd.notSynchronized Bd.returns (hb hby d3_37) (by decide) (by decide) (by rw [e1]; exact ⟨rfl, N_, rfl⟩)

theorem ef_1n4 (m : MethodId) (ob : Addr) (p1 : Int32) (a1 : Addr) (a2 : Addr) (a3 : Addr) (p2 : Int32) : entryFrame m #[(.ref ob), (.int p1), (.ref a1), (.ref a2), (.ref a3), (.int p2)] 6 = mkF m 0 #[.val (.ref ob), .val (.int p1), .val (.ref a1), .val (.ref a2), .val (.ref a3), .val (.int p2)] [] := by first | (simp [entryFrame, mkF, argsToLocals, Value.category]; done) | rfl
def Q1n4 (Z : State) (ob : Addr) (p1 : Int32) (a1 : Addr) (a2 : Addr) (a3 : Addr) (p2 : Int32) (k1 : ClassId) (k2 : ClassId) (k3 : ClassId) (u0 : Int32) (u1 : Int32) (u2 : Int32) (u3 : Int32) (v0 : Int32) (v1 : Int32) (v2 : Int32) (v3 : Int32) (w0 : Int32) (w1 : Int32) (w2 : Int32) (w3 : Int32) (h0 : Heap) (n0 : Nat) (v : Option Value) (h : Heap) (L : List Loc) : Prop := ∃ t2 : Addr, v = none ∧ Fr n0 L ∧ Keep h0 h [ob] ∧ Exa Z h ob "com/example/firebreak/firebreak/core/MapStep" ∧ h0.size ≤ t2 ∧ Fld Z h ob "com/example/firebreak/firebreak/core/MapStep" "costs" "[I" (.ref t2) ∧ Arv Z h t2 k2 .int (4 : Int32) [(.int v0), (.int v1), (.int v2), (.int v3)] (.int 0)
set_option maxRecDepth 65536 in
set_option maxHeartbeats 40000000 in
theorem rm1n4 (l : Launch) (Z : State) (a0 : Array Value) (hw : ∀ d ∈ tables_1, d.before a0 Z = true) (ws : List Jvm.Cond) (ob : Addr) (p1 : Int32) (a1 : Addr) (a2 : Addr) (a3 : Addr) (p2 : Int32) (k1 : ClassId) (k2 : ClassId) (k3 : ClassId) (u0 : Int32) (u1 : Int32) (u2 : Int32) (u3 : Int32) (v0 : Int32) (v1 : Int32) (v2 : Int32) (v3 : Int32) (w0 : Int32) (w1 : Int32) (w2 : Int32) (w3 : Int32) (h0 : Heap) (n0 : Nat) (Zle : n0 ≤ h0.size) (E_ob : Exa Z h0 ob "com/example/firebreak/firebreak/core/MapStep") (g_ob : n0 ≤ ob) (F_step_ob : Fld Z h0 ob "com/example/firebreak/firebreak/core/MapStep" "step" "I" (.int 0)) (F_clusterIds_ob : Fld Z h0 ob "com/example/firebreak/firebreak/core/MapStep" "clusterIds" "[I" .null) (F_costs_ob : Fld Z h0 ob "com/example/firebreak/firebreak/core/MapStep" "costs" "[I" .null) (F_targeting_ob : Fld Z h0 ob "com/example/firebreak/firebreak/core/MapStep" "targeting" "[I" .null) (F_idle_ob : Fld Z h0 ob "com/example/firebreak/firebreak/core/MapStep" "idle" "I" (.int 0)) (V_a1 : Arv Z h0 a1 k1 .int (4 : Int32) [(.int u0), (.int u1), (.int u2), (.int u3)] (.int 0)) (V_a2 : Arv Z h0 a2 k2 .int (4 : Int32) [(.int v0), (.int v1), (.int v2), (.int v3)] (.int 0)) (V_a3 : Arv Z h0 a3 k3 .int (4 : Int32) [(.int w0), (.int w1), (.int w2), (.int w3)] (.int 0)) (E_a1 : Exa Z h0 a1 "[I") (E_a2 : Exa Z h0 a2 "[I") (E_a3 : Exa Z h0 a3 "[I") (ne_a1_ob : a1 ≠ ob) (ne_a2_ob : a2 ≠ ob) (ne_a3_ob : a3 ≠ ob) :
    MetFree l (⟨"com/example/firebreak/firebreak/core/MapStep", "<init>", "(I[I[I[II)V"⟩ : MethodName) (head1 (Jvm.Cond.code (⟨"com/example/firebreak/firebreak/core/MapStep", "<init>", "(I[I[I[II)V"⟩ : MethodName) prog_30_method_1_code 6 none :: ws) ({ frames := 1, cells := 3, slots := 12, locals := 16 } : Room)) (fun a U => a = #[(.ref ob), (.int p1), (.ref a1), (.ref a2), (.ref a3), (.int p2)] ∧ Z.Warmed39 U.vm ∧ U.heap = h0) (fun _ _ _ _ _ => True) (fun _ U o U' => ∃ v L, o = .returned v ∧ Q1n4 Z ob p1 a1 a2 a3 p2 k1 k2 k3 u0 u1 u2 u3 v0 v1 v2 v3 w0 w1 w2 w3 h0 n0 v U'.heap L ∧ FrameEnd U o U' L ({ frames := 1, cells := 3, slots := 12, locals := 16 } : Room).cells ({ frames := 1, cells := 3, slots := 12, locals := 16 } : Room).slots) := by
  refine MetFree.of_bodySF (plainFor_of_name pn_com_example_firebreak_firebreak_core_MapStep) hisR ?_
  intro p e s m args below meth c s₁ Bd hml0 hP hK
  obtain ⟨rfl, hZ, hh⟩ := hP
  have hx := Bd.exec
  have hby := Bd.bytes
  have hml : c.maxLocals = 6 := hml0
  have hown : s.vm.findClass "com/example/firebreak/firebreak/core/MapStep" = some m.cls := findClass_of_methodNamed Bd.named
  have hnm := (name_of_methodNamed Bd.named Bd.method).1
  have X0 : Stand p l e ({ frames := 1, cells := 3, slots := 12, locals := 16 } : Room) s m #[(.ref ob), (.int p1), (.ref a1), (.ref a2), (.ref a3), (.int p2)] below meth c s₁ [] 0 0 := Stand.of_body Bd
  have e0 : s₁.heap = h0 := by rw [← hh, Bd.state]; rfl
  have N_ := Fr.nil n0
  have K_ := Keep.refl h0 [ob]
  show own_Goes p.tables e below s (Q1n4 Z ob p1 a1 a2 a3 p2 k1 k2 k3 u0 u1 u2 u3 v0 v1 v2 v3 w0 w1 w2 w3 h0 n0) ({ frames := 1, cells := 3, slots := 12, locals := 16 } : Room).cells ({ frames := 1, cells := 3, slots := 12, locals := 16 } : Room).slots s₁ (entryFrame m #[(.ref ob), (.int p1), (.ref a1), (.ref a2), (.ref a3), (.int p2)] 6)
  refine own_by (T' := s₁) (g' := (mkF m 0 #[.val (.ref ob), .val (.int p1), .val (.ref a1), .val (.ref a2), .val (.ref a3), .val (.int p2)] [])) (fun t k => castTop (ef_1n4 m ob p1 a1 a2 a3 p2) k) ?_
  refine own_by (T' := s₁) (g' := (mkF m 1 #[.val (.ref ob), .val (.int p1), .val (.ref a1), .val (.ref a2), .val (.ref a3), .val (.int p2)] [(.ref ob)])) (fun t k => XS.aloadN X0.here hx rfl (hb hby d1_0) rfl rfl k) ?_
  obtain ⟨T1, X1, e1, st1⟩ := initO X0 hx hZ hown (hw _ (own_m 8 rfl)) (hw _ (own_m 9 rfl)) (hw _ (own_m 10 rfl)) e0 (g := (mkF m 1 #[.val (.ref ob), .val (.int p1), .val (.ref a1), .val (.ref a2), .val (.ref a3), .val (.int p2)] [(.ref ob)])) rfl (by rw [hml]; rfl) rfl (hb hby d1_1) (by decide) (W := 0) (own_le rfl) (by decide)
  refine own_by (T' := T1) (g' := (mkF m 4 #[.val (.ref ob), .val (.int p1), .val (.ref a1), .val (.ref a2), .val (.ref a3), .val (.int p2)] [])) (fun t k => st1 t k) ?_
  refine own_by (T' := T1) (g' := (mkF m 5 #[.val (.ref ob), .val (.int p1), .val (.ref a1), .val (.ref a2), .val (.ref a3), .val (.int p2)] [(.ref ob)])) (fun t k => XS.aloadN X1.here hx rfl (hb hby d1_4) rfl rfl k) ?_
  refine own_by (T' := T1) (g' := (mkF m 6 #[.val (.ref ob), .val (.int p1), .val (.ref a1), .val (.ref a2), .val (.ref a3), .val (.int p2)] [(.int p1), (.ref ob)])) (fun t k => XS.iloadN X1.here hx rfl (hb hby d1_5) rfl k) ?_
  obtain ⟨T2, h2, X2, e2, W2, st2⟩ := putF X1 hx hZ hown (host := "") (Or.inl (hw _ (own_m 11 rfl))) Via.refl e1 F_step_ob E_ob (Or.inr ⟨(hw _ (own_m 12 rfl)), rfl, hnm⟩) (hw _ (own_m 3 rfl)) (ty := .int) (by decide) rfl rfl (g := (mkF m 6 #[.val (.ref ob), .val (.int p1), .val (.ref a1), .val (.ref a2), .val (.ref a3), .val (.int p2)] [(.int p1), (.ref ob)])) rfl rfl (hb hby d1_6)
  have F_step_ob_ := F_step_ob.same W2
  have E_ob := E_ob.wr W2
  have F_clusterIds_ob := F_clusterIds_ob.other W2 (Or.inr (slot_ne (Or.inr (hw _ (own_m 23 rfl))) (Or.inr (hw _ (own_m 12 rfl))) (by decide) (t := (.array .int)) (t' := .int) (by decide) (by decide)))
  have F_costs_ob := F_costs_ob.other W2 (Or.inr (slot_ne (Or.inr (hw _ (own_m 25 rfl))) (Or.inr (hw _ (own_m 12 rfl))) (by decide) (t := (.array .int)) (t' := .int) (by decide) (by decide)))
  have F_targeting_ob := F_targeting_ob.other W2 (Or.inr (slot_ne (Or.inr (hw _ (own_m 27 rfl))) (Or.inr (hw _ (own_m 12 rfl))) (by decide) (t := (.array .int)) (t' := .int) (by decide) (by decide)))
  have F_idle_ob := F_idle_ob.other W2 (Or.inr (slot_ne (Or.inr (hw _ (own_m 29 rfl))) (Or.inr (hw _ (own_m 12 rfl))) (by decide) (t := .int) (t' := .int) (by decide) (by decide)))
  have V_a1 := V_a1.other W2 ne_a1_ob
  have V_a2 := V_a2.other W2 ne_a2_ob
  have V_a3 := V_a3.other W2 ne_a3_ob
  have E_a1 := E_a1.wr W2
  have E_a2 := E_a2.wr W2
  have E_a3 := E_a3.wr W2
  have Zle := Nat.le_trans Zle (Keep.of_wr W2).1
  have K_ := K_.wr W2 (Or.inl (List.mem_of_getElem? (i := 0) rfl))
  have F_step_ob := F_step_ob_
  have N_ := Fr.snoc X2 N_ g_ob
  refine own_by (T' := T2) (g' := (mkF m 9 #[.val (.ref ob), .val (.int p1), .val (.ref a1), .val (.ref a2), .val (.ref a3), .val (.int p2)] [])) (fun t k => st2 t k) ?_
  refine own_by (T' := T2) (g' := (mkF m 10 #[.val (.ref ob), .val (.int p1), .val (.ref a1), .val (.ref a2), .val (.ref a3), .val (.int p2)] [(.ref ob)])) (fun t k => XS.aloadN X2.here hx rfl (hb hby d1_9) rfl rfl k) ?_
  refine own_by (T' := T2) (g' := (mkF m 11 #[.val (.ref ob), .val (.int p1), .val (.ref a1), .val (.ref a2), .val (.ref a3), .val (.int p2)] [(.ref a1), (.ref ob)])) (fun t k => XS.aloadN X2.here hx rfl (hb hby d1_10) rfl rfl k) ?_
  obtain ⟨T3, h3, X3, e3, E3, A3, AE3, st3⟩ := cloneH X2 hx hZ hown (hw _ (own_m 13 rfl)) (hw _ (own_m 14 rfl)) (hw _ (own_m 18 rfl)) (hw _ (own_m 16 rfl)) (hw _ (own_m 17 rfl)) (hw _ (own_m 19 rfl)) e2 V_a1.arh E_a1 (g := (mkF m 11 #[.val (.ref ob), .val (.int p1), .val (.ref a1), .val (.ref a2), .val (.ref a3), .val (.int p2)] [(.ref a1), (.ref ob)])) rfl (by rw [hml]; rfl) rfl (hb hby d1_11) (by decide) (W := 1) (cap := 4) (own_le rfl) (by decide) (by decide) (by decide) (by decide)
  obtain ⟨b3, g3⟩ : ∃ z, z = h2.size := ⟨_, rfl⟩
  rw [← g3] at A3 AE3 st3
  have ne_ob_b3 : ob ≠ b3 := Nat.ne_of_lt (Nat.lt_of_lt_of_eq E_ob.lt g3.symm)
  have ne_a1_b3 : a1 ≠ b3 := Nat.ne_of_lt (Nat.lt_of_lt_of_eq V_a1.lt g3.symm)
  have ne_a2_b3 : a2 ≠ b3 := Nat.ne_of_lt (Nat.lt_of_lt_of_eq V_a2.lt g3.symm)
  have ne_a3_b3 : a3 ≠ b3 := Nat.ne_of_lt (Nat.lt_of_lt_of_eq V_a3.lt g3.symm)
  have g_b3 : n0 ≤ b3 := Nat.le_trans Zle (Nat.le_of_eq g3.symm)
  have sz_b3 : h0.size ≤ b3 := Nat.le_trans K_.1 (Nat.le_of_eq g3.symm)
  have E_ob := E_ob.ext E3
  have F_clusterIds_ob := F_clusterIds_ob.ext E3
  have F_costs_ob := F_costs_ob.ext E3
  have F_targeting_ob := F_targeting_ob.ext E3
  have F_idle_ob := F_idle_ob.ext E3
  have V_a1 := V_a1.ext E3
  have V_a2 := V_a2.ext E3
  have V_a3 := V_a3.ext E3
  have E_a1 := E_a1.ext E3
  have E_a2 := E_a2.ext E3
  have E_a3 := E_a3.ext E3
  have Zle := Nat.le_trans Zle E3.1
  have K_ := K_.ext E3
  have F_step_ob := F_step_ob.ext E3
  have E_b3 := AE3
  have V_b3 : Arv Z h3 b3 k1 .int (4 : Int32) [(.int u0), (.int u1), (.int u2), (.int u3)] (.int 0) := A3
  refine own_by (T' := T3) (g' := (mkF m 14 #[.val (.ref ob), .val (.int p1), .val (.ref a1), .val (.ref a2), .val (.ref a3), .val (.int p2)] [(.ref b3), (.ref ob)])) (fun t k => st3 t k) ?_
  obtain ⟨T4, X4, e4, st4⟩ := castY X3 hx hZ hown (hw _ (own_m 20 rfl)) e3 (Ins.self E_b3) (g := (mkF m 14 #[.val (.ref ob), .val (.int p1), .val (.ref a1), .val (.ref a2), .val (.ref a3), .val (.int p2)] [(.ref b3), (.ref ob)])) rfl rfl (hb hby d1_14)
  refine own_by (T' := T4) (g' := (mkF m 17 #[.val (.ref ob), .val (.int p1), .val (.ref a1), .val (.ref a2), .val (.ref a3), .val (.int p2)] [(.ref b3), (.ref ob)])) (fun t k => st4 t k) ?_
  obtain ⟨T5, h5, X5, e5, W5, st5⟩ := putF X4 hx hZ hown (host := "") (Or.inl (hw _ (own_m 22 rfl))) Via.refl e4 F_clusterIds_ob E_ob (Or.inr ⟨(hw _ (own_m 23 rfl)), rfl, hnm⟩) (hw _ (own_m 3 rfl)) (ty := (.array .int)) (by decide) rfl rfl (g := (mkF m 17 #[.val (.ref ob), .val (.int p1), .val (.ref a1), .val (.ref a2), .val (.ref a3), .val (.int p2)] [(.ref b3), (.ref ob)])) rfl rfl (hb hby d1_17)
  have F_clusterIds_ob_ := F_clusterIds_ob.same W5
  have E_ob := E_ob.wr W5
  have F_costs_ob := F_costs_ob.other W5 (Or.inr (slot_ne (Or.inr (hw _ (own_m 25 rfl))) (Or.inr (hw _ (own_m 23 rfl))) (by decide) (t := (.array .int)) (t' := (.array .int)) (by decide) (by decide)))
  have F_targeting_ob := F_targeting_ob.other W5 (Or.inr (slot_ne (Or.inr (hw _ (own_m 27 rfl))) (Or.inr (hw _ (own_m 23 rfl))) (by decide) (t := (.array .int)) (t' := (.array .int)) (by decide) (by decide)))
  have F_idle_ob := F_idle_ob.other W5 (Or.inr (slot_ne (Or.inr (hw _ (own_m 29 rfl))) (Or.inr (hw _ (own_m 23 rfl))) (by decide) (t := .int) (t' := (.array .int)) (by decide) (by decide)))
  have V_a1 := V_a1.other W5 ne_a1_ob
  have V_a2 := V_a2.other W5 ne_a2_ob
  have V_a3 := V_a3.other W5 ne_a3_ob
  have E_a1 := E_a1.wr W5
  have E_a2 := E_a2.wr W5
  have E_a3 := E_a3.wr W5
  have Zle := Nat.le_trans Zle (Keep.of_wr W5).1
  have K_ := K_.wr W5 (Or.inl (List.mem_of_getElem? (i := 0) rfl))
  have F_step_ob := F_step_ob.other W5 (Or.inr (slot_ne (Or.inr (hw _ (own_m 12 rfl))) (Or.inr (hw _ (own_m 23 rfl))) (by decide) (t := .int) (t' := (.array .int)) (by decide) (by decide)))
  have E_b3 := E_b3.wr W5
  have V_b3 := V_b3.other W5 ne_ob_b3.symm
  have F_clusterIds_ob := F_clusterIds_ob_
  have N_ := Fr.snoc X5 N_ g_ob
  refine own_by (T' := T5) (g' := (mkF m 20 #[.val (.ref ob), .val (.int p1), .val (.ref a1), .val (.ref a2), .val (.ref a3), .val (.int p2)] [])) (fun t k => st5 t k) ?_
  refine own_by (T' := T5) (g' := (mkF m 21 #[.val (.ref ob), .val (.int p1), .val (.ref a1), .val (.ref a2), .val (.ref a3), .val (.int p2)] [(.ref ob)])) (fun t k => XS.aloadN X5.here hx rfl (hb hby d1_20) rfl rfl k) ?_
  refine own_by (T' := T5) (g' := (mkF m 22 #[.val (.ref ob), .val (.int p1), .val (.ref a1), .val (.ref a2), .val (.ref a3), .val (.int p2)] [(.ref a2), (.ref ob)])) (fun t k => XS.aloadN X5.here hx rfl (hb hby d1_21) rfl rfl k) ?_
  obtain ⟨T6, h6, X6, e6, E6, A6, AE6, st6⟩ := cloneH X5 hx hZ hown (hw _ (own_m 13 rfl)) (hw _ (own_m 14 rfl)) (hw _ (own_m 18 rfl)) (hw _ (own_m 16 rfl)) (hw _ (own_m 17 rfl)) (hw _ (own_m 19 rfl)) e5 V_a2.arh E_a2 (g := (mkF m 22 #[.val (.ref ob), .val (.int p1), .val (.ref a1), .val (.ref a2), .val (.ref a3), .val (.int p2)] [(.ref a2), (.ref ob)])) rfl (by rw [hml]; rfl) rfl (hb hby d1_22) (by decide) (W := 1) (cap := 4) (own_le rfl) (by decide) (by decide) (by decide) (by decide)
  obtain ⟨b6, g6⟩ : ∃ z, z = h5.size := ⟨_, rfl⟩
  rw [← g6] at A6 AE6 st6
  have ne_ob_b6 : ob ≠ b6 := Nat.ne_of_lt (Nat.lt_of_lt_of_eq E_ob.lt g6.symm)
  have ne_a1_b6 : a1 ≠ b6 := Nat.ne_of_lt (Nat.lt_of_lt_of_eq V_a1.lt g6.symm)
  have ne_a2_b6 : a2 ≠ b6 := Nat.ne_of_lt (Nat.lt_of_lt_of_eq V_a2.lt g6.symm)
  have ne_a3_b6 : a3 ≠ b6 := Nat.ne_of_lt (Nat.lt_of_lt_of_eq V_a3.lt g6.symm)
  have ne_b3_b6 : b3 ≠ b6 := Nat.ne_of_lt (Nat.lt_of_lt_of_eq E_b3.lt g6.symm)
  have g_b6 : n0 ≤ b6 := Nat.le_trans Zle (Nat.le_of_eq g6.symm)
  have sz_b6 : h0.size ≤ b6 := Nat.le_trans K_.1 (Nat.le_of_eq g6.symm)
  have E_ob := E_ob.ext E6
  have F_costs_ob := F_costs_ob.ext E6
  have F_targeting_ob := F_targeting_ob.ext E6
  have F_idle_ob := F_idle_ob.ext E6
  have V_a1 := V_a1.ext E6
  have V_a2 := V_a2.ext E6
  have V_a3 := V_a3.ext E6
  have E_a1 := E_a1.ext E6
  have E_a2 := E_a2.ext E6
  have E_a3 := E_a3.ext E6
  have Zle := Nat.le_trans Zle E6.1
  have K_ := K_.ext E6
  have F_step_ob := F_step_ob.ext E6
  have E_b3 := E_b3.ext E6
  have V_b3 := V_b3.ext E6
  have F_clusterIds_ob := F_clusterIds_ob.ext E6
  have E_b6 := AE6
  have V_b6 : Arv Z h6 b6 k2 .int (4 : Int32) [(.int v0), (.int v1), (.int v2), (.int v3)] (.int 0) := A6
  refine own_by (T' := T6) (g' := (mkF m 25 #[.val (.ref ob), .val (.int p1), .val (.ref a1), .val (.ref a2), .val (.ref a3), .val (.int p2)] [(.ref b6), (.ref ob)])) (fun t k => st6 t k) ?_
  obtain ⟨T7, X7, e7, st7⟩ := castY X6 hx hZ hown (hw _ (own_m 20 rfl)) e6 (Ins.self E_b6) (g := (mkF m 25 #[.val (.ref ob), .val (.int p1), .val (.ref a1), .val (.ref a2), .val (.ref a3), .val (.int p2)] [(.ref b6), (.ref ob)])) rfl rfl (hb hby d1_25)
  refine own_by (T' := T7) (g' := (mkF m 28 #[.val (.ref ob), .val (.int p1), .val (.ref a1), .val (.ref a2), .val (.ref a3), .val (.int p2)] [(.ref b6), (.ref ob)])) (fun t k => st7 t k) ?_
  obtain ⟨T8, h8, X8, e8, W8, st8⟩ := putF X7 hx hZ hown (host := "") (Or.inl (hw _ (own_m 24 rfl))) Via.refl e7 F_costs_ob E_ob (Or.inr ⟨(hw _ (own_m 25 rfl)), rfl, hnm⟩) (hw _ (own_m 3 rfl)) (ty := (.array .int)) (by decide) rfl rfl (g := (mkF m 28 #[.val (.ref ob), .val (.int p1), .val (.ref a1), .val (.ref a2), .val (.ref a3), .val (.int p2)] [(.ref b6), (.ref ob)])) rfl rfl (hb hby d1_28)
  have F_costs_ob_ := F_costs_ob.same W8
  have E_ob := E_ob.wr W8
  have F_targeting_ob := F_targeting_ob.other W8 (Or.inr (slot_ne (Or.inr (hw _ (own_m 27 rfl))) (Or.inr (hw _ (own_m 25 rfl))) (by decide) (t := (.array .int)) (t' := (.array .int)) (by decide) (by decide)))
  have F_idle_ob := F_idle_ob.other W8 (Or.inr (slot_ne (Or.inr (hw _ (own_m 29 rfl))) (Or.inr (hw _ (own_m 25 rfl))) (by decide) (t := .int) (t' := (.array .int)) (by decide) (by decide)))
  have V_a1 := V_a1.other W8 ne_a1_ob
  have V_a2 := V_a2.other W8 ne_a2_ob
  have V_a3 := V_a3.other W8 ne_a3_ob
  have E_a1 := E_a1.wr W8
  have E_a2 := E_a2.wr W8
  have E_a3 := E_a3.wr W8
  have Zle := Nat.le_trans Zle (Keep.of_wr W8).1
  have K_ := K_.wr W8 (Or.inl (List.mem_of_getElem? (i := 0) rfl))
  have F_step_ob := F_step_ob.other W8 (Or.inr (slot_ne (Or.inr (hw _ (own_m 12 rfl))) (Or.inr (hw _ (own_m 25 rfl))) (by decide) (t := .int) (t' := (.array .int)) (by decide) (by decide)))
  have E_b3 := E_b3.wr W8
  have V_b3 := V_b3.other W8 ne_ob_b3.symm
  have F_clusterIds_ob := F_clusterIds_ob.other W8 (Or.inr (slot_ne (Or.inr (hw _ (own_m 23 rfl))) (Or.inr (hw _ (own_m 25 rfl))) (by decide) (t := (.array .int)) (t' := (.array .int)) (by decide) (by decide)))
  have E_b6 := E_b6.wr W8
  have V_b6 := V_b6.other W8 ne_ob_b6.symm
  have F_costs_ob := F_costs_ob_
  have N_ := Fr.snoc X8 N_ g_ob
  refine own_by (T' := T8) (g' := (mkF m 31 #[.val (.ref ob), .val (.int p1), .val (.ref a1), .val (.ref a2), .val (.ref a3), .val (.int p2)] [])) (fun t k => st8 t k) ?_
  refine own_by (T' := T8) (g' := (mkF m 32 #[.val (.ref ob), .val (.int p1), .val (.ref a1), .val (.ref a2), .val (.ref a3), .val (.int p2)] [(.ref ob)])) (fun t k => XS.aloadN X8.here hx rfl (hb hby d1_31) rfl rfl k) ?_
  refine own_by (T' := T8) (g' := (mkF m 34 #[.val (.ref ob), .val (.int p1), .val (.ref a1), .val (.ref a2), .val (.ref a3), .val (.int p2)] [(.ref a3), (.ref ob)])) (fun t k => XS.aload X8.here hx rfl (hb hby d1_32) rfl rfl k) ?_
  obtain ⟨T9, h9, X9, e9, E9, A9, AE9, st9⟩ := cloneH X8 hx hZ hown (hw _ (own_m 13 rfl)) (hw _ (own_m 14 rfl)) (hw _ (own_m 18 rfl)) (hw _ (own_m 16 rfl)) (hw _ (own_m 17 rfl)) (hw _ (own_m 19 rfl)) e8 V_a3.arh E_a3 (g := (mkF m 34 #[.val (.ref ob), .val (.int p1), .val (.ref a1), .val (.ref a2), .val (.ref a3), .val (.int p2)] [(.ref a3), (.ref ob)])) rfl (by rw [hml]; rfl) rfl (hb hby d1_34) (by decide) (W := 1) (cap := 4) (own_le rfl) (by decide) (by decide) (by decide) (by decide)
  obtain ⟨b9, g9⟩ : ∃ z, z = h8.size := ⟨_, rfl⟩
  rw [← g9] at A9 AE9 st9
  have ne_ob_b9 : ob ≠ b9 := Nat.ne_of_lt (Nat.lt_of_lt_of_eq E_ob.lt g9.symm)
  have ne_a1_b9 : a1 ≠ b9 := Nat.ne_of_lt (Nat.lt_of_lt_of_eq V_a1.lt g9.symm)
  have ne_a2_b9 : a2 ≠ b9 := Nat.ne_of_lt (Nat.lt_of_lt_of_eq V_a2.lt g9.symm)
  have ne_a3_b9 : a3 ≠ b9 := Nat.ne_of_lt (Nat.lt_of_lt_of_eq V_a3.lt g9.symm)
  have ne_b3_b9 : b3 ≠ b9 := Nat.ne_of_lt (Nat.lt_of_lt_of_eq E_b3.lt g9.symm)
  have ne_b6_b9 : b6 ≠ b9 := Nat.ne_of_lt (Nat.lt_of_lt_of_eq E_b6.lt g9.symm)
  have g_b9 : n0 ≤ b9 := Nat.le_trans Zle (Nat.le_of_eq g9.symm)
  have sz_b9 : h0.size ≤ b9 := Nat.le_trans K_.1 (Nat.le_of_eq g9.symm)
  have E_ob := E_ob.ext E9
  have F_targeting_ob := F_targeting_ob.ext E9
  have F_idle_ob := F_idle_ob.ext E9
  have V_a1 := V_a1.ext E9
  have V_a2 := V_a2.ext E9
  have V_a3 := V_a3.ext E9
  have E_a1 := E_a1.ext E9
  have E_a2 := E_a2.ext E9
  have E_a3 := E_a3.ext E9
  have Zle := Nat.le_trans Zle E9.1
  have K_ := K_.ext E9
  have F_step_ob := F_step_ob.ext E9
  have E_b3 := E_b3.ext E9
  have V_b3 := V_b3.ext E9
  have F_clusterIds_ob := F_clusterIds_ob.ext E9
  have E_b6 := E_b6.ext E9
  have V_b6 := V_b6.ext E9
  have F_costs_ob := F_costs_ob.ext E9
  have E_b9 := AE9
  have V_b9 : Arv Z h9 b9 k3 .int (4 : Int32) [(.int w0), (.int w1), (.int w2), (.int w3)] (.int 0) := A9
  refine own_by (T' := T9) (g' := (mkF m 37 #[.val (.ref ob), .val (.int p1), .val (.ref a1), .val (.ref a2), .val (.ref a3), .val (.int p2)] [(.ref b9), (.ref ob)])) (fun t k => st9 t k) ?_
  obtain ⟨T10, X10, e10, st10⟩ := castY X9 hx hZ hown (hw _ (own_m 20 rfl)) e9 (Ins.self E_b9) (g := (mkF m 37 #[.val (.ref ob), .val (.int p1), .val (.ref a1), .val (.ref a2), .val (.ref a3), .val (.int p2)] [(.ref b9), (.ref ob)])) rfl rfl (hb hby d1_37)
  refine own_by (T' := T10) (g' := (mkF m 40 #[.val (.ref ob), .val (.int p1), .val (.ref a1), .val (.ref a2), .val (.ref a3), .val (.int p2)] [(.ref b9), (.ref ob)])) (fun t k => st10 t k) ?_
  obtain ⟨T11, h11, X11, e11, W11, st11⟩ := putF X10 hx hZ hown (host := "") (Or.inl (hw _ (own_m 26 rfl))) Via.refl e10 F_targeting_ob E_ob (Or.inr ⟨(hw _ (own_m 27 rfl)), rfl, hnm⟩) (hw _ (own_m 3 rfl)) (ty := (.array .int)) (by decide) rfl rfl (g := (mkF m 40 #[.val (.ref ob), .val (.int p1), .val (.ref a1), .val (.ref a2), .val (.ref a3), .val (.int p2)] [(.ref b9), (.ref ob)])) rfl rfl (hb hby d1_40)
  have F_targeting_ob_ := F_targeting_ob.same W11
  have E_ob := E_ob.wr W11
  have F_idle_ob := F_idle_ob.other W11 (Or.inr (slot_ne (Or.inr (hw _ (own_m 29 rfl))) (Or.inr (hw _ (own_m 27 rfl))) (by decide) (t := .int) (t' := (.array .int)) (by decide) (by decide)))
  have V_a1 := V_a1.other W11 ne_a1_ob
  have V_a2 := V_a2.other W11 ne_a2_ob
  have V_a3 := V_a3.other W11 ne_a3_ob
  have E_a1 := E_a1.wr W11
  have E_a2 := E_a2.wr W11
  have E_a3 := E_a3.wr W11
  have Zle := Nat.le_trans Zle (Keep.of_wr W11).1
  have K_ := K_.wr W11 (Or.inl (List.mem_of_getElem? (i := 0) rfl))
  have F_step_ob := F_step_ob.other W11 (Or.inr (slot_ne (Or.inr (hw _ (own_m 12 rfl))) (Or.inr (hw _ (own_m 27 rfl))) (by decide) (t := .int) (t' := (.array .int)) (by decide) (by decide)))
  have E_b3 := E_b3.wr W11
  have V_b3 := V_b3.other W11 ne_ob_b3.symm
  have F_clusterIds_ob := F_clusterIds_ob.other W11 (Or.inr (slot_ne (Or.inr (hw _ (own_m 23 rfl))) (Or.inr (hw _ (own_m 27 rfl))) (by decide) (t := (.array .int)) (t' := (.array .int)) (by decide) (by decide)))
  have E_b6 := E_b6.wr W11
  have V_b6 := V_b6.other W11 ne_ob_b6.symm
  have F_costs_ob := F_costs_ob.other W11 (Or.inr (slot_ne (Or.inr (hw _ (own_m 25 rfl))) (Or.inr (hw _ (own_m 27 rfl))) (by decide) (t := (.array .int)) (t' := (.array .int)) (by decide) (by decide)))
  have E_b9 := E_b9.wr W11
  have V_b9 := V_b9.other W11 ne_ob_b9.symm
  have F_targeting_ob := F_targeting_ob_
  have N_ := Fr.snoc X11 N_ g_ob
  refine own_by (T' := T11) (g' := (mkF m 43 #[.val (.ref ob), .val (.int p1), .val (.ref a1), .val (.ref a2), .val (.ref a3), .val (.int p2)] [])) (fun t k => st11 t k) ?_
  refine own_by (T' := T11) (g' := (mkF m 44 #[.val (.ref ob), .val (.int p1), .val (.ref a1), .val (.ref a2), .val (.ref a3), .val (.int p2)] [(.ref ob)])) (fun t k => XS.aloadN X11.here hx rfl (hb hby d1_43) rfl rfl k) ?_
  refine own_by (T' := T11) (g' := (mkF m 46 #[.val (.ref ob), .val (.int p1), .val (.ref a1), .val (.ref a2), .val (.ref a3), .val (.int p2)] [(.int p2), (.ref ob)])) (fun t k => XS.iload X11.here hx rfl (hb hby d1_44) rfl k) ?_
  obtain ⟨T12, h12, X12, e12, W12, st12⟩ := putF X11 hx hZ hown (host := "") (Or.inl (hw _ (own_m 28 rfl))) Via.refl e11 F_idle_ob E_ob (Or.inr ⟨(hw _ (own_m 29 rfl)), rfl, hnm⟩) (hw _ (own_m 3 rfl)) (ty := .int) (by decide) rfl rfl (g := (mkF m 46 #[.val (.ref ob), .val (.int p1), .val (.ref a1), .val (.ref a2), .val (.ref a3), .val (.int p2)] [(.int p2), (.ref ob)])) rfl rfl (hb hby d1_46)
  have F_idle_ob_ := F_idle_ob.same W12
  have E_ob := E_ob.wr W12
  have V_a1 := V_a1.other W12 ne_a1_ob
  have V_a2 := V_a2.other W12 ne_a2_ob
  have V_a3 := V_a3.other W12 ne_a3_ob
  have E_a1 := E_a1.wr W12
  have E_a2 := E_a2.wr W12
  have E_a3 := E_a3.wr W12
  have Zle := Nat.le_trans Zle (Keep.of_wr W12).1
  have K_ := K_.wr W12 (Or.inl (List.mem_of_getElem? (i := 0) rfl))
  have F_step_ob := F_step_ob.other W12 (Or.inr (slot_ne (Or.inr (hw _ (own_m 12 rfl))) (Or.inr (hw _ (own_m 29 rfl))) (by decide) (t := .int) (t' := .int) (by decide) (by decide)))
  have E_b3 := E_b3.wr W12
  have V_b3 := V_b3.other W12 ne_ob_b3.symm
  have F_clusterIds_ob := F_clusterIds_ob.other W12 (Or.inr (slot_ne (Or.inr (hw _ (own_m 23 rfl))) (Or.inr (hw _ (own_m 29 rfl))) (by decide) (t := (.array .int)) (t' := .int) (by decide) (by decide)))
  have E_b6 := E_b6.wr W12
  have V_b6 := V_b6.other W12 ne_ob_b6.symm
  have F_costs_ob := F_costs_ob.other W12 (Or.inr (slot_ne (Or.inr (hw _ (own_m 25 rfl))) (Or.inr (hw _ (own_m 29 rfl))) (by decide) (t := (.array .int)) (t' := .int) (by decide) (by decide)))
  have E_b9 := E_b9.wr W12
  have V_b9 := V_b9.other W12 ne_ob_b9.symm
  have F_targeting_ob := F_targeting_ob.other W12 (Or.inr (slot_ne (Or.inr (hw _ (own_m 27 rfl))) (Or.inr (hw _ (own_m 29 rfl))) (by decide) (t := (.array .int)) (t' := .int) (by decide) (by decide)))
  have F_idle_ob := F_idle_ob_
  have N_ := Fr.snoc X12 N_ g_ob
  refine own_by (T' := T12) (g' := (mkF m 49 #[.val (.ref ob), .val (.int p1), .val (.ref a1), .val (.ref a2), .val (.ref a3), .val (.int p2)] [])) (fun t k => st12 t k) ?_
  exact own_retV X12 hx Bd.notSynchronized Bd.returns (hb hby d1_49) (by decide) (by decide) (by rw [e12]; exact ⟨b6, rfl, N_, K_, E_ob, sz_b6, F_costs_ob, V_b6⟩)

theorem ef_3n4 (m : MethodId) (ob : Addr) : entryFrame m #[(.ref ob)] 6 = mkF m 0 #[.val (.ref ob), .unset, .unset, .unset, .unset, .unset] [] := by first | (simp [entryFrame, mkF, argsToLocals, Value.category]; done) | rfl
def Q3n4 (Z : State) (ob : Addr) (tt : Addr) (k2 : ClassId) (v0 : Int32) (v1 : Int32) (v2 : Int32) (v3 : Int32) (h0 : Heap) (n0 : Nat) (v : Option Value) (h : Heap) (L : List Loc) : Prop := v = some (.int (((((0 : Int32) + v0) + v1) + v2) + v3)) ∧ Fr n0 L ∧ h = h0
set_option maxRecDepth 65536 in
set_option maxHeartbeats 40000000 in
theorem rm3n4 (l : Launch) (Z : State) (a0 : Array Value) (hw : ∀ d ∈ tables_1, d.before a0 Z = true) (ws : List Jvm.Cond) (ob : Addr) (tt : Addr) (k2 : ClassId) (v0 : Int32) (v1 : Int32) (v2 : Int32) (v3 : Int32) (h0 : Heap) (n0 : Nat) (Zle : n0 ≤ h0.size) (F_costs_ob : Fld Z h0 ob "com/example/firebreak/firebreak/core/MapStep" "costs" "[I" (.ref tt)) (V_tt : Arv Z h0 tt k2 .int (4 : Int32) [(.int v0), (.int v1), (.int v2), (.int v3)] (.int 0)) :
    MetFree l (⟨"com/example/firebreak/firebreak/core/MapStep", "getBurning", "()I"⟩ : MethodName) (head1 (Jvm.Cond.code (⟨"com/example/firebreak/firebreak/core/MapStep", "getBurning", "()I"⟩ : MethodName) prog_30_method_3_code 6 (some .int) :: ws) ({ frames := 0, cells := 0, slots := 0, locals := 0 } : Room)) (fun a U => a = #[(.ref ob)] ∧ Z.Warmed39 U.vm ∧ U.heap = h0) (fun _ _ _ _ _ => True) (fun _ U o U' => ∃ v L, o = .returned v ∧ Q3n4 Z ob tt k2 v0 v1 v2 v3 h0 n0 v U'.heap L ∧ FrameEnd U o U' L ({ frames := 0, cells := 0, slots := 0, locals := 0 } : Room).cells ({ frames := 0, cells := 0, slots := 0, locals := 0 } : Room).slots) := by
  refine MetFree.of_bodySF (plainFor_of_name pn_com_example_firebreak_firebreak_core_MapStep) hisR ?_
  intro p e s m args below meth c s₁ Bd hml0 hP hK
  obtain ⟨rfl, hZ, hh⟩ := hP
  have hx := Bd.exec
  have hby := Bd.bytes
  have hml : c.maxLocals = 6 := hml0
  have hown : s.vm.findClass "com/example/firebreak/firebreak/core/MapStep" = some m.cls := findClass_of_methodNamed Bd.named
  have hnm := (name_of_methodNamed Bd.named Bd.method).1
  have X0 : Stand p l e ({ frames := 0, cells := 0, slots := 0, locals := 0 } : Room) s m #[(.ref ob)] below meth c s₁ [] 0 0 := Stand.of_body Bd
  have e0 : s₁.heap = h0 := by rw [← hh, Bd.state]; rfl
  have N_ := Fr.nil n0
  show own_Goes p.tables e below s (Q3n4 Z ob tt k2 v0 v1 v2 v3 h0 n0) ({ frames := 0, cells := 0, slots := 0, locals := 0 } : Room).cells ({ frames := 0, cells := 0, slots := 0, locals := 0 } : Room).slots s₁ (entryFrame m #[(.ref ob)] 6)
  refine own_by (T' := s₁) (g' := (mkF m 0 #[.val (.ref ob), .unset, .unset, .unset, .unset, .unset] [])) (fun t k => castTop (ef_3n4 m ob) k) ?_
  refine own_by (T' := s₁) (g' := (mkF m 1 #[.val (.ref ob), .unset, .unset, .unset, .unset, .unset] [(.int 0)])) (fun t k => XS.iconst X0.here hx rfl (hb hby d3_0) k) ?_
  refine own_by (T' := s₁) (g' := (mkF m 2 #[.val (.ref ob), .val (.int 0), .unset, .unset, .unset, .unset] [])) (fun t k => XS.istoreN X0.here hx rfl (hb hby d3_1) rfl (l' := #[.val (.ref ob), .val (.int 0), .unset, .unset, .unset, .unset]) rfl k) ?_
  refine own_by (T' := s₁) (g' := (mkF m 3 #[.val (.ref ob), .val (.int 0), .unset, .unset, .unset, .unset] [(.ref ob)])) (fun t k => XS.aloadN X0.here hx rfl (hb hby d3_2) rfl rfl k) ?_
  obtain ⟨T1, X1, e1, st1⟩ := getF X0 hx hZ hown (host := "") (Or.inl (hw _ (own_m 24 rfl))) Via.refl e0 F_costs_ob (g := (mkF m 3 #[.val (.ref ob), .val (.int 0), .unset, .unset, .unset, .unset] [(.ref ob)])) rfl rfl (hb hby d3_3)
  refine own_by (T' := T1) (g' := (mkF m 6 #[.val (.ref ob), .val (.int 0), .unset, .unset, .unset, .unset] [(.ref tt)])) (fun t k => st1 t k) ?_
  refine own_by (T' := T1) (g' := (mkF m 7 #[.val (.ref ob), .val (.int 0), .val (.ref tt), .unset, .unset, .unset] [])) (fun t k => XS.astoreN X1.here hx rfl (hb hby d3_6) rfl rfl (l' := #[.val (.ref ob), .val (.int 0), .val (.ref tt), .unset, .unset, .unset]) rfl k) ?_
  refine own_by (T' := T1) (g' := (mkF m 8 #[.val (.ref ob), .val (.int 0), .val (.ref tt), .unset, .unset, .unset] [(.ref tt)])) (fun t k => XS.aloadN X1.here hx rfl (hb hby d3_7) rfl rfl k) ?_
  obtain ⟨cl2, Ar2, -, S2, N2, -, -⟩ := id V_tt
  have st2 : ∀ t, Steps p.tables e below (T1.setTop (mkF m 9 #[.val (.ref ob), .val (.int 0), .val (.ref tt), .unset, .unset, .unset] [(.int 4)])) t → Steps p.tables e below (T1.setTop (mkF m 8 #[.val (.ref ob), .val (.int 0), .val (.ref tt), .unset, .unset, .unset] [(.ref tt)])) t := fun t k => X1.arraylength hx (by rw [e1]; exact Ar2.1) (State.isArrayOf_alike hZ.alike Ar2.2.1) (g := (mkF m 8 #[.val (.ref ob), .val (.int 0), .val (.ref tt), .unset, .unset, .unset] [(.ref tt)])) rfl rfl (hb hby d3_8) _ (by rw [len_of S2 N2]; exact k)
  refine own_by (T' := T1) (g' := (mkF m 9 #[.val (.ref ob), .val (.int 0), .val (.ref tt), .unset, .unset, .unset] [(.int 4)])) (fun t k => st2 t k) ?_
  refine own_by (T' := T1) (g' := (mkF m 10 #[.val (.ref ob), .val (.int 0), .val (.ref tt), .val (.int 4), .unset, .unset] [])) (fun t k => XS.istoreN X1.here hx rfl (hb hby d3_9) rfl (l' := #[.val (.ref ob), .val (.int 0), .val (.ref tt), .val (.int 4), .unset, .unset]) rfl k) ?_
  refine own_by (T' := T1) (g' := (mkF m 11 #[.val (.ref ob), .val (.int 0), .val (.ref tt), .val (.int 4), .unset, .unset] [(.int 0)])) (fun t k => XS.iconst X1.here hx rfl (hb hby d3_10) k) ?_
  refine own_by (T' := T1) (g' := (mkF m 13 #[.val (.ref ob), .val (.int 0), .val (.ref tt), .val (.int 4), .val (.int 0), .unset] [])) (fun t k => XS.istore X1.here hx rfl (hb hby d3_11) rfl (l' := #[.val (.ref ob), .val (.int 0), .val (.ref tt), .val (.int 4), .val (.int 0), .unset]) rfl k) ?_
  refine own_by (T' := T1) (g' := (mkF m 15 #[.val (.ref ob), .val (.int 0), .val (.ref tt), .val (.int 4), .val (.int 0), .unset] [(.int 0)])) (fun t k => XS.iload X1.here hx rfl (hb hby d3_13) rfl k) ?_
  refine own_by (T' := T1) (g' := (mkF m 16 #[.val (.ref ob), .val (.int 0), .val (.ref tt), .val (.int 4), .val (.int 0), .unset] [(.int 4), (.int 0)])) (fun t k => XS.iloadN X1.here hx rfl (hb hby d3_15) rfl k) ?_
  refine own_by (T' := T1) (g' := (mkF m 19 #[.val (.ref ob), .val (.int 0), .val (.ref tt), .val (.int 4), .val (.int 0), .unset] [])) (fun t k => XS.icmpNo X1.here hx rfl (hb hby d3_16) rfl (tlt (by decide)).2.1 k) ?_
  refine own_by (T' := T1) (g' := (mkF m 20 #[.val (.ref ob), .val (.int 0), .val (.ref tt), .val (.int 4), .val (.int 0), .unset] [(.ref tt)])) (fun t k => XS.aloadN X1.here hx rfl (hb hby d3_19) rfl rfl k) ?_
  refine own_by (T' := T1) (g' := (mkF m 22 #[.val (.ref ob), .val (.int 0), .val (.ref tt), .val (.int 4), .val (.int 0), .unset] [(.int 0), (.ref tt)])) (fun t k => XS.iload X1.here hx rfl (hb hby d3_20) rfl k) ?_
  obtain ⟨cl3, Ar3, q3, S3, N3, Hs3, G3⟩ := id V_tt
  have hin3 : ¬ ((0 : Int32) < 0 ∨ cl3.slots.size ≤ ((0 : Int32)).toNatClampNeg) := inb_of S3 ⟨by decide, by decide⟩
  have hat3 : cl3.slots[((0 : Int32)).toNatClampNeg]? = some (.int v0) := Hs3.at hin3 rfl
  refine own_by (T' := T1) (g' := (mkF m 23 #[.val (.ref ob), .val (.int 0), .val (.ref tt), .val (.int 4), .val (.int 0), .unset] [(.int v0)])) (fun t k => X1.iaload hx (j := (0 : Int32)) (v := (.int v0)) (by rw [e1]; exact Ar3.1) (State.isArrayOf_alike hZ.alike Ar3.2.1) Ar3.2.2 hin3 hat3 (g := (mkF m 22 #[.val (.ref ob), .val (.int 0), .val (.ref tt), .val (.int 4), .val (.int 0), .unset] [(.int 0), (.ref tt)])) rfl rfl (hb hby d3_22) _ k) ?_
  refine own_by (T' := T1) (g' := (mkF m 25 #[.val (.ref ob), .val (.int 0), .val (.ref tt), .val (.int 4), .val (.int 0), .val (.int v0)] [])) (fun t k => XS.istore X1.here hx rfl (hb hby d3_23) rfl (l' := #[.val (.ref ob), .val (.int 0), .val (.ref tt), .val (.int 4), .val (.int 0), .val (.int v0)]) rfl k) ?_
  refine own_by (T' := T1) (g' := (mkF m 26 #[.val (.ref ob), .val (.int 0), .val (.ref tt), .val (.int 4), .val (.int 0), .val (.int v0)] [(.int 0)])) (fun t k => XS.iloadN X1.here hx rfl (hb hby d3_25) rfl k) ?_
  refine own_by (T' := T1) (g' := (mkF m 28 #[.val (.ref ob), .val (.int 0), .val (.ref tt), .val (.int 4), .val (.int 0), .val (.int v0)] [(.int v0), (.int 0)])) (fun t k => XS.iload X1.here hx rfl (hb hby d3_26) rfl k) ?_
  refine own_by (T' := T1) (g' := (mkF m 29 #[.val (.ref ob), .val (.int 0), .val (.ref tt), .val (.int 4), .val (.int 0), .val (.int v0)] [(.int ((0 : Int32) + v0))])) (fun t k => XS.iadd X1.here hx rfl (hb hby d3_28) rfl k) ?_
  refine own_by (T' := T1) (g' := (mkF m 30 #[.val (.ref ob), .val (.int ((0 : Int32) + v0)), .val (.ref tt), .val (.int 4), .val (.int 0), .val (.int v0)] [])) (fun t k => XS.istoreN X1.here hx rfl (hb hby d3_29) rfl (l' := #[.val (.ref ob), .val (.int ((0 : Int32) + v0)), .val (.ref tt), .val (.int 4), .val (.int 0), .val (.int v0)]) rfl k) ?_
  refine own_by (T' := T1) (g' := (mkF m 33 #[.val (.ref ob), .val (.int ((0 : Int32) + v0)), .val (.ref tt), .val (.int 4), .val (.int 1), .val (.int v0)] [])) (fun t k => XS.iinc X1.here hx rfl (hb hby d3_30) rfl (l' := #[.val (.ref ob), .val (.int ((0 : Int32) + v0)), .val (.ref tt), .val (.int 4), .val (.int 1), .val (.int v0)]) rfl k) ?_
  refine own_by (T' := T1) (g' := (mkF m 13 #[.val (.ref ob), .val (.int ((0 : Int32) + v0)), .val (.ref tt), .val (.int 4), .val (.int 1), .val (.int v0)] [])) (fun t k => XS.goto X1.here hx rfl (pc0 := 33) (pc' := 13) rfl (hb hby d3_33) (by decide) (by decide) k) ?_
  refine own_by (T' := T1) (g' := (mkF m 15 #[.val (.ref ob), .val (.int ((0 : Int32) + v0)), .val (.ref tt), .val (.int 4), .val (.int 1), .val (.int v0)] [(.int 1)])) (fun t k => XS.iload X1.here hx rfl (hb hby d3_13) rfl k) ?_
  refine own_by (T' := T1) (g' := (mkF m 16 #[.val (.ref ob), .val (.int ((0 : Int32) + v0)), .val (.ref tt), .val (.int 4), .val (.int 1), .val (.int v0)] [(.int 4), (.int 1)])) (fun t k => XS.iloadN X1.here hx rfl (hb hby d3_15) rfl k) ?_
  refine own_by (T' := T1) (g' := (mkF m 19 #[.val (.ref ob), .val (.int ((0 : Int32) + v0)), .val (.ref tt), .val (.int 4), .val (.int 1), .val (.int v0)] [])) (fun t k => XS.icmpNo X1.here hx rfl (hb hby d3_16) rfl (tlt (by decide)).2.1 k) ?_
  refine own_by (T' := T1) (g' := (mkF m 20 #[.val (.ref ob), .val (.int ((0 : Int32) + v0)), .val (.ref tt), .val (.int 4), .val (.int 1), .val (.int v0)] [(.ref tt)])) (fun t k => XS.aloadN X1.here hx rfl (hb hby d3_19) rfl rfl k) ?_
  refine own_by (T' := T1) (g' := (mkF m 22 #[.val (.ref ob), .val (.int ((0 : Int32) + v0)), .val (.ref tt), .val (.int 4), .val (.int 1), .val (.int v0)] [(.int 1), (.ref tt)])) (fun t k => XS.iload X1.here hx rfl (hb hby d3_20) rfl k) ?_
  obtain ⟨cl4, Ar4, q4, S4, N4, Hs4, G4⟩ := id V_tt
  have hin4 : ¬ ((1 : Int32) < 0 ∨ cl4.slots.size ≤ ((1 : Int32)).toNatClampNeg) := inb_of S4 ⟨by decide, by decide⟩
  have hat4 : cl4.slots[((1 : Int32)).toNatClampNeg]? = some (.int v1) := Hs4.at hin4 rfl
  refine own_by (T' := T1) (g' := (mkF m 23 #[.val (.ref ob), .val (.int ((0 : Int32) + v0)), .val (.ref tt), .val (.int 4), .val (.int 1), .val (.int v0)] [(.int v1)])) (fun t k => X1.iaload hx (j := (1 : Int32)) (v := (.int v1)) (by rw [e1]; exact Ar4.1) (State.isArrayOf_alike hZ.alike Ar4.2.1) Ar4.2.2 hin4 hat4 (g := (mkF m 22 #[.val (.ref ob), .val (.int ((0 : Int32) + v0)), .val (.ref tt), .val (.int 4), .val (.int 1), .val (.int v0)] [(.int 1), (.ref tt)])) rfl rfl (hb hby d3_22) _ k) ?_
  refine own_by (T' := T1) (g' := (mkF m 25 #[.val (.ref ob), .val (.int ((0 : Int32) + v0)), .val (.ref tt), .val (.int 4), .val (.int 1), .val (.int v1)] [])) (fun t k => XS.istore X1.here hx rfl (hb hby d3_23) rfl (l' := #[.val (.ref ob), .val (.int ((0 : Int32) + v0)), .val (.ref tt), .val (.int 4), .val (.int 1), .val (.int v1)]) rfl k) ?_
  refine own_by (T' := T1) (g' := (mkF m 26 #[.val (.ref ob), .val (.int ((0 : Int32) + v0)), .val (.ref tt), .val (.int 4), .val (.int 1), .val (.int v1)] [(.int ((0 : Int32) + v0))])) (fun t k => XS.iloadN X1.here hx rfl (hb hby d3_25) rfl k) ?_
  refine own_by (T' := T1) (g' := (mkF m 28 #[.val (.ref ob), .val (.int ((0 : Int32) + v0)), .val (.ref tt), .val (.int 4), .val (.int 1), .val (.int v1)] [(.int v1), (.int ((0 : Int32) + v0))])) (fun t k => XS.iload X1.here hx rfl (hb hby d3_26) rfl k) ?_
  refine own_by (T' := T1) (g' := (mkF m 29 #[.val (.ref ob), .val (.int ((0 : Int32) + v0)), .val (.ref tt), .val (.int 4), .val (.int 1), .val (.int v1)] [(.int (((0 : Int32) + v0) + v1))])) (fun t k => XS.iadd X1.here hx rfl (hb hby d3_28) rfl k) ?_
  refine own_by (T' := T1) (g' := (mkF m 30 #[.val (.ref ob), .val (.int (((0 : Int32) + v0) + v1)), .val (.ref tt), .val (.int 4), .val (.int 1), .val (.int v1)] [])) (fun t k => XS.istoreN X1.here hx rfl (hb hby d3_29) rfl (l' := #[.val (.ref ob), .val (.int (((0 : Int32) + v0) + v1)), .val (.ref tt), .val (.int 4), .val (.int 1), .val (.int v1)]) rfl k) ?_
  refine own_by (T' := T1) (g' := (mkF m 33 #[.val (.ref ob), .val (.int (((0 : Int32) + v0) + v1)), .val (.ref tt), .val (.int 4), .val (.int 2), .val (.int v1)] [])) (fun t k => XS.iinc X1.here hx rfl (hb hby d3_30) rfl (l' := #[.val (.ref ob), .val (.int (((0 : Int32) + v0) + v1)), .val (.ref tt), .val (.int 4), .val (.int 2), .val (.int v1)]) rfl k) ?_
  refine own_by (T' := T1) (g' := (mkF m 13 #[.val (.ref ob), .val (.int (((0 : Int32) + v0) + v1)), .val (.ref tt), .val (.int 4), .val (.int 2), .val (.int v1)] [])) (fun t k => XS.goto X1.here hx rfl (pc0 := 33) (pc' := 13) rfl (hb hby d3_33) (by decide) (by decide) k) ?_
  refine own_by (T' := T1) (g' := (mkF m 15 #[.val (.ref ob), .val (.int (((0 : Int32) + v0) + v1)), .val (.ref tt), .val (.int 4), .val (.int 2), .val (.int v1)] [(.int 2)])) (fun t k => XS.iload X1.here hx rfl (hb hby d3_13) rfl k) ?_
  refine own_by (T' := T1) (g' := (mkF m 16 #[.val (.ref ob), .val (.int (((0 : Int32) + v0) + v1)), .val (.ref tt), .val (.int 4), .val (.int 2), .val (.int v1)] [(.int 4), (.int 2)])) (fun t k => XS.iloadN X1.here hx rfl (hb hby d3_15) rfl k) ?_
  refine own_by (T' := T1) (g' := (mkF m 19 #[.val (.ref ob), .val (.int (((0 : Int32) + v0) + v1)), .val (.ref tt), .val (.int 4), .val (.int 2), .val (.int v1)] [])) (fun t k => XS.icmpNo X1.here hx rfl (hb hby d3_16) rfl (tlt (by decide)).2.1 k) ?_
  refine own_by (T' := T1) (g' := (mkF m 20 #[.val (.ref ob), .val (.int (((0 : Int32) + v0) + v1)), .val (.ref tt), .val (.int 4), .val (.int 2), .val (.int v1)] [(.ref tt)])) (fun t k => XS.aloadN X1.here hx rfl (hb hby d3_19) rfl rfl k) ?_
  refine own_by (T' := T1) (g' := (mkF m 22 #[.val (.ref ob), .val (.int (((0 : Int32) + v0) + v1)), .val (.ref tt), .val (.int 4), .val (.int 2), .val (.int v1)] [(.int 2), (.ref tt)])) (fun t k => XS.iload X1.here hx rfl (hb hby d3_20) rfl k) ?_
  obtain ⟨cl5, Ar5, q5, S5, N5, Hs5, G5⟩ := id V_tt
  have hin5 : ¬ ((2 : Int32) < 0 ∨ cl5.slots.size ≤ ((2 : Int32)).toNatClampNeg) := inb_of S5 ⟨by decide, by decide⟩
  have hat5 : cl5.slots[((2 : Int32)).toNatClampNeg]? = some (.int v2) := Hs5.at hin5 rfl
  refine own_by (T' := T1) (g' := (mkF m 23 #[.val (.ref ob), .val (.int (((0 : Int32) + v0) + v1)), .val (.ref tt), .val (.int 4), .val (.int 2), .val (.int v1)] [(.int v2)])) (fun t k => X1.iaload hx (j := (2 : Int32)) (v := (.int v2)) (by rw [e1]; exact Ar5.1) (State.isArrayOf_alike hZ.alike Ar5.2.1) Ar5.2.2 hin5 hat5 (g := (mkF m 22 #[.val (.ref ob), .val (.int (((0 : Int32) + v0) + v1)), .val (.ref tt), .val (.int 4), .val (.int 2), .val (.int v1)] [(.int 2), (.ref tt)])) rfl rfl (hb hby d3_22) _ k) ?_
  refine own_by (T' := T1) (g' := (mkF m 25 #[.val (.ref ob), .val (.int (((0 : Int32) + v0) + v1)), .val (.ref tt), .val (.int 4), .val (.int 2), .val (.int v2)] [])) (fun t k => XS.istore X1.here hx rfl (hb hby d3_23) rfl (l' := #[.val (.ref ob), .val (.int (((0 : Int32) + v0) + v1)), .val (.ref tt), .val (.int 4), .val (.int 2), .val (.int v2)]) rfl k) ?_
  refine own_by (T' := T1) (g' := (mkF m 26 #[.val (.ref ob), .val (.int (((0 : Int32) + v0) + v1)), .val (.ref tt), .val (.int 4), .val (.int 2), .val (.int v2)] [(.int (((0 : Int32) + v0) + v1))])) (fun t k => XS.iloadN X1.here hx rfl (hb hby d3_25) rfl k) ?_
  refine own_by (T' := T1) (g' := (mkF m 28 #[.val (.ref ob), .val (.int (((0 : Int32) + v0) + v1)), .val (.ref tt), .val (.int 4), .val (.int 2), .val (.int v2)] [(.int v2), (.int (((0 : Int32) + v0) + v1))])) (fun t k => XS.iload X1.here hx rfl (hb hby d3_26) rfl k) ?_
  refine own_by (T' := T1) (g' := (mkF m 29 #[.val (.ref ob), .val (.int (((0 : Int32) + v0) + v1)), .val (.ref tt), .val (.int 4), .val (.int 2), .val (.int v2)] [(.int ((((0 : Int32) + v0) + v1) + v2))])) (fun t k => XS.iadd X1.here hx rfl (hb hby d3_28) rfl k) ?_
  refine own_by (T' := T1) (g' := (mkF m 30 #[.val (.ref ob), .val (.int ((((0 : Int32) + v0) + v1) + v2)), .val (.ref tt), .val (.int 4), .val (.int 2), .val (.int v2)] [])) (fun t k => XS.istoreN X1.here hx rfl (hb hby d3_29) rfl (l' := #[.val (.ref ob), .val (.int ((((0 : Int32) + v0) + v1) + v2)), .val (.ref tt), .val (.int 4), .val (.int 2), .val (.int v2)]) rfl k) ?_
  refine own_by (T' := T1) (g' := (mkF m 33 #[.val (.ref ob), .val (.int ((((0 : Int32) + v0) + v1) + v2)), .val (.ref tt), .val (.int 4), .val (.int 3), .val (.int v2)] [])) (fun t k => XS.iinc X1.here hx rfl (hb hby d3_30) rfl (l' := #[.val (.ref ob), .val (.int ((((0 : Int32) + v0) + v1) + v2)), .val (.ref tt), .val (.int 4), .val (.int 3), .val (.int v2)]) rfl k) ?_
  refine own_by (T' := T1) (g' := (mkF m 13 #[.val (.ref ob), .val (.int ((((0 : Int32) + v0) + v1) + v2)), .val (.ref tt), .val (.int 4), .val (.int 3), .val (.int v2)] [])) (fun t k => XS.goto X1.here hx rfl (pc0 := 33) (pc' := 13) rfl (hb hby d3_33) (by decide) (by decide) k) ?_
  refine own_by (T' := T1) (g' := (mkF m 15 #[.val (.ref ob), .val (.int ((((0 : Int32) + v0) + v1) + v2)), .val (.ref tt), .val (.int 4), .val (.int 3), .val (.int v2)] [(.int 3)])) (fun t k => XS.iload X1.here hx rfl (hb hby d3_13) rfl k) ?_
  refine own_by (T' := T1) (g' := (mkF m 16 #[.val (.ref ob), .val (.int ((((0 : Int32) + v0) + v1) + v2)), .val (.ref tt), .val (.int 4), .val (.int 3), .val (.int v2)] [(.int 4), (.int 3)])) (fun t k => XS.iloadN X1.here hx rfl (hb hby d3_15) rfl k) ?_
  refine own_by (T' := T1) (g' := (mkF m 19 #[.val (.ref ob), .val (.int ((((0 : Int32) + v0) + v1) + v2)), .val (.ref tt), .val (.int 4), .val (.int 3), .val (.int v2)] [])) (fun t k => XS.icmpNo X1.here hx rfl (hb hby d3_16) rfl (tlt (by decide)).2.1 k) ?_
  refine own_by (T' := T1) (g' := (mkF m 20 #[.val (.ref ob), .val (.int ((((0 : Int32) + v0) + v1) + v2)), .val (.ref tt), .val (.int 4), .val (.int 3), .val (.int v2)] [(.ref tt)])) (fun t k => XS.aloadN X1.here hx rfl (hb hby d3_19) rfl rfl k) ?_
  refine own_by (T' := T1) (g' := (mkF m 22 #[.val (.ref ob), .val (.int ((((0 : Int32) + v0) + v1) + v2)), .val (.ref tt), .val (.int 4), .val (.int 3), .val (.int v2)] [(.int 3), (.ref tt)])) (fun t k => XS.iload X1.here hx rfl (hb hby d3_20) rfl k) ?_
  obtain ⟨cl6, Ar6, q6, S6, N6, Hs6, G6⟩ := id V_tt
  have hin6 : ¬ ((3 : Int32) < 0 ∨ cl6.slots.size ≤ ((3 : Int32)).toNatClampNeg) := inb_of S6 ⟨by decide, by decide⟩
  have hat6 : cl6.slots[((3 : Int32)).toNatClampNeg]? = some (.int v3) := Hs6.at hin6 rfl
  refine own_by (T' := T1) (g' := (mkF m 23 #[.val (.ref ob), .val (.int ((((0 : Int32) + v0) + v1) + v2)), .val (.ref tt), .val (.int 4), .val (.int 3), .val (.int v2)] [(.int v3)])) (fun t k => X1.iaload hx (j := (3 : Int32)) (v := (.int v3)) (by rw [e1]; exact Ar6.1) (State.isArrayOf_alike hZ.alike Ar6.2.1) Ar6.2.2 hin6 hat6 (g := (mkF m 22 #[.val (.ref ob), .val (.int ((((0 : Int32) + v0) + v1) + v2)), .val (.ref tt), .val (.int 4), .val (.int 3), .val (.int v2)] [(.int 3), (.ref tt)])) rfl rfl (hb hby d3_22) _ k) ?_
  refine own_by (T' := T1) (g' := (mkF m 25 #[.val (.ref ob), .val (.int ((((0 : Int32) + v0) + v1) + v2)), .val (.ref tt), .val (.int 4), .val (.int 3), .val (.int v3)] [])) (fun t k => XS.istore X1.here hx rfl (hb hby d3_23) rfl (l' := #[.val (.ref ob), .val (.int ((((0 : Int32) + v0) + v1) + v2)), .val (.ref tt), .val (.int 4), .val (.int 3), .val (.int v3)]) rfl k) ?_
  refine own_by (T' := T1) (g' := (mkF m 26 #[.val (.ref ob), .val (.int ((((0 : Int32) + v0) + v1) + v2)), .val (.ref tt), .val (.int 4), .val (.int 3), .val (.int v3)] [(.int ((((0 : Int32) + v0) + v1) + v2))])) (fun t k => XS.iloadN X1.here hx rfl (hb hby d3_25) rfl k) ?_
  refine own_by (T' := T1) (g' := (mkF m 28 #[.val (.ref ob), .val (.int ((((0 : Int32) + v0) + v1) + v2)), .val (.ref tt), .val (.int 4), .val (.int 3), .val (.int v3)] [(.int v3), (.int ((((0 : Int32) + v0) + v1) + v2))])) (fun t k => XS.iload X1.here hx rfl (hb hby d3_26) rfl k) ?_
  refine own_by (T' := T1) (g' := (mkF m 29 #[.val (.ref ob), .val (.int ((((0 : Int32) + v0) + v1) + v2)), .val (.ref tt), .val (.int 4), .val (.int 3), .val (.int v3)] [(.int (((((0 : Int32) + v0) + v1) + v2) + v3))])) (fun t k => XS.iadd X1.here hx rfl (hb hby d3_28) rfl k) ?_
  refine own_by (T' := T1) (g' := (mkF m 30 #[.val (.ref ob), .val (.int (((((0 : Int32) + v0) + v1) + v2) + v3)), .val (.ref tt), .val (.int 4), .val (.int 3), .val (.int v3)] [])) (fun t k => XS.istoreN X1.here hx rfl (hb hby d3_29) rfl (l' := #[.val (.ref ob), .val (.int (((((0 : Int32) + v0) + v1) + v2) + v3)), .val (.ref tt), .val (.int 4), .val (.int 3), .val (.int v3)]) rfl k) ?_
  refine own_by (T' := T1) (g' := (mkF m 33 #[.val (.ref ob), .val (.int (((((0 : Int32) + v0) + v1) + v2) + v3)), .val (.ref tt), .val (.int 4), .val (.int 4), .val (.int v3)] [])) (fun t k => XS.iinc X1.here hx rfl (hb hby d3_30) rfl (l' := #[.val (.ref ob), .val (.int (((((0 : Int32) + v0) + v1) + v2) + v3)), .val (.ref tt), .val (.int 4), .val (.int 4), .val (.int v3)]) rfl k) ?_
  refine own_by (T' := T1) (g' := (mkF m 13 #[.val (.ref ob), .val (.int (((((0 : Int32) + v0) + v1) + v2) + v3)), .val (.ref tt), .val (.int 4), .val (.int 4), .val (.int v3)] [])) (fun t k => XS.goto X1.here hx rfl (pc0 := 33) (pc' := 13) rfl (hb hby d3_33) (by decide) (by decide) k) ?_
  refine own_by (T' := T1) (g' := (mkF m 15 #[.val (.ref ob), .val (.int (((((0 : Int32) + v0) + v1) + v2) + v3)), .val (.ref tt), .val (.int 4), .val (.int 4), .val (.int v3)] [(.int 4)])) (fun t k => XS.iload X1.here hx rfl (hb hby d3_13) rfl k) ?_
  refine own_by (T' := T1) (g' := (mkF m 16 #[.val (.ref ob), .val (.int (((((0 : Int32) + v0) + v1) + v2) + v3)), .val (.ref tt), .val (.int 4), .val (.int 4), .val (.int v3)] [(.int 4), (.int 4)])) (fun t k => XS.iloadN X1.here hx rfl (hb hby d3_15) rfl k) ?_
  refine own_by (T' := T1) (g' := (mkF m 36 #[.val (.ref ob), .val (.int (((((0 : Int32) + v0) + v1) + v2) + v3)), .val (.ref tt), .val (.int 4), .val (.int 4), .val (.int v3)] [])) (fun t k => XS.icmpYes X1.here hx rfl (pc0 := 16) (pc' := 36) rfl (hb hby d3_16) rfl (flt (by decide)).2.1 (by decide) (by decide) k) ?_
  refine own_by (T' := T1) (g' := (mkF m 37 #[.val (.ref ob), .val (.int (((((0 : Int32) + v0) + v1) + v2) + v3)), .val (.ref tt), .val (.int 4), .val (.int 4), .val (.int v3)] [(.int (((((0 : Int32) + v0) + v1) + v2) + v3))])) (fun t k => XS.iloadN X1.here hx rfl (hb hby d3_36) rfl k) ?_
  exact own_retI X1 hx Bd.notSynchronized Bd.returns (hb hby d3_37) (by decide) (by decide) (by rw [e1]; exact ⟨rfl, N_, rfl⟩)

theorem pn_com_example_firebreak_firebreak_core_MapStepGetBurningPinLaw : plainName "com/example/firebreak/firebreak/core/MapStepGetBurningPinLaw" = true := by first | (simp [plainName, overriddenIn]; done) | decide +kernel
theorem ef_0 (m : MethodId) (x1 : Int32) (x2 : Int32) (x3 : Int32) (x4 : Int32) (x5 : Int32) (x6 : Int32) : entryFrame m #[(.int x1), (.int x2), (.int x3), (.int x4), (.int x5), (.int x6)] maxLocals = mkF m 0 #[.val (.int x1), .val (.int x2), .val (.int x3), .val (.int x4), .val (.int x5), .val (.int x6), .unset, .unset, .unset, .unset, .unset, .unset, .unset, .unset] [] := by first | (simp [entryFrame, mkF, argsToLocals, Value.category, maxLocals]; done) | rfl
theorem pd_0 : parseMethodDescriptor "(I[I[I[II)V" = some ⟨[.int, (.array .int), (.array .int), (.array .int), .int], none⟩ := by decide +kernel
theorem pd_3 : parseMethodDescriptor "()I" = some ⟨[], some .int⟩ := by decide +kernel
def Q0 (Z : State) (x1 : Int32) (x2 : Int32) (x3 : Int32) (x4 : Int32) (x5 : Int32) (x6 : Int32) (h0 : Heap) (n0 : Nat) (v : Option Value) (h : Heap) (L : List Loc) : Prop := v = some (.int 1) ∧ Fr n0 L
set_option maxRecDepth 65536 in
set_option maxHeartbeats 40000000 in
theorem rm0 (l : Launch) (Z : State) (a0 : Array Value) (hw : ∀ d ∈ tables_1, d.before a0 Z = true) (ws : List Jvm.Cond) (x1 : Int32) (x2 : Int32) (x3 : Int32) (x4 : Int32) (x5 : Int32) (x6 : Int32) (h0 : Heap) (n0 : Nat) (Zle : n0 ≤ h0.size) :
    MetFree l x (head1 (Jvm.Cond.code x code maxLocals ret :: ws) room_1) (fun a U => a = #[(.int x1), (.int x2), (.int x3), (.int x4), (.int x5), (.int x6)] ∧ Z.Warmed39 U.vm ∧ U.heap = h0) (fun _ _ _ _ _ => True) (fun _ U o U' => ∃ v L, o = .returned v ∧ Q0 Z x1 x2 x3 x4 x5 x6 h0 n0 v U'.heap L ∧ FrameEnd U o U' L room_1.cells room_1.slots) := by
  refine MetFree.of_bodySF (plainFor_of_name pn_com_example_firebreak_firebreak_core_MapStepGetBurningPinLaw) hisR ?_
  intro p e s m args below meth c s₁ Bd hml0 hP hK
  obtain ⟨rfl, hZ, hh⟩ := hP
  have hx := Bd.exec
  have hby := Bd.bytes
  have hml : c.maxLocals = 14 := hml0
  have hown : s.vm.findClass "com/example/firebreak/firebreak/core/MapStepGetBurningPinLaw" = some m.cls := findClass_of_methodNamed Bd.named
  have hnm := (name_of_methodNamed Bd.named Bd.method).1
  have X0 : Stand p l e room_1 s m #[(.int x1), (.int x2), (.int x3), (.int x4), (.int x5), (.int x6)] below meth c s₁ [] 0 0 := Stand.of_body Bd
  have e0 : s₁.heap = h0 := by rw [← hh, Bd.state]; rfl
  have N_ := Fr.nil n0
  show own_Goes p.tables e below s (Q0 Z x1 x2 x3 x4 x5 x6 h0 n0) room_1.cells room_1.slots s₁ (entryFrame m #[(.int x1), (.int x2), (.int x3), (.int x4), (.int x5), (.int x6)] maxLocals)
  refine own_by (T' := s₁) (g' := (mkF m 0 #[.val (.int x1), .val (.int x2), .val (.int x3), .val (.int x4), .val (.int x5), .val (.int x6), .unset, .unset, .unset, .unset, .unset, .unset, .unset, .unset] [])) (fun t k => castTop (ef_0 m x1 x2 x3 x4 x5 x6) k) ?_
  refine own_by (T' := s₁) (g' := (mkF m 1 #[.val (.int x1), .val (.int x2), .val (.int x3), .val (.int x4), .val (.int x5), .val (.int x6), .unset, .unset, .unset, .unset, .unset, .unset, .unset, .unset] [(.int x1)])) (fun t k => XS.iloadN X0.here hx rfl (hb hby at_0) rfl k) ?_
  refine own_by (T' := s₁) (g' := (mkF m 3 #[.val (.int x1), .val (.int x2), .val (.int x3), .val (.int x4), .val (.int x5), .val (.int x6), .unset, .unset, .unset, .unset, .unset, .unset, .unset, .unset] [(.int 2147483647), (.int x1)])) (fun t k => X0.ldcInt hx hown (mvT hZ (hw _ (own_m 0 rfl))) (g := (mkF m 1 #[.val (.int x1), .val (.int x2), .val (.int x3), .val (.int x4), .val (.int x5), .val (.int x6), .unset, .unset, .unset, .unset, .unset, .unset, .unset, .unset] [(.int x1)])) rfl (hb hby at_1) _ k) ?_
  refine own_by (T' := s₁) (g' := (mkF m 4 #[.val (.int x1), .val (.int x2), .val (.int x3), .val (.int x4), .val (.int x5), .val (.int x6), .unset, .unset, .unset, .unset, .unset, .unset, .unset, .unset] [(.int (x1 &&& (2147483647 : Int32)))])) (fun t k => XS.iand X0.here hx rfl (hb hby at_3) rfl k) ?_
  refine own_by (T' := s₁) (g' := (mkF m 5 #[.val (.int x1), .val (.int x2), .val (.int x3), .val (.int x4), .val (.int x5), .val (.int x6), .unset, .unset, .unset, .unset, .unset, .unset, .unset, .unset] [(.int 5), (.int (x1 &&& (2147483647 : Int32)))])) (fun t k => XS.iconst X0.here hx rfl (hb hby at_4) k) ?_
  refine own_by (T' := s₁) (g' := (mkF m 6 #[.val (.int x1), .val (.int x2), .val (.int x3), .val (.int x4), .val (.int x5), .val (.int x6), .unset, .unset, .unset, .unset, .unset, .unset, .unset, .unset] [(.int ((x1 &&& (2147483647 : Int32)) % (5 : Int32)))])) (fun t k => iremM X0 hx rfl (hb hby at_5) rfl (by decide) k) ?_
  refine own_by (T' := s₁) (g' := (mkF m 8 #[.val (.int x1), .val (.int x2), .val (.int x3), .val (.int x4), .val (.int x5), .val (.int x6), .val (.int ((x1 &&& (2147483647 : Int32)) % (5 : Int32))), .unset, .unset, .unset, .unset, .unset, .unset, .unset] [])) (fun t k => XS.istore X0.here hx rfl (hb hby at_6) rfl (l' := #[.val (.int x1), .val (.int x2), .val (.int x3), .val (.int x4), .val (.int x5), .val (.int x6), .val (.int ((x1 &&& (2147483647 : Int32)) % (5 : Int32))), .unset, .unset, .unset, .unset, .unset, .unset, .unset]) rfl k) ?_
  rcases own_rem5 x1 with hk | hk | hk | hk | hk
  · rw [hk]
    refine own_by (T' := s₁) (g' := (mkF m 10 #[.val (.int x1), .val (.int x2), .val (.int x3), .val (.int x4), .val (.int x5), .val (.int x6), .val (.int 0), .unset, .unset, .unset, .unset, .unset, .unset, .unset] [(.int 0)])) (fun t k => XS.iload X0.here hx rfl (hb hby at_8) rfl k) ?_
    obtain ⟨T1, h1, k1, X1, e1, E1, A1, AE1, st1⟩ := newPE X0 hx hZ (hw _ (own_m 1 rfl)) e0 (g := (mkF m 10 #[.val (.int x1), .val (.int x2), .val (.int x3), .val (.int x4), .val (.int x5), .val (.int x6), .val (.int 0), .unset, .unset, .unset, .unset, .unset, .unset, .unset] [(.int 0)])) rfl (hb hby at_10) rfl (by decide) (cap := 0) (by decide) (by decide) (by decide) (by decide) (ad := "[I") (by decide)
    obtain ⟨b1, g1⟩ : ∃ z, z = h0.size := ⟨_, rfl⟩
    rw [← g1] at A1 AE1 st1
    have g_b1 : n0 ≤ b1 := Nat.le_trans Zle (Nat.le_of_eq g1.symm)
    have Zle := Nat.le_trans Zle E1.1
    have E_b1 := AE1
    have V_b1 : Arv Z h1 b1 k1 .int (0 : Int32) [] (.int 0) := (Arv.new A1 (by decide)).pad (pad_rep [] (.int 0) 0)
    refine own_by (T' := T1) (g' := (mkF m 12 #[.val (.int x1), .val (.int x2), .val (.int x3), .val (.int x4), .val (.int x5), .val (.int x6), .val (.int 0), .unset, .unset, .unset, .unset, .unset, .unset, .unset] [(.ref b1)])) (fun t k => st1 t k) ?_
    refine own_by (T' := T1) (g' := (mkF m 14 #[.val (.int x1), .val (.int x2), .val (.int x3), .val (.int x4), .val (.int x5), .val (.int x6), .val (.int 0), .val (.ref b1), .unset, .unset, .unset, .unset, .unset, .unset] [])) (fun t k => XS.astore X1.here hx rfl (hb hby at_12) rfl rfl (l' := #[.val (.int x1), .val (.int x2), .val (.int x3), .val (.int x4), .val (.int x5), .val (.int x6), .val (.int 0), .val (.ref b1), .unset, .unset, .unset, .unset, .unset, .unset]) rfl k) ?_
    refine own_by (T' := T1) (g' := (mkF m 16 #[.val (.int x1), .val (.int x2), .val (.int x3), .val (.int x4), .val (.int x5), .val (.int x6), .val (.int 0), .val (.ref b1), .unset, .unset, .unset, .unset, .unset, .unset] [(.int 0)])) (fun t k => XS.iload X1.here hx rfl (hb hby at_14) rfl k) ?_
    obtain ⟨T2, h2, k2, X2, e2, E2, A2, AE2, st2⟩ := newPE X1 hx hZ (hw _ (own_m 1 rfl)) e1 (g := (mkF m 16 #[.val (.int x1), .val (.int x2), .val (.int x3), .val (.int x4), .val (.int x5), .val (.int x6), .val (.int 0), .val (.ref b1), .unset, .unset, .unset, .unset, .unset, .unset] [(.int 0)])) rfl (hb hby at_16) rfl (by decide) (cap := 0) (by decide) (by decide) (by decide) (by decide) (ad := "[I") (by decide)
    obtain ⟨b2, g2⟩ : ∃ z, z = h1.size := ⟨_, rfl⟩
    rw [← g2] at A2 AE2 st2
    have ne_b1_b2 : b1 ≠ b2 := Nat.ne_of_lt (Nat.lt_of_lt_of_eq E_b1.lt g2.symm)
    have g_b2 : n0 ≤ b2 := Nat.le_trans Zle (Nat.le_of_eq g2.symm)
    have Zle := Nat.le_trans Zle E2.1
    have E_b1 := E_b1.ext E2
    have V_b1 := V_b1.ext E2
    have E_b2 := AE2
    have V_b2 : Arv Z h2 b2 k2 .int (0 : Int32) [] (.int 0) := (Arv.new A2 (by decide)).pad (pad_rep [] (.int 0) 0)
    refine own_by (T' := T2) (g' := (mkF m 18 #[.val (.int x1), .val (.int x2), .val (.int x3), .val (.int x4), .val (.int x5), .val (.int x6), .val (.int 0), .val (.ref b1), .unset, .unset, .unset, .unset, .unset, .unset] [(.ref b2)])) (fun t k => st2 t k) ?_
    refine own_by (T' := T2) (g' := (mkF m 20 #[.val (.int x1), .val (.int x2), .val (.int x3), .val (.int x4), .val (.int x5), .val (.int x6), .val (.int 0), .val (.ref b1), .val (.ref b2), .unset, .unset, .unset, .unset, .unset] [])) (fun t k => XS.astore X2.here hx rfl (hb hby at_18) rfl rfl (l' := #[.val (.int x1), .val (.int x2), .val (.int x3), .val (.int x4), .val (.int x5), .val (.int x6), .val (.int 0), .val (.ref b1), .val (.ref b2), .unset, .unset, .unset, .unset, .unset]) rfl k) ?_
    refine own_by (T' := T2) (g' := (mkF m 22 #[.val (.int x1), .val (.int x2), .val (.int x3), .val (.int x4), .val (.int x5), .val (.int x6), .val (.int 0), .val (.ref b1), .val (.ref b2), .unset, .unset, .unset, .unset, .unset] [(.int 0)])) (fun t k => XS.iload X2.here hx rfl (hb hby at_20) rfl k) ?_
    obtain ⟨T3, h3, k3, X3, e3, E3, A3, AE3, st3⟩ := newPE X2 hx hZ (hw _ (own_m 1 rfl)) e2 (g := (mkF m 22 #[.val (.int x1), .val (.int x2), .val (.int x3), .val (.int x4), .val (.int x5), .val (.int x6), .val (.int 0), .val (.ref b1), .val (.ref b2), .unset, .unset, .unset, .unset, .unset] [(.int 0)])) rfl (hb hby at_22) rfl (by decide) (cap := 0) (by decide) (by decide) (by decide) (by decide) (ad := "[I") (by decide)
    obtain ⟨b3, g3⟩ : ∃ z, z = h2.size := ⟨_, rfl⟩
    rw [← g3] at A3 AE3 st3
    have ne_b1_b3 : b1 ≠ b3 := Nat.ne_of_lt (Nat.lt_of_lt_of_eq E_b1.lt g3.symm)
    have ne_b2_b3 : b2 ≠ b3 := Nat.ne_of_lt (Nat.lt_of_lt_of_eq E_b2.lt g3.symm)
    have g_b3 : n0 ≤ b3 := Nat.le_trans Zle (Nat.le_of_eq g3.symm)
    have Zle := Nat.le_trans Zle E3.1
    have E_b1 := E_b1.ext E3
    have V_b1 := V_b1.ext E3
    have E_b2 := E_b2.ext E3
    have V_b2 := V_b2.ext E3
    have E_b3 := AE3
    have V_b3 : Arv Z h3 b3 k3 .int (0 : Int32) [] (.int 0) := (Arv.new A3 (by decide)).pad (pad_rep [] (.int 0) 0)
    refine own_by (T' := T3) (g' := (mkF m 24 #[.val (.int x1), .val (.int x2), .val (.int x3), .val (.int x4), .val (.int x5), .val (.int x6), .val (.int 0), .val (.ref b1), .val (.ref b2), .unset, .unset, .unset, .unset, .unset] [(.ref b3)])) (fun t k => st3 t k) ?_
    refine own_by (T' := T3) (g' := (mkF m 26 #[.val (.int x1), .val (.int x2), .val (.int x3), .val (.int x4), .val (.int x5), .val (.int x6), .val (.int 0), .val (.ref b1), .val (.ref b2), .val (.ref b3), .unset, .unset, .unset, .unset] [])) (fun t k => XS.astore X3.here hx rfl (hb hby at_24) rfl rfl (l' := #[.val (.int x1), .val (.int x2), .val (.int x3), .val (.int x4), .val (.int x5), .val (.int x6), .val (.int 0), .val (.ref b1), .val (.ref b2), .val (.ref b3), .unset, .unset, .unset, .unset]) rfl k) ?_
    refine own_by (T' := T3) (g' := (mkF m 27 #[.val (.int x1), .val (.int x2), .val (.int x3), .val (.int x4), .val (.int x5), .val (.int x6), .val (.int 0), .val (.ref b1), .val (.ref b2), .val (.ref b3), .unset, .unset, .unset, .unset] [(.int 0)])) (fun t k => XS.iconst X3.here hx rfl (hb hby at_26) k) ?_
    refine own_by (T' := T3) (g' := (mkF m 29 #[.val (.int x1), .val (.int x2), .val (.int x3), .val (.int x4), .val (.int x5), .val (.int x6), .val (.int 0), .val (.ref b1), .val (.ref b2), .val (.ref b3), .val (.int 0), .unset, .unset, .unset] [])) (fun t k => XS.istore X3.here hx rfl (hb hby at_27) rfl (l' := #[.val (.int x1), .val (.int x2), .val (.int x3), .val (.int x4), .val (.int x5), .val (.int x6), .val (.int 0), .val (.ref b1), .val (.ref b2), .val (.ref b3), .val (.int 0), .unset, .unset, .unset]) rfl k) ?_
    refine own_by (T' := T3) (g' := (mkF m 31 #[.val (.int x1), .val (.int x2), .val (.int x3), .val (.int x4), .val (.int x5), .val (.int x6), .val (.int 0), .val (.ref b1), .val (.ref b2), .val (.ref b3), .val (.int 0), .unset, .unset, .unset] [(.int 0)])) (fun t k => XS.iload X3.here hx rfl (hb hby at_29) rfl k) ?_
    refine own_by (T' := T3) (g' := (mkF m 50 #[.val (.int x1), .val (.int x2), .val (.int x3), .val (.int x4), .val (.int x5), .val (.int x6), .val (.int 0), .val (.ref b1), .val (.ref b2), .val (.ref b3), .val (.int 0), .unset, .unset, .unset] [])) (fun t k => XS.ifYes X3.here hx rfl (pc0 := 31) (pc' := 50) rfl (hb hby at_31) rfl ((if0 _ _).trans (flt (by decide)).2.2.2) (by decide) (by decide) k) ?_
    refine own_by (T' := T3) (g' := (mkF m 52 #[.val (.int x1), .val (.int x2), .val (.int x3), .val (.int x4), .val (.int x5), .val (.int x6), .val (.int 0), .val (.ref b1), .val (.ref b2), .val (.ref b3), .val (.int 0), .unset, .unset, .unset] [(.int 0)])) (fun t k => XS.iload X3.here hx rfl (hb hby at_50) rfl k) ?_
    refine own_by (T' := T3) (g' := (mkF m 53 #[.val (.int x1), .val (.int x2), .val (.int x3), .val (.int x4), .val (.int x5), .val (.int x6), .val (.int 0), .val (.ref b1), .val (.ref b2), .val (.ref b3), .val (.int 0), .unset, .unset, .unset] [(.int 1), (.int 0)])) (fun t k => XS.iconst X3.here hx rfl (hb hby at_52) k) ?_
    refine own_by (T' := T3) (g' := (mkF m 72 #[.val (.int x1), .val (.int x2), .val (.int x3), .val (.int x4), .val (.int x5), .val (.int x6), .val (.int 0), .val (.ref b1), .val (.ref b2), .val (.ref b3), .val (.int 0), .unset, .unset, .unset] [])) (fun t k => XS.icmpYes X3.here hx rfl (pc0 := 53) (pc' := 72) rfl (hb hby at_53) rfl (flt (by decide)).2.2.2 (by decide) (by decide) k) ?_
    refine own_by (T' := T3) (g' := (mkF m 74 #[.val (.int x1), .val (.int x2), .val (.int x3), .val (.int x4), .val (.int x5), .val (.int x6), .val (.int 0), .val (.ref b1), .val (.ref b2), .val (.ref b3), .val (.int 0), .unset, .unset, .unset] [(.int 0)])) (fun t k => XS.iload X3.here hx rfl (hb hby at_72) rfl k) ?_
    refine own_by (T' := T3) (g' := (mkF m 75 #[.val (.int x1), .val (.int x2), .val (.int x3), .val (.int x4), .val (.int x5), .val (.int x6), .val (.int 0), .val (.ref b1), .val (.ref b2), .val (.ref b3), .val (.int 0), .unset, .unset, .unset] [(.int 2), (.int 0)])) (fun t k => XS.iconst X3.here hx rfl (hb hby at_74) k) ?_
    refine own_by (T' := T3) (g' := (mkF m 94 #[.val (.int x1), .val (.int x2), .val (.int x3), .val (.int x4), .val (.int x5), .val (.int x6), .val (.int 0), .val (.ref b1), .val (.ref b2), .val (.ref b3), .val (.int 0), .unset, .unset, .unset] [])) (fun t k => XS.icmpYes X3.here hx rfl (pc0 := 75) (pc' := 94) rfl (hb hby at_75) rfl (flt (by decide)).2.2.2 (by decide) (by decide) k) ?_
    refine own_by (T' := T3) (g' := (mkF m 96 #[.val (.int x1), .val (.int x2), .val (.int x3), .val (.int x4), .val (.int x5), .val (.int x6), .val (.int 0), .val (.ref b1), .val (.ref b2), .val (.ref b3), .val (.int 0), .unset, .unset, .unset] [(.int 0)])) (fun t k => XS.iload X3.here hx rfl (hb hby at_94) rfl k) ?_
    refine own_by (T' := T3) (g' := (mkF m 97 #[.val (.int x1), .val (.int x2), .val (.int x3), .val (.int x4), .val (.int x5), .val (.int x6), .val (.int 0), .val (.ref b1), .val (.ref b2), .val (.ref b3), .val (.int 0), .unset, .unset, .unset] [(.int 3), (.int 0)])) (fun t k => XS.iconst X3.here hx rfl (hb hby at_96) k) ?_
    refine own_by (T' := T3) (g' := (mkF m 118 #[.val (.int x1), .val (.int x2), .val (.int x3), .val (.int x4), .val (.int x5), .val (.int x6), .val (.int 0), .val (.ref b1), .val (.ref b2), .val (.ref b3), .val (.int 0), .unset, .unset, .unset] [])) (fun t k => XS.icmpYes X3.here hx rfl (pc0 := 97) (pc' := 118) rfl (hb hby at_97) rfl (flt (by decide)).2.2.2 (by decide) (by decide) k) ?_
    obtain ⟨T4, h4, X4, e4, E4, A4, D4, -, st4⟩ := newO X3 hx hZ hown (hw _ (own_m 2 rfl)) (hw _ (own_m 3 rfl)) (hw _ (own_m 4 rfl)) e3 (g := (mkF m 118 #[.val (.int x1), .val (.int x2), .val (.int x3), .val (.int x4), .val (.int x5), .val (.int x6), .val (.int 0), .val (.ref b1), .val (.ref b2), .val (.ref b3), .val (.int 0), .unset, .unset, .unset] [])) rfl (hb hby at_118) (by decide) (by decide)
    obtain ⟨b4, g4⟩ : ∃ z, z = h3.size := ⟨_, rfl⟩
    rw [← g4] at A4 D4 st4
    have ne_b1_b4 : b1 ≠ b4 := Nat.ne_of_lt (Nat.lt_of_lt_of_eq E_b1.lt g4.symm)
    have ne_b2_b4 : b2 ≠ b4 := Nat.ne_of_lt (Nat.lt_of_lt_of_eq E_b2.lt g4.symm)
    have ne_b3_b4 : b3 ≠ b4 := Nat.ne_of_lt (Nat.lt_of_lt_of_eq E_b3.lt g4.symm)
    have g_b4 : n0 ≤ b4 := Nat.le_trans Zle (Nat.le_of_eq g4.symm)
    have Zle := Nat.le_trans Zle E4.1
    have E_b1 := E_b1.ext E4
    have V_b1 := V_b1.ext E4
    have E_b2 := E_b2.ext E4
    have V_b2 := V_b2.ext E4
    have E_b3 := E_b3.ext E4
    have V_b3 := V_b3.ext E4
    have E_b4 := A4
    have F_step_b4 : Fld Z h4 b4 "com/example/firebreak/firebreak/core/MapStep" "step" "I" (.int 0) := D4 (Or.inr (hw _ (own_m 12 rfl))) (ty := .int) (by decide)
    have F_clusterIds_b4 : Fld Z h4 b4 "com/example/firebreak/firebreak/core/MapStep" "clusterIds" "[I" .null := D4 (Or.inr (hw _ (own_m 23 rfl))) (ty := (.array .int)) (by decide)
    have F_costs_b4 : Fld Z h4 b4 "com/example/firebreak/firebreak/core/MapStep" "costs" "[I" .null := D4 (Or.inr (hw _ (own_m 25 rfl))) (ty := (.array .int)) (by decide)
    have F_targeting_b4 : Fld Z h4 b4 "com/example/firebreak/firebreak/core/MapStep" "targeting" "[I" .null := D4 (Or.inr (hw _ (own_m 27 rfl))) (ty := (.array .int)) (by decide)
    have F_idle_b4 : Fld Z h4 b4 "com/example/firebreak/firebreak/core/MapStep" "idle" "I" (.int 0) := D4 (Or.inr (hw _ (own_m 29 rfl))) (ty := .int) (by decide)
    refine own_by (T' := T4) (g' := (mkF m 121 #[.val (.int x1), .val (.int x2), .val (.int x3), .val (.int x4), .val (.int x5), .val (.int x6), .val (.int 0), .val (.ref b1), .val (.ref b2), .val (.ref b3), .val (.int 0), .unset, .unset, .unset] [(.ref b4)])) (fun t k => st4 t k) ?_
    refine own_by (T' := T4) (g' := (mkF m 122 #[.val (.int x1), .val (.int x2), .val (.int x3), .val (.int x4), .val (.int x5), .val (.int x6), .val (.int 0), .val (.ref b1), .val (.ref b2), .val (.ref b3), .val (.int 0), .unset, .unset, .unset] [(.ref b4), (.ref b4)])) (fun t k => XS.dup X4.here hx rfl (hb hby at_121) rfl rfl k) ?_
    refine own_by (T' := T4) (g' := (mkF m 123 #[.val (.int x1), .val (.int x2), .val (.int x3), .val (.int x4), .val (.int x5), .val (.int x6), .val (.int 0), .val (.ref b1), .val (.ref b2), .val (.ref b3), .val (.int 0), .unset, .unset, .unset] [(.int x1), (.ref b4), (.ref b4)])) (fun t k => XS.iloadN X4.here hx rfl (hb hby at_122) rfl k) ?_
    refine own_by (T' := T4) (g' := (mkF m 125 #[.val (.int x1), .val (.int x2), .val (.int x3), .val (.int x4), .val (.int x5), .val (.int x6), .val (.int 0), .val (.ref b1), .val (.ref b2), .val (.ref b3), .val (.int 0), .unset, .unset, .unset] [(.ref b1), (.int x1), (.ref b4), (.ref b4)])) (fun t k => XS.aload X4.here hx rfl (hb hby at_123) rfl rfl k) ?_
    refine own_by (T' := T4) (g' := (mkF m 127 #[.val (.int x1), .val (.int x2), .val (.int x3), .val (.int x4), .val (.int x5), .val (.int x6), .val (.int 0), .val (.ref b1), .val (.ref b2), .val (.ref b3), .val (.int 0), .unset, .unset, .unset] [(.ref b2), (.ref b1), (.int x1), (.ref b4), (.ref b4)])) (fun t k => XS.aload X4.here hx rfl (hb hby at_125) rfl rfl k) ?_
    refine own_by (T' := T4) (g' := (mkF m 129 #[.val (.int x1), .val (.int x2), .val (.int x3), .val (.int x4), .val (.int x5), .val (.int x6), .val (.int 0), .val (.ref b1), .val (.ref b2), .val (.ref b3), .val (.int 0), .unset, .unset, .unset] [(.ref b3), (.ref b2), (.ref b1), (.int x1), (.ref b4), (.ref b4)])) (fun t k => XS.aload X4.here hx rfl (hb hby at_127) rfl rfl k) ?_
    refine own_by (T' := T4) (g' := (mkF m 131 #[.val (.int x1), .val (.int x2), .val (.int x3), .val (.int x4), .val (.int x5), .val (.int x6), .val (.int 0), .val (.ref b1), .val (.ref b2), .val (.ref b3), .val (.int 0), .unset, .unset, .unset] [(.int x6), (.ref b3), (.ref b2), (.ref b1), (.int x1), (.ref b4), (.ref b4)])) (fun t k => XS.iload X4.here hx rfl (hb hby at_129) rfl k) ?_
    have lt_b1_5 := E_b1.lt
    have lt_b2_5 := E_b2.lt
    have lt_b3_5 := E_b3.lt
    have lt_b4_5 := E_b4.lt
    have Zpre5 := Zle
    obtain ⟨_, _, ⟨T5, L5, k5, n5⟩, -, X5, ⟨Lc5, hQ5, l5, y5, z5⟩, st5⟩ := X4.specialBack hx (y := (⟨"com/example/firebreak/firebreak/core/MapStep", "<init>", "(I[I[I[II)V"⟩ : MethodName)) rfl hown (mvT hZ (hw _ (own_m 5 rfl))) (mvT hZ (hw _ (own_m 6 rfl))) (mvT hZ (hw _ (own_m 7 rfl))) (by decide) (backOf (W := 1) (rm1n0 l Z a0 hw [] b4 x1 b1 b2 b3 x6 k1 k2 k3 h4 n0 Zle E_b4 g_b4 F_step_b4 F_clusterIds_b4 F_costs_b4 F_targeting_b4 F_idle_b4 V_b1 V_b2 V_b3 E_b1 E_b2 E_b3 (ne_b1_b4) (ne_b2_b4) (ne_b3_b4)) hZ (hw _ (own_m 7 rfl)) (hw _ (own_m 4 rfl)) (by decide) (by decide)) (g := (mkF m 131 #[.val (.int x1), .val (.int x2), .val (.int x3), .val (.int x4), .val (.int x5), .val (.int x6), .val (.int 0), .val (.ref b1), .val (.ref b2), .val (.ref b3), .val (.int 0), .unset, .unset, .unset] [(.int x6), (.ref b3), (.ref b2), (.ref b1), (.int x1), (.ref b4), (.ref b4)])) rfl (by rw [hml]; rfl) (Steps.refl _) (a := b4) (argsL := [(.int x1), (.ref b1), (.ref b2), (.ref b3), (.int x6)]) (rest := [(.ref b4)]) (lenOf pd_0 rfl) rfl (own_le rfl) (hb hby at_131) (fun _ _ => ⟨rfl, e4, (by decide : 4 + 3 ≤ _), (by decide : 5 + 0 ≤ _)⟩)
    dsimp only [Pt.U, Pt.locs, Pt.cells, Pt.slots] at X5 l5 y5 z5 st5 hQ5
    subst l5 y5 z5
    obtain ⟨t2_5, rfl, Nq5, c5_0, c5_1, c5_2, c5_3, c5_4⟩ := hQ5
    have N_ := Fr.app N_ Nq5
    have Zle := Nat.le_trans Zle c5_0.1
    have E_b1 := E_b1.keep c5_0
    have V_b1 := V_b1.keep c5_0 (ninS ne_b1_b4 nin0)
    have E_b2 := E_b2.keep c5_0
    have V_b2 := V_b2.keep c5_0 (ninS ne_b2_b4 nin0)
    have E_b3 := E_b3.keep c5_0
    have V_b3 := V_b3.keep c5_0 (ninS ne_b3_b4 nin0)
    have E_b4 := E_b4.keep c5_0
    have ne_b1_t2_5 : b1 ≠ t2_5 := Nat.ne_of_lt (Nat.lt_of_lt_of_le lt_b1_5 c5_2)
    have ne_b2_t2_5 : b2 ≠ t2_5 := Nat.ne_of_lt (Nat.lt_of_lt_of_le lt_b2_5 c5_2)
    have ne_b3_t2_5 : b3 ≠ t2_5 := Nat.ne_of_lt (Nat.lt_of_lt_of_le lt_b3_5 c5_2)
    have ne_b4_t2_5 : b4 ≠ t2_5 := Nat.ne_of_lt (Nat.lt_of_lt_of_le lt_b4_5 c5_2)
    have g_t2_5 : n0 ≤ t2_5 := Nat.le_trans Zpre5 c5_2
    refine own_by (T' := T5) (g' := (mkF m 134 #[.val (.int x1), .val (.int x2), .val (.int x3), .val (.int x4), .val (.int x5), .val (.int x6), .val (.int 0), .val (.ref b1), .val (.ref b2), .val (.ref b3), .val (.int 0), .unset, .unset, .unset] [(.ref b4)])) (fun t k => st5.trans k) ?_
    refine own_by (T' := T5) (g' := (mkF m 136 #[.val (.int x1), .val (.int x2), .val (.int x3), .val (.int x4), .val (.int x5), .val (.int x6), .val (.int 0), .val (.ref b1), .val (.ref b2), .val (.ref b3), .val (.int 0), .val (.ref b4), .unset, .unset] [])) (fun t k => XS.astore X5.here hx rfl (hb hby at_134) rfl rfl (l' := #[.val (.int x1), .val (.int x2), .val (.int x3), .val (.int x4), .val (.int x5), .val (.int x6), .val (.int 0), .val (.ref b1), .val (.ref b2), .val (.ref b3), .val (.int 0), .val (.ref b4), .unset, .unset]) rfl k) ?_
    refine own_by (T' := T5) (g' := (mkF m 138 #[.val (.int x1), .val (.int x2), .val (.int x3), .val (.int x4), .val (.int x5), .val (.int x6), .val (.int 0), .val (.ref b1), .val (.ref b2), .val (.ref b3), .val (.int 0), .val (.ref b4), .unset, .unset] [(.ref b4)])) (fun t k => XS.aload X5.here hx rfl (hb hby at_136) rfl rfl k) ?_
    obtain ⟨cq6, kq6, q6a, q6b, q6c⟩ := isOf hZ rfl c5_1
    obtain ⟨_, _, ⟨T6, L6, k6, n6⟩, -, X6, ⟨Lc6, hQ6, l6, y6, z6⟩, st6⟩ := X5.virtualBack hx (y := (⟨"com/example/firebreak/firebreak/core/MapStep", "getBurning", "()I"⟩ : MethodName)) (z := (⟨"com/example/firebreak/firebreak/core/MapStep", "getBurning", "()I"⟩ : MethodName)) hown (mvT hZ (hw _ (own_m 30 rfl))) (mvT hZ (hw _ (own_m 31 rfl))) (notFace_of_selects (args := #[]) (mvT hZ (hw _ (own_m 33 rfl)))) (mvT hZ (hw _ (own_m 33 rfl))) (mvT hZ (hw _ (own_m 32 rfl))) (by decide) (backOf (W := 0) (rm3n0 l Z a0 hw [] b4 t2_5 k2 T5.heap n0 Zle c5_3 c5_4) hZ (hw _ (own_m 34 rfl)) (hw _ (own_m 4 rfl)) (by decide) (by decide)) q6a q6c (g := (mkF m 138 #[.val (.int x1), .val (.int x2), .val (.int x3), .val (.int x4), .val (.int x5), .val (.int x6), .val (.int 0), .val (.ref b1), .val (.ref b2), .val (.ref b3), .val (.int 0), .val (.ref b4), .unset, .unset] [(.ref b4)])) rfl (by rw [hml]; rfl) (Steps.refl _) (argsL := []) (rest := []) (lenOf pd_3 rfl) rfl (own_le rfl) (hb hby at_138) (fun _ _ => ⟨rfl, rfl, (by decide : 7 + 0 ≤ _), (by decide : 5 + 0 ≤ _)⟩)
    dsimp only [Pt.U, Pt.locs, Pt.cells, Pt.slots] at X6 l6 y6 z6 st6 hQ6
    subst l6 y6 z6
    obtain ⟨rfl, Nq6, e6⟩ := hQ6
    have N_ := Fr.app N_ Nq6
    refine own_by (T' := T6) (g' := (mkF m 141 #[.val (.int x1), .val (.int x2), .val (.int x3), .val (.int x4), .val (.int x5), .val (.int x6), .val (.int 0), .val (.ref b1), .val (.ref b2), .val (.ref b3), .val (.int 0), .val (.ref b4), .unset, .unset] [(.int 0)])) (fun t k => st6.trans k) ?_
    refine own_by (T' := T6) (g' := (mkF m 143 #[.val (.int x1), .val (.int x2), .val (.int x3), .val (.int x4), .val (.int x5), .val (.int x6), .val (.int 0), .val (.ref b1), .val (.ref b2), .val (.ref b3), .val (.int 0), .val (.ref b4), .val (.int 0), .unset] [])) (fun t k => XS.istore X6.here hx rfl (hb hby at_141) rfl (l' := #[.val (.int x1), .val (.int x2), .val (.int x3), .val (.int x4), .val (.int x5), .val (.int x6), .val (.int 0), .val (.ref b1), .val (.ref b2), .val (.ref b3), .val (.int 0), .val (.ref b4), .val (.int 0), .unset]) rfl k) ?_
    refine own_by (T' := T6) (g' := (mkF m 145 #[.val (.int x1), .val (.int x2), .val (.int x3), .val (.int x4), .val (.int x5), .val (.int x6), .val (.int 0), .val (.ref b1), .val (.ref b2), .val (.ref b3), .val (.int 0), .val (.ref b4), .val (.int 0), .unset] [(.int 0)])) (fun t k => XS.iload X6.here hx rfl (hb hby at_143) rfl k) ?_
    refine own_by (T' := T6) (g' := (mkF m 158 #[.val (.int x1), .val (.int x2), .val (.int x3), .val (.int x4), .val (.int x5), .val (.int x6), .val (.int 0), .val (.ref b1), .val (.ref b2), .val (.ref b3), .val (.int 0), .val (.ref b4), .val (.int 0), .unset] [])) (fun t k => XS.ifYes X6.here hx rfl (pc0 := 145) (pc' := 158) rfl (hb hby at_145) rfl ((if0 _ _).trans (flt (by decide)).2.2.2) (by decide) (by decide) k) ?_
    refine own_by (T' := T6) (g' := (mkF m 160 #[.val (.int x1), .val (.int x2), .val (.int x3), .val (.int x4), .val (.int x5), .val (.int x6), .val (.int 0), .val (.ref b1), .val (.ref b2), .val (.ref b3), .val (.int 0), .val (.ref b4), .val (.int 0), .unset] [(.ref b4)])) (fun t k => XS.aload X6.here hx rfl (hb hby at_158) rfl rfl k) ?_
    obtain ⟨cq7, kq7, q7a, q7b, q7c⟩ := isOf hZ e6 c5_1
    obtain ⟨_, _, ⟨T7, L7, k7, n7⟩, -, X7, ⟨Lc7, hQ7, l7, y7, z7⟩, st7⟩ := X6.virtualBack hx (y := (⟨"com/example/firebreak/firebreak/core/MapStep", "getBurning", "()I"⟩ : MethodName)) (z := (⟨"com/example/firebreak/firebreak/core/MapStep", "getBurning", "()I"⟩ : MethodName)) hown (mvT hZ (hw _ (own_m 30 rfl))) (mvT hZ (hw _ (own_m 31 rfl))) (notFace_of_selects (args := #[]) (mvT hZ (hw _ (own_m 33 rfl)))) (mvT hZ (hw _ (own_m 33 rfl))) (mvT hZ (hw _ (own_m 32 rfl))) (by decide) (backOf (W := 0) (rm3n0 l Z a0 hw [] b4 t2_5 k2 T5.heap n0 Zle c5_3 c5_4) hZ (hw _ (own_m 34 rfl)) (hw _ (own_m 4 rfl)) (by decide) (by decide)) q7a q7c (g := (mkF m 160 #[.val (.int x1), .val (.int x2), .val (.int x3), .val (.int x4), .val (.int x5), .val (.int x6), .val (.int 0), .val (.ref b1), .val (.ref b2), .val (.ref b3), .val (.int 0), .val (.ref b4), .val (.int 0), .unset] [(.ref b4)])) rfl (by rw [hml]; rfl) (Steps.refl _) (argsL := []) (rest := []) (lenOf pd_3 rfl) rfl (own_le rfl) (hb hby at_160) (fun _ _ => ⟨rfl, e6, (by decide : 7 + 0 ≤ _), (by decide : 5 + 0 ≤ _)⟩)
    dsimp only [Pt.U, Pt.locs, Pt.cells, Pt.slots] at X7 l7 y7 z7 st7 hQ7
    subst l7 y7 z7
    obtain ⟨rfl, Nq7, e7⟩ := hQ7
    have N_ := Fr.app N_ Nq7
    refine own_by (T' := T7) (g' := (mkF m 163 #[.val (.int x1), .val (.int x2), .val (.int x3), .val (.int x4), .val (.int x5), .val (.int x6), .val (.int 0), .val (.ref b1), .val (.ref b2), .val (.ref b3), .val (.int 0), .val (.ref b4), .val (.int 0), .unset] [(.int 0)])) (fun t k => st7.trans k) ?_
    refine own_by (T' := T7) (g' := (mkF m 165 #[.val (.int x1), .val (.int x2), .val (.int x3), .val (.int x4), .val (.int x5), .val (.int x6), .val (.int 0), .val (.ref b1), .val (.ref b2), .val (.ref b3), .val (.int 0), .val (.ref b4), .val (.int 0), .val (.int 0)] [])) (fun t k => XS.istore X7.here hx rfl (hb hby at_163) rfl (l' := #[.val (.int x1), .val (.int x2), .val (.int x3), .val (.int x4), .val (.int x5), .val (.int x6), .val (.int 0), .val (.ref b1), .val (.ref b2), .val (.ref b3), .val (.int 0), .val (.ref b4), .val (.int 0), .val (.int 0)]) rfl k) ?_
    refine own_by (T' := T7) (g' := (mkF m 167 #[.val (.int x1), .val (.int x2), .val (.int x3), .val (.int x4), .val (.int x5), .val (.int x6), .val (.int 0), .val (.ref b1), .val (.ref b2), .val (.ref b3), .val (.int 0), .val (.ref b4), .val (.int 0), .val (.int 0)] [(.int 0)])) (fun t k => XS.iload X7.here hx rfl (hb hby at_165) rfl k) ?_
    refine own_by (T' := T7) (g' := (mkF m 169 #[.val (.int x1), .val (.int x2), .val (.int x3), .val (.int x4), .val (.int x5), .val (.int x6), .val (.int 0), .val (.ref b1), .val (.ref b2), .val (.ref b3), .val (.int 0), .val (.ref b4), .val (.int 0), .val (.int 0)] [(.int 0), (.int 0)])) (fun t k => XS.iload X7.here hx rfl (hb hby at_167) rfl k) ?_
    refine own_by (T' := T7) (g' := (mkF m 172 #[.val (.int x1), .val (.int x2), .val (.int x3), .val (.int x4), .val (.int x5), .val (.int x6), .val (.int 0), .val (.ref b1), .val (.ref b2), .val (.ref b3), .val (.int 0), .val (.ref b4), .val (.int 0), .val (.int 0)] [])) (fun t k => XS.icmpNo X7.here hx rfl (hb hby at_169) rfl (teq (by decide)).2 k) ?_
    refine own_by (T' := T7) (g' := (mkF m 174 #[.val (.int x1), .val (.int x2), .val (.int x3), .val (.int x4), .val (.int x5), .val (.int x6), .val (.int 0), .val (.ref b1), .val (.ref b2), .val (.ref b3), .val (.int 0), .val (.ref b4), .val (.int 0), .val (.int 0)] [(.int 0)])) (fun t k => XS.iload X7.here hx rfl (hb hby at_172) rfl k) ?_
    refine own_by (T' := T7) (g' := (mkF m 176 #[.val (.int x1), .val (.int x2), .val (.int x3), .val (.int x4), .val (.int x5), .val (.int x6), .val (.int 0), .val (.ref b1), .val (.ref b2), .val (.ref b3), .val (.int 0), .val (.ref b4), .val (.int 0), .val (.int 0)] [(.int 0), (.int 0)])) (fun t k => XS.iload X7.here hx rfl (hb hby at_174) rfl k) ?_
    refine own_by (T' := T7) (g' := (mkF m 179 #[.val (.int x1), .val (.int x2), .val (.int x3), .val (.int x4), .val (.int x5), .val (.int x6), .val (.int 0), .val (.ref b1), .val (.ref b2), .val (.ref b3), .val (.int 0), .val (.ref b4), .val (.int 0), .val (.int 0)] [])) (fun t k => XS.icmpNo X7.here hx rfl (hb hby at_176) rfl (teq (by decide)).2 k) ?_
    refine own_by (T' := T7) (g' := (mkF m 180 #[.val (.int x1), .val (.int x2), .val (.int x3), .val (.int x4), .val (.int x5), .val (.int x6), .val (.int 0), .val (.ref b1), .val (.ref b2), .val (.ref b3), .val (.int 0), .val (.ref b4), .val (.int 0), .val (.int 0)] [(.int 1)])) (fun t k => XS.iconst X7.here hx rfl (hb hby at_179) k) ?_
    refine own_by (T' := T7) (g' := (mkF m 184 #[.val (.int x1), .val (.int x2), .val (.int x3), .val (.int x4), .val (.int x5), .val (.int x6), .val (.int 0), .val (.ref b1), .val (.ref b2), .val (.ref b3), .val (.int 0), .val (.ref b4), .val (.int 0), .val (.int 0)] [(.int 1)])) (fun t k => XS.goto X7.here hx rfl (pc0 := 180) (pc' := 184) rfl (hb hby at_180) (by decide) (by decide) k) ?_
    exact own_retN X7 hx (t := .boolean) Bd.notSynchronized Bd.returns (by simp) (hb hby at_184) (by decide) (by decide) (by rw [e7]; exact ⟨rfl, N_⟩)
  · rw [hk]
    refine own_by (T' := s₁) (g' := (mkF m 10 #[.val (.int x1), .val (.int x2), .val (.int x3), .val (.int x4), .val (.int x5), .val (.int x6), .val (.int 1), .unset, .unset, .unset, .unset, .unset, .unset, .unset] [(.int 1)])) (fun t k => XS.iload X0.here hx rfl (hb hby at_8) rfl k) ?_
    obtain ⟨T8, h8, k8, X8, e8, E8, A8, AE8, st8⟩ := newPE X0 hx hZ (hw _ (own_m 1 rfl)) e0 (g := (mkF m 10 #[.val (.int x1), .val (.int x2), .val (.int x3), .val (.int x4), .val (.int x5), .val (.int x6), .val (.int 1), .unset, .unset, .unset, .unset, .unset, .unset, .unset] [(.int 1)])) rfl (hb hby at_10) rfl (by decide) (cap := 1) (by decide) (by decide) (by decide) (by decide) (ad := "[I") (by decide)
    obtain ⟨b8, g8⟩ : ∃ z, z = h0.size := ⟨_, rfl⟩
    rw [← g8] at A8 AE8 st8
    have g_b8 : n0 ≤ b8 := Nat.le_trans Zle (Nat.le_of_eq g8.symm)
    have Zle := Nat.le_trans Zle E8.1
    have E_b8 := AE8
    have V_b8 : Arv Z h8 b8 k8 .int (1 : Int32) [(.int 0)] (.int 0) := (Arv.new A8 (by decide)).pad (pad_rep [] (.int 0) 1)
    refine own_by (T' := T8) (g' := (mkF m 12 #[.val (.int x1), .val (.int x2), .val (.int x3), .val (.int x4), .val (.int x5), .val (.int x6), .val (.int 1), .unset, .unset, .unset, .unset, .unset, .unset, .unset] [(.ref b8)])) (fun t k => st8 t k) ?_
    refine own_by (T' := T8) (g' := (mkF m 14 #[.val (.int x1), .val (.int x2), .val (.int x3), .val (.int x4), .val (.int x5), .val (.int x6), .val (.int 1), .val (.ref b8), .unset, .unset, .unset, .unset, .unset, .unset] [])) (fun t k => XS.astore X8.here hx rfl (hb hby at_12) rfl rfl (l' := #[.val (.int x1), .val (.int x2), .val (.int x3), .val (.int x4), .val (.int x5), .val (.int x6), .val (.int 1), .val (.ref b8), .unset, .unset, .unset, .unset, .unset, .unset]) rfl k) ?_
    refine own_by (T' := T8) (g' := (mkF m 16 #[.val (.int x1), .val (.int x2), .val (.int x3), .val (.int x4), .val (.int x5), .val (.int x6), .val (.int 1), .val (.ref b8), .unset, .unset, .unset, .unset, .unset, .unset] [(.int 1)])) (fun t k => XS.iload X8.here hx rfl (hb hby at_14) rfl k) ?_
    obtain ⟨T9, h9, k9, X9, e9, E9, A9, AE9, st9⟩ := newPE X8 hx hZ (hw _ (own_m 1 rfl)) e8 (g := (mkF m 16 #[.val (.int x1), .val (.int x2), .val (.int x3), .val (.int x4), .val (.int x5), .val (.int x6), .val (.int 1), .val (.ref b8), .unset, .unset, .unset, .unset, .unset, .unset] [(.int 1)])) rfl (hb hby at_16) rfl (by decide) (cap := 1) (by decide) (by decide) (by decide) (by decide) (ad := "[I") (by decide)
    obtain ⟨b9, g9⟩ : ∃ z, z = h8.size := ⟨_, rfl⟩
    rw [← g9] at A9 AE9 st9
    have ne_b8_b9 : b8 ≠ b9 := Nat.ne_of_lt (Nat.lt_of_lt_of_eq E_b8.lt g9.symm)
    have g_b9 : n0 ≤ b9 := Nat.le_trans Zle (Nat.le_of_eq g9.symm)
    have Zle := Nat.le_trans Zle E9.1
    have E_b8 := E_b8.ext E9
    have V_b8 := V_b8.ext E9
    have E_b9 := AE9
    have V_b9 : Arv Z h9 b9 k9 .int (1 : Int32) [(.int 0)] (.int 0) := (Arv.new A9 (by decide)).pad (pad_rep [] (.int 0) 1)
    refine own_by (T' := T9) (g' := (mkF m 18 #[.val (.int x1), .val (.int x2), .val (.int x3), .val (.int x4), .val (.int x5), .val (.int x6), .val (.int 1), .val (.ref b8), .unset, .unset, .unset, .unset, .unset, .unset] [(.ref b9)])) (fun t k => st9 t k) ?_
    refine own_by (T' := T9) (g' := (mkF m 20 #[.val (.int x1), .val (.int x2), .val (.int x3), .val (.int x4), .val (.int x5), .val (.int x6), .val (.int 1), .val (.ref b8), .val (.ref b9), .unset, .unset, .unset, .unset, .unset] [])) (fun t k => XS.astore X9.here hx rfl (hb hby at_18) rfl rfl (l' := #[.val (.int x1), .val (.int x2), .val (.int x3), .val (.int x4), .val (.int x5), .val (.int x6), .val (.int 1), .val (.ref b8), .val (.ref b9), .unset, .unset, .unset, .unset, .unset]) rfl k) ?_
    refine own_by (T' := T9) (g' := (mkF m 22 #[.val (.int x1), .val (.int x2), .val (.int x3), .val (.int x4), .val (.int x5), .val (.int x6), .val (.int 1), .val (.ref b8), .val (.ref b9), .unset, .unset, .unset, .unset, .unset] [(.int 1)])) (fun t k => XS.iload X9.here hx rfl (hb hby at_20) rfl k) ?_
    obtain ⟨T10, h10, k10, X10, e10, E10, A10, AE10, st10⟩ := newPE X9 hx hZ (hw _ (own_m 1 rfl)) e9 (g := (mkF m 22 #[.val (.int x1), .val (.int x2), .val (.int x3), .val (.int x4), .val (.int x5), .val (.int x6), .val (.int 1), .val (.ref b8), .val (.ref b9), .unset, .unset, .unset, .unset, .unset] [(.int 1)])) rfl (hb hby at_22) rfl (by decide) (cap := 1) (by decide) (by decide) (by decide) (by decide) (ad := "[I") (by decide)
    obtain ⟨b10, g10⟩ : ∃ z, z = h9.size := ⟨_, rfl⟩
    rw [← g10] at A10 AE10 st10
    have ne_b8_b10 : b8 ≠ b10 := Nat.ne_of_lt (Nat.lt_of_lt_of_eq E_b8.lt g10.symm)
    have ne_b9_b10 : b9 ≠ b10 := Nat.ne_of_lt (Nat.lt_of_lt_of_eq E_b9.lt g10.symm)
    have g_b10 : n0 ≤ b10 := Nat.le_trans Zle (Nat.le_of_eq g10.symm)
    have Zle := Nat.le_trans Zle E10.1
    have E_b8 := E_b8.ext E10
    have V_b8 := V_b8.ext E10
    have E_b9 := E_b9.ext E10
    have V_b9 := V_b9.ext E10
    have E_b10 := AE10
    have V_b10 : Arv Z h10 b10 k10 .int (1 : Int32) [(.int 0)] (.int 0) := (Arv.new A10 (by decide)).pad (pad_rep [] (.int 0) 1)
    refine own_by (T' := T10) (g' := (mkF m 24 #[.val (.int x1), .val (.int x2), .val (.int x3), .val (.int x4), .val (.int x5), .val (.int x6), .val (.int 1), .val (.ref b8), .val (.ref b9), .unset, .unset, .unset, .unset, .unset] [(.ref b10)])) (fun t k => st10 t k) ?_
    refine own_by (T' := T10) (g' := (mkF m 26 #[.val (.int x1), .val (.int x2), .val (.int x3), .val (.int x4), .val (.int x5), .val (.int x6), .val (.int 1), .val (.ref b8), .val (.ref b9), .val (.ref b10), .unset, .unset, .unset, .unset] [])) (fun t k => XS.astore X10.here hx rfl (hb hby at_24) rfl rfl (l' := #[.val (.int x1), .val (.int x2), .val (.int x3), .val (.int x4), .val (.int x5), .val (.int x6), .val (.int 1), .val (.ref b8), .val (.ref b9), .val (.ref b10), .unset, .unset, .unset, .unset]) rfl k) ?_
    refine own_by (T' := T10) (g' := (mkF m 27 #[.val (.int x1), .val (.int x2), .val (.int x3), .val (.int x4), .val (.int x5), .val (.int x6), .val (.int 1), .val (.ref b8), .val (.ref b9), .val (.ref b10), .unset, .unset, .unset, .unset] [(.int 0)])) (fun t k => XS.iconst X10.here hx rfl (hb hby at_26) k) ?_
    refine own_by (T' := T10) (g' := (mkF m 29 #[.val (.int x1), .val (.int x2), .val (.int x3), .val (.int x4), .val (.int x5), .val (.int x6), .val (.int 1), .val (.ref b8), .val (.ref b9), .val (.ref b10), .val (.int 0), .unset, .unset, .unset] [])) (fun t k => XS.istore X10.here hx rfl (hb hby at_27) rfl (l' := #[.val (.int x1), .val (.int x2), .val (.int x3), .val (.int x4), .val (.int x5), .val (.int x6), .val (.int 1), .val (.ref b8), .val (.ref b9), .val (.ref b10), .val (.int 0), .unset, .unset, .unset]) rfl k) ?_
    refine own_by (T' := T10) (g' := (mkF m 31 #[.val (.int x1), .val (.int x2), .val (.int x3), .val (.int x4), .val (.int x5), .val (.int x6), .val (.int 1), .val (.ref b8), .val (.ref b9), .val (.ref b10), .val (.int 0), .unset, .unset, .unset] [(.int 1)])) (fun t k => XS.iload X10.here hx rfl (hb hby at_29) rfl k) ?_
    refine own_by (T' := T10) (g' := (mkF m 34 #[.val (.int x1), .val (.int x2), .val (.int x3), .val (.int x4), .val (.int x5), .val (.int x6), .val (.int 1), .val (.ref b8), .val (.ref b9), .val (.ref b10), .val (.int 0), .unset, .unset, .unset] [])) (fun t k => XS.ifNo X10.here hx rfl (hb hby at_31) rfl ((if0 _ _).trans (tlt (by decide)).2.2.2) k) ?_
    refine own_by (T' := T10) (g' := (mkF m 36 #[.val (.int x1), .val (.int x2), .val (.int x3), .val (.int x4), .val (.int x5), .val (.int x6), .val (.int 1), .val (.ref b8), .val (.ref b9), .val (.ref b10), .val (.int 0), .unset, .unset, .unset] [(.ref b9)])) (fun t k => XS.aload X10.here hx rfl (hb hby at_34) rfl rfl k) ?_
    refine own_by (T' := T10) (g' := (mkF m 37 #[.val (.int x1), .val (.int x2), .val (.int x3), .val (.int x4), .val (.int x5), .val (.int x6), .val (.int 1), .val (.ref b8), .val (.ref b9), .val (.ref b10), .val (.int 0), .unset, .unset, .unset] [(.int 0), (.ref b9)])) (fun t k => XS.iconst X10.here hx rfl (hb hby at_36) k) ?_
    refine own_by (T' := T10) (g' := (mkF m 38 #[.val (.int x1), .val (.int x2), .val (.int x3), .val (.int x4), .val (.int x5), .val (.int x6), .val (.int 1), .val (.ref b8), .val (.ref b9), .val (.ref b10), .val (.int 0), .unset, .unset, .unset] [(.int x2), (.int 0), (.ref b9)])) (fun t k => XS.iloadN X10.here hx rfl (hb hby at_37) rfl k) ?_
    obtain ⟨cl11, Ar11, q11, S11, N11, Hs11, G11⟩ := id V_b9
    have hin11 : ¬ ((0 : Int32) < 0 ∨ cl11.slots.size ≤ ((0 : Int32)).toNatClampNeg) := inb_of S11 ⟨by decide, by decide⟩
    obtain ⟨T11, h11, X11, e11, W11, st11⟩ := stI X10 hx hZ e10 Ar11 (j := (0 : Int32)) hin11 (g := (mkF m 38 #[.val (.int x1), .val (.int x2), .val (.int x3), .val (.int x4), .val (.int x5), .val (.int x6), .val (.int 1), .val (.ref b8), .val (.ref b9), .val (.ref b10), .val (.int 0), .unset, .unset, .unset] [(.int x2), (.int 0), (.ref b9)])) rfl rfl (hb hby at_38)
    have V_b9_ : Arv Z h11 b9 k9 .int (1 : Int32) [(.int x2)] (.int 0) := Arv.set Ar11 q11 S11 N11 Hs11 G11 rfl W11 0 rfl (Nat.le_of_ble_eq_true rfl)
    have Zle := Nat.le_trans Zle (Keep.of_wr W11).1
    have E_b8 := E_b8.wr W11
    have V_b8 := V_b8.other W11 ne_b8_b9
    have E_b9 := E_b9.wr W11
    have E_b10 := E_b10.wr W11
    have V_b10 := V_b10.other W11 ne_b9_b10.symm
    have V_b9 := V_b9_
    have N_ := Fr.snoc X11 N_ g_b9
    refine own_by (T' := T11) (g' := (mkF m 39 #[.val (.int x1), .val (.int x2), .val (.int x3), .val (.int x4), .val (.int x5), .val (.int x6), .val (.int 1), .val (.ref b8), .val (.ref b9), .val (.ref b10), .val (.int 0), .unset, .unset, .unset] [])) (fun t k => st11 t k) ?_
    refine own_by (T' := T11) (g' := (mkF m 41 #[.val (.int x1), .val (.int x2), .val (.int x3), .val (.int x4), .val (.int x5), .val (.int x6), .val (.int 1), .val (.ref b8), .val (.ref b9), .val (.ref b10), .val (.int 0), .unset, .unset, .unset] [(.ref b8)])) (fun t k => XS.aload X11.here hx rfl (hb hby at_39) rfl rfl k) ?_
    refine own_by (T' := T11) (g' := (mkF m 42 #[.val (.int x1), .val (.int x2), .val (.int x3), .val (.int x4), .val (.int x5), .val (.int x6), .val (.int 1), .val (.ref b8), .val (.ref b9), .val (.ref b10), .val (.int 0), .unset, .unset, .unset] [(.int 0), (.ref b8)])) (fun t k => XS.iconst X11.here hx rfl (hb hby at_41) k) ?_
    refine own_by (T' := T11) (g' := (mkF m 43 #[.val (.int x1), .val (.int x2), .val (.int x3), .val (.int x4), .val (.int x5), .val (.int x6), .val (.int 1), .val (.ref b8), .val (.ref b9), .val (.ref b10), .val (.int 0), .unset, .unset, .unset] [(.int 0), (.int 0), (.ref b8)])) (fun t k => XS.iconst X11.here hx rfl (hb hby at_42) k) ?_
    obtain ⟨cl12, Ar12, q12, S12, N12, Hs12, G12⟩ := id V_b8
    have hin12 : ¬ ((0 : Int32) < 0 ∨ cl12.slots.size ≤ ((0 : Int32)).toNatClampNeg) := inb_of S12 ⟨by decide, by decide⟩
    obtain ⟨T12, h12, X12, e12, W12, st12⟩ := stI X11 hx hZ e11 Ar12 (j := (0 : Int32)) hin12 (g := (mkF m 43 #[.val (.int x1), .val (.int x2), .val (.int x3), .val (.int x4), .val (.int x5), .val (.int x6), .val (.int 1), .val (.ref b8), .val (.ref b9), .val (.ref b10), .val (.int 0), .unset, .unset, .unset] [(.int 0), (.int 0), (.ref b8)])) rfl rfl (hb hby at_43)
    have V_b8_ : Arv Z h12 b8 k8 .int (1 : Int32) [(.int 0)] (.int 0) := Arv.set Ar12 q12 S12 N12 Hs12 G12 rfl W12 0 rfl (Nat.le_of_ble_eq_true rfl)
    have Zle := Nat.le_trans Zle (Keep.of_wr W12).1
    have E_b8 := E_b8.wr W12
    have E_b9 := E_b9.wr W12
    have E_b10 := E_b10.wr W12
    have V_b10 := V_b10.other W12 ne_b8_b10.symm
    have V_b9 := V_b9.other W12 ne_b8_b9.symm
    have V_b8 := V_b8_
    have N_ := Fr.snoc X12 N_ g_b8
    refine own_by (T' := T12) (g' := (mkF m 44 #[.val (.int x1), .val (.int x2), .val (.int x3), .val (.int x4), .val (.int x5), .val (.int x6), .val (.int 1), .val (.ref b8), .val (.ref b9), .val (.ref b10), .val (.int 0), .unset, .unset, .unset] [])) (fun t k => st12 t k) ?_
    refine own_by (T' := T12) (g' := (mkF m 46 #[.val (.int x1), .val (.int x2), .val (.int x3), .val (.int x4), .val (.int x5), .val (.int x6), .val (.int 1), .val (.ref b8), .val (.ref b9), .val (.ref b10), .val (.int 0), .unset, .unset, .unset] [(.int 0)])) (fun t k => XS.iload X12.here hx rfl (hb hby at_44) rfl k) ?_
    refine own_by (T' := T12) (g' := (mkF m 47 #[.val (.int x1), .val (.int x2), .val (.int x3), .val (.int x4), .val (.int x5), .val (.int x6), .val (.int 1), .val (.ref b8), .val (.ref b9), .val (.ref b10), .val (.int 0), .unset, .unset, .unset] [(.int x2), (.int 0)])) (fun t k => XS.iloadN X12.here hx rfl (hb hby at_46) rfl k) ?_
    refine own_by (T' := T12) (g' := (mkF m 48 #[.val (.int x1), .val (.int x2), .val (.int x3), .val (.int x4), .val (.int x5), .val (.int x6), .val (.int 1), .val (.ref b8), .val (.ref b9), .val (.ref b10), .val (.int 0), .unset, .unset, .unset] [(.int ((0 : Int32) + x2))])) (fun t k => XS.iadd X12.here hx rfl (hb hby at_47) rfl k) ?_
    refine own_by (T' := T12) (g' := (mkF m 50 #[.val (.int x1), .val (.int x2), .val (.int x3), .val (.int x4), .val (.int x5), .val (.int x6), .val (.int 1), .val (.ref b8), .val (.ref b9), .val (.ref b10), .val (.int ((0 : Int32) + x2)), .unset, .unset, .unset] [])) (fun t k => XS.istore X12.here hx rfl (hb hby at_48) rfl (l' := #[.val (.int x1), .val (.int x2), .val (.int x3), .val (.int x4), .val (.int x5), .val (.int x6), .val (.int 1), .val (.ref b8), .val (.ref b9), .val (.ref b10), .val (.int ((0 : Int32) + x2)), .unset, .unset, .unset]) rfl k) ?_
    refine own_by (T' := T12) (g' := (mkF m 52 #[.val (.int x1), .val (.int x2), .val (.int x3), .val (.int x4), .val (.int x5), .val (.int x6), .val (.int 1), .val (.ref b8), .val (.ref b9), .val (.ref b10), .val (.int ((0 : Int32) + x2)), .unset, .unset, .unset] [(.int 1)])) (fun t k => XS.iload X12.here hx rfl (hb hby at_50) rfl k) ?_
    refine own_by (T' := T12) (g' := (mkF m 53 #[.val (.int x1), .val (.int x2), .val (.int x3), .val (.int x4), .val (.int x5), .val (.int x6), .val (.int 1), .val (.ref b8), .val (.ref b9), .val (.ref b10), .val (.int ((0 : Int32) + x2)), .unset, .unset, .unset] [(.int 1), (.int 1)])) (fun t k => XS.iconst X12.here hx rfl (hb hby at_52) k) ?_
    refine own_by (T' := T12) (g' := (mkF m 72 #[.val (.int x1), .val (.int x2), .val (.int x3), .val (.int x4), .val (.int x5), .val (.int x6), .val (.int 1), .val (.ref b8), .val (.ref b9), .val (.ref b10), .val (.int ((0 : Int32) + x2)), .unset, .unset, .unset] [])) (fun t k => XS.icmpYes X12.here hx rfl (pc0 := 53) (pc' := 72) rfl (hb hby at_53) rfl (flt (by decide)).2.2.2 (by decide) (by decide) k) ?_
    refine own_by (T' := T12) (g' := (mkF m 74 #[.val (.int x1), .val (.int x2), .val (.int x3), .val (.int x4), .val (.int x5), .val (.int x6), .val (.int 1), .val (.ref b8), .val (.ref b9), .val (.ref b10), .val (.int ((0 : Int32) + x2)), .unset, .unset, .unset] [(.int 1)])) (fun t k => XS.iload X12.here hx rfl (hb hby at_72) rfl k) ?_
    refine own_by (T' := T12) (g' := (mkF m 75 #[.val (.int x1), .val (.int x2), .val (.int x3), .val (.int x4), .val (.int x5), .val (.int x6), .val (.int 1), .val (.ref b8), .val (.ref b9), .val (.ref b10), .val (.int ((0 : Int32) + x2)), .unset, .unset, .unset] [(.int 2), (.int 1)])) (fun t k => XS.iconst X12.here hx rfl (hb hby at_74) k) ?_
    refine own_by (T' := T12) (g' := (mkF m 94 #[.val (.int x1), .val (.int x2), .val (.int x3), .val (.int x4), .val (.int x5), .val (.int x6), .val (.int 1), .val (.ref b8), .val (.ref b9), .val (.ref b10), .val (.int ((0 : Int32) + x2)), .unset, .unset, .unset] [])) (fun t k => XS.icmpYes X12.here hx rfl (pc0 := 75) (pc' := 94) rfl (hb hby at_75) rfl (flt (by decide)).2.2.2 (by decide) (by decide) k) ?_
    refine own_by (T' := T12) (g' := (mkF m 96 #[.val (.int x1), .val (.int x2), .val (.int x3), .val (.int x4), .val (.int x5), .val (.int x6), .val (.int 1), .val (.ref b8), .val (.ref b9), .val (.ref b10), .val (.int ((0 : Int32) + x2)), .unset, .unset, .unset] [(.int 1)])) (fun t k => XS.iload X12.here hx rfl (hb hby at_94) rfl k) ?_
    refine own_by (T' := T12) (g' := (mkF m 97 #[.val (.int x1), .val (.int x2), .val (.int x3), .val (.int x4), .val (.int x5), .val (.int x6), .val (.int 1), .val (.ref b8), .val (.ref b9), .val (.ref b10), .val (.int ((0 : Int32) + x2)), .unset, .unset, .unset] [(.int 3), (.int 1)])) (fun t k => XS.iconst X12.here hx rfl (hb hby at_96) k) ?_
    refine own_by (T' := T12) (g' := (mkF m 118 #[.val (.int x1), .val (.int x2), .val (.int x3), .val (.int x4), .val (.int x5), .val (.int x6), .val (.int 1), .val (.ref b8), .val (.ref b9), .val (.ref b10), .val (.int ((0 : Int32) + x2)), .unset, .unset, .unset] [])) (fun t k => XS.icmpYes X12.here hx rfl (pc0 := 97) (pc' := 118) rfl (hb hby at_97) rfl (flt (by decide)).2.2.2 (by decide) (by decide) k) ?_
    obtain ⟨T13, h13, X13, e13, E13, A13, D13, -, st13⟩ := newO X12 hx hZ hown (hw _ (own_m 2 rfl)) (hw _ (own_m 3 rfl)) (hw _ (own_m 4 rfl)) e12 (g := (mkF m 118 #[.val (.int x1), .val (.int x2), .val (.int x3), .val (.int x4), .val (.int x5), .val (.int x6), .val (.int 1), .val (.ref b8), .val (.ref b9), .val (.ref b10), .val (.int ((0 : Int32) + x2)), .unset, .unset, .unset] [])) rfl (hb hby at_118) (by decide) (by decide)
    obtain ⟨b13, g13⟩ : ∃ z, z = h12.size := ⟨_, rfl⟩
    rw [← g13] at A13 D13 st13
    have ne_b8_b13 : b8 ≠ b13 := Nat.ne_of_lt (Nat.lt_of_lt_of_eq E_b8.lt g13.symm)
    have ne_b9_b13 : b9 ≠ b13 := Nat.ne_of_lt (Nat.lt_of_lt_of_eq E_b9.lt g13.symm)
    have ne_b10_b13 : b10 ≠ b13 := Nat.ne_of_lt (Nat.lt_of_lt_of_eq E_b10.lt g13.symm)
    have g_b13 : n0 ≤ b13 := Nat.le_trans Zle (Nat.le_of_eq g13.symm)
    have Zle := Nat.le_trans Zle E13.1
    have E_b8 := E_b8.ext E13
    have E_b9 := E_b9.ext E13
    have E_b10 := E_b10.ext E13
    have V_b10 := V_b10.ext E13
    have V_b9 := V_b9.ext E13
    have V_b8 := V_b8.ext E13
    have E_b13 := A13
    have F_step_b13 : Fld Z h13 b13 "com/example/firebreak/firebreak/core/MapStep" "step" "I" (.int 0) := D13 (Or.inr (hw _ (own_m 12 rfl))) (ty := .int) (by decide)
    have F_clusterIds_b13 : Fld Z h13 b13 "com/example/firebreak/firebreak/core/MapStep" "clusterIds" "[I" .null := D13 (Or.inr (hw _ (own_m 23 rfl))) (ty := (.array .int)) (by decide)
    have F_costs_b13 : Fld Z h13 b13 "com/example/firebreak/firebreak/core/MapStep" "costs" "[I" .null := D13 (Or.inr (hw _ (own_m 25 rfl))) (ty := (.array .int)) (by decide)
    have F_targeting_b13 : Fld Z h13 b13 "com/example/firebreak/firebreak/core/MapStep" "targeting" "[I" .null := D13 (Or.inr (hw _ (own_m 27 rfl))) (ty := (.array .int)) (by decide)
    have F_idle_b13 : Fld Z h13 b13 "com/example/firebreak/firebreak/core/MapStep" "idle" "I" (.int 0) := D13 (Or.inr (hw _ (own_m 29 rfl))) (ty := .int) (by decide)
    refine own_by (T' := T13) (g' := (mkF m 121 #[.val (.int x1), .val (.int x2), .val (.int x3), .val (.int x4), .val (.int x5), .val (.int x6), .val (.int 1), .val (.ref b8), .val (.ref b9), .val (.ref b10), .val (.int ((0 : Int32) + x2)), .unset, .unset, .unset] [(.ref b13)])) (fun t k => st13 t k) ?_
    refine own_by (T' := T13) (g' := (mkF m 122 #[.val (.int x1), .val (.int x2), .val (.int x3), .val (.int x4), .val (.int x5), .val (.int x6), .val (.int 1), .val (.ref b8), .val (.ref b9), .val (.ref b10), .val (.int ((0 : Int32) + x2)), .unset, .unset, .unset] [(.ref b13), (.ref b13)])) (fun t k => XS.dup X13.here hx rfl (hb hby at_121) rfl rfl k) ?_
    refine own_by (T' := T13) (g' := (mkF m 123 #[.val (.int x1), .val (.int x2), .val (.int x3), .val (.int x4), .val (.int x5), .val (.int x6), .val (.int 1), .val (.ref b8), .val (.ref b9), .val (.ref b10), .val (.int ((0 : Int32) + x2)), .unset, .unset, .unset] [(.int x1), (.ref b13), (.ref b13)])) (fun t k => XS.iloadN X13.here hx rfl (hb hby at_122) rfl k) ?_
    refine own_by (T' := T13) (g' := (mkF m 125 #[.val (.int x1), .val (.int x2), .val (.int x3), .val (.int x4), .val (.int x5), .val (.int x6), .val (.int 1), .val (.ref b8), .val (.ref b9), .val (.ref b10), .val (.int ((0 : Int32) + x2)), .unset, .unset, .unset] [(.ref b8), (.int x1), (.ref b13), (.ref b13)])) (fun t k => XS.aload X13.here hx rfl (hb hby at_123) rfl rfl k) ?_
    refine own_by (T' := T13) (g' := (mkF m 127 #[.val (.int x1), .val (.int x2), .val (.int x3), .val (.int x4), .val (.int x5), .val (.int x6), .val (.int 1), .val (.ref b8), .val (.ref b9), .val (.ref b10), .val (.int ((0 : Int32) + x2)), .unset, .unset, .unset] [(.ref b9), (.ref b8), (.int x1), (.ref b13), (.ref b13)])) (fun t k => XS.aload X13.here hx rfl (hb hby at_125) rfl rfl k) ?_
    refine own_by (T' := T13) (g' := (mkF m 129 #[.val (.int x1), .val (.int x2), .val (.int x3), .val (.int x4), .val (.int x5), .val (.int x6), .val (.int 1), .val (.ref b8), .val (.ref b9), .val (.ref b10), .val (.int ((0 : Int32) + x2)), .unset, .unset, .unset] [(.ref b10), (.ref b9), (.ref b8), (.int x1), (.ref b13), (.ref b13)])) (fun t k => XS.aload X13.here hx rfl (hb hby at_127) rfl rfl k) ?_
    refine own_by (T' := T13) (g' := (mkF m 131 #[.val (.int x1), .val (.int x2), .val (.int x3), .val (.int x4), .val (.int x5), .val (.int x6), .val (.int 1), .val (.ref b8), .val (.ref b9), .val (.ref b10), .val (.int ((0 : Int32) + x2)), .unset, .unset, .unset] [(.int x6), (.ref b10), (.ref b9), (.ref b8), (.int x1), (.ref b13), (.ref b13)])) (fun t k => XS.iload X13.here hx rfl (hb hby at_129) rfl k) ?_
    have lt_b8_14 := E_b8.lt
    have lt_b9_14 := E_b9.lt
    have lt_b10_14 := E_b10.lt
    have lt_b13_14 := E_b13.lt
    have Zpre14 := Zle
    obtain ⟨_, _, ⟨T14, L14, k14, n14⟩, -, X14, ⟨Lc14, hQ14, l14, y14, z14⟩, st14⟩ := X13.specialBack hx (y := (⟨"com/example/firebreak/firebreak/core/MapStep", "<init>", "(I[I[I[II)V"⟩ : MethodName)) rfl hown (mvT hZ (hw _ (own_m 5 rfl))) (mvT hZ (hw _ (own_m 6 rfl))) (mvT hZ (hw _ (own_m 7 rfl))) (by decide) (backOf (W := 1) (rm1n1 l Z a0 hw [] b13 x1 b8 b9 b10 x6 k8 k9 k10 (0 : Int32) x2 (0 : Int32) h13 n0 Zle E_b13 g_b13 F_step_b13 F_clusterIds_b13 F_costs_b13 F_targeting_b13 F_idle_b13 V_b8 V_b9 V_b10 E_b8 E_b9 E_b10 (ne_b8_b13) (ne_b9_b13) (ne_b10_b13)) hZ (hw _ (own_m 7 rfl)) (hw _ (own_m 4 rfl)) (by decide) (by decide)) (g := (mkF m 131 #[.val (.int x1), .val (.int x2), .val (.int x3), .val (.int x4), .val (.int x5), .val (.int x6), .val (.int 1), .val (.ref b8), .val (.ref b9), .val (.ref b10), .val (.int ((0 : Int32) + x2)), .unset, .unset, .unset] [(.int x6), (.ref b10), (.ref b9), (.ref b8), (.int x1), (.ref b13), (.ref b13)])) rfl (by rw [hml]; rfl) (Steps.refl _) (a := b13) (argsL := [(.int x1), (.ref b8), (.ref b9), (.ref b10), (.int x6)]) (rest := [(.ref b13)]) (lenOf pd_0 rfl) rfl (own_le rfl) (hb hby at_131) (fun _ _ => ⟨rfl, e13, (by decide : 4 + 3 ≤ _), (by decide : 8 + 3 ≤ _)⟩)
    dsimp only [Pt.U, Pt.locs, Pt.cells, Pt.slots] at X14 l14 y14 z14 st14 hQ14
    subst l14 y14 z14
    obtain ⟨t2_14, rfl, Nq14, c14_0, c14_1, c14_2, c14_3, c14_4⟩ := hQ14
    have N_ := Fr.app N_ Nq14
    have Zle := Nat.le_trans Zle c14_0.1
    have E_b8 := E_b8.keep c14_0
    have E_b9 := E_b9.keep c14_0
    have E_b10 := E_b10.keep c14_0
    have V_b10 := V_b10.keep c14_0 (ninS ne_b10_b13 nin0)
    have V_b9 := V_b9.keep c14_0 (ninS ne_b9_b13 nin0)
    have V_b8 := V_b8.keep c14_0 (ninS ne_b8_b13 nin0)
    have E_b13 := E_b13.keep c14_0
    have ne_b8_t2_14 : b8 ≠ t2_14 := Nat.ne_of_lt (Nat.lt_of_lt_of_le lt_b8_14 c14_2)
    have ne_b9_t2_14 : b9 ≠ t2_14 := Nat.ne_of_lt (Nat.lt_of_lt_of_le lt_b9_14 c14_2)
    have ne_b10_t2_14 : b10 ≠ t2_14 := Nat.ne_of_lt (Nat.lt_of_lt_of_le lt_b10_14 c14_2)
    have ne_b13_t2_14 : b13 ≠ t2_14 := Nat.ne_of_lt (Nat.lt_of_lt_of_le lt_b13_14 c14_2)
    have g_t2_14 : n0 ≤ t2_14 := Nat.le_trans Zpre14 c14_2
    refine own_by (T' := T14) (g' := (mkF m 134 #[.val (.int x1), .val (.int x2), .val (.int x3), .val (.int x4), .val (.int x5), .val (.int x6), .val (.int 1), .val (.ref b8), .val (.ref b9), .val (.ref b10), .val (.int ((0 : Int32) + x2)), .unset, .unset, .unset] [(.ref b13)])) (fun t k => st14.trans k) ?_
    refine own_by (T' := T14) (g' := (mkF m 136 #[.val (.int x1), .val (.int x2), .val (.int x3), .val (.int x4), .val (.int x5), .val (.int x6), .val (.int 1), .val (.ref b8), .val (.ref b9), .val (.ref b10), .val (.int ((0 : Int32) + x2)), .val (.ref b13), .unset, .unset] [])) (fun t k => XS.astore X14.here hx rfl (hb hby at_134) rfl rfl (l' := #[.val (.int x1), .val (.int x2), .val (.int x3), .val (.int x4), .val (.int x5), .val (.int x6), .val (.int 1), .val (.ref b8), .val (.ref b9), .val (.ref b10), .val (.int ((0 : Int32) + x2)), .val (.ref b13), .unset, .unset]) rfl k) ?_
    refine own_by (T' := T14) (g' := (mkF m 138 #[.val (.int x1), .val (.int x2), .val (.int x3), .val (.int x4), .val (.int x5), .val (.int x6), .val (.int 1), .val (.ref b8), .val (.ref b9), .val (.ref b10), .val (.int ((0 : Int32) + x2)), .val (.ref b13), .unset, .unset] [(.ref b13)])) (fun t k => XS.aload X14.here hx rfl (hb hby at_136) rfl rfl k) ?_
    obtain ⟨cq15, kq15, q15a, q15b, q15c⟩ := isOf hZ rfl c14_1
    obtain ⟨_, _, ⟨T15, L15, k15, n15⟩, -, X15, ⟨Lc15, hQ15, l15, y15, z15⟩, st15⟩ := X14.virtualBack hx (y := (⟨"com/example/firebreak/firebreak/core/MapStep", "getBurning", "()I"⟩ : MethodName)) (z := (⟨"com/example/firebreak/firebreak/core/MapStep", "getBurning", "()I"⟩ : MethodName)) hown (mvT hZ (hw _ (own_m 30 rfl))) (mvT hZ (hw _ (own_m 31 rfl))) (notFace_of_selects (args := #[]) (mvT hZ (hw _ (own_m 33 rfl)))) (mvT hZ (hw _ (own_m 33 rfl))) (mvT hZ (hw _ (own_m 32 rfl))) (by decide) (backOf (W := 0) (rm3n1 l Z a0 hw [] b13 t2_14 k9 x2 T14.heap n0 Zle c14_3 c14_4) hZ (hw _ (own_m 34 rfl)) (hw _ (own_m 4 rfl)) (by decide) (by decide)) q15a q15c (g := (mkF m 138 #[.val (.int x1), .val (.int x2), .val (.int x3), .val (.int x4), .val (.int x5), .val (.int x6), .val (.int 1), .val (.ref b8), .val (.ref b9), .val (.ref b10), .val (.int ((0 : Int32) + x2)), .val (.ref b13), .unset, .unset] [(.ref b13)])) rfl (by rw [hml]; rfl) (Steps.refl _) (argsL := []) (rest := []) (lenOf pd_3 rfl) rfl (own_le rfl) (hb hby at_138) (fun _ _ => ⟨rfl, rfl, (by decide : 7 + 0 ≤ _), (by decide : 11 + 0 ≤ _)⟩)
    dsimp only [Pt.U, Pt.locs, Pt.cells, Pt.slots] at X15 l15 y15 z15 st15 hQ15
    subst l15 y15 z15
    obtain ⟨rfl, Nq15, e15⟩ := hQ15
    have N_ := Fr.app N_ Nq15
    refine own_by (T' := T15) (g' := (mkF m 141 #[.val (.int x1), .val (.int x2), .val (.int x3), .val (.int x4), .val (.int x5), .val (.int x6), .val (.int 1), .val (.ref b8), .val (.ref b9), .val (.ref b10), .val (.int ((0 : Int32) + x2)), .val (.ref b13), .unset, .unset] [(.int ((0 : Int32) + x2))])) (fun t k => st15.trans k) ?_
    refine own_by (T' := T15) (g' := (mkF m 143 #[.val (.int x1), .val (.int x2), .val (.int x3), .val (.int x4), .val (.int x5), .val (.int x6), .val (.int 1), .val (.ref b8), .val (.ref b9), .val (.ref b10), .val (.int ((0 : Int32) + x2)), .val (.ref b13), .val (.int ((0 : Int32) + x2)), .unset] [])) (fun t k => XS.istore X15.here hx rfl (hb hby at_141) rfl (l' := #[.val (.int x1), .val (.int x2), .val (.int x3), .val (.int x4), .val (.int x5), .val (.int x6), .val (.int 1), .val (.ref b8), .val (.ref b9), .val (.ref b10), .val (.int ((0 : Int32) + x2)), .val (.ref b13), .val (.int ((0 : Int32) + x2)), .unset]) rfl k) ?_
    refine own_by (T' := T15) (g' := (mkF m 145 #[.val (.int x1), .val (.int x2), .val (.int x3), .val (.int x4), .val (.int x5), .val (.int x6), .val (.int 1), .val (.ref b8), .val (.ref b9), .val (.ref b10), .val (.int ((0 : Int32) + x2)), .val (.ref b13), .val (.int ((0 : Int32) + x2)), .unset] [(.int 1)])) (fun t k => XS.iload X15.here hx rfl (hb hby at_143) rfl k) ?_
    refine own_by (T' := T15) (g' := (mkF m 148 #[.val (.int x1), .val (.int x2), .val (.int x3), .val (.int x4), .val (.int x5), .val (.int x6), .val (.int 1), .val (.ref b8), .val (.ref b9), .val (.ref b10), .val (.int ((0 : Int32) + x2)), .val (.ref b13), .val (.int ((0 : Int32) + x2)), .unset] [])) (fun t k => XS.ifNo X15.here hx rfl (hb hby at_145) rfl ((if0 _ _).trans (tlt (by decide)).2.2.2) k) ?_
    refine own_by (T' := T15) (g' := (mkF m 150 #[.val (.int x1), .val (.int x2), .val (.int x3), .val (.int x4), .val (.int x5), .val (.int x6), .val (.int 1), .val (.ref b8), .val (.ref b9), .val (.ref b10), .val (.int ((0 : Int32) + x2)), .val (.ref b13), .val (.int ((0 : Int32) + x2)), .unset] [(.ref b9)])) (fun t k => XS.aload X15.here hx rfl (hb hby at_148) rfl rfl k) ?_
    refine own_by (T' := T15) (g' := (mkF m 151 #[.val (.int x1), .val (.int x2), .val (.int x3), .val (.int x4), .val (.int x5), .val (.int x6), .val (.int 1), .val (.ref b8), .val (.ref b9), .val (.ref b10), .val (.int ((0 : Int32) + x2)), .val (.ref b13), .val (.int ((0 : Int32) + x2)), .unset] [(.int 0), (.ref b9)])) (fun t k => XS.iconst X15.here hx rfl (hb hby at_150) k) ?_
    refine own_by (T' := T15) (g' := (mkF m 153 #[.val (.int x1), .val (.int x2), .val (.int x3), .val (.int x4), .val (.int x5), .val (.int x6), .val (.int 1), .val (.ref b8), .val (.ref b9), .val (.ref b10), .val (.int ((0 : Int32) + x2)), .val (.ref b13), .val (.int ((0 : Int32) + x2)), .unset] [(.ref b9), (.int 0), (.ref b9)])) (fun t k => XS.aload X15.here hx rfl (hb hby at_151) rfl rfl k) ?_
    refine own_by (T' := T15) (g' := (mkF m 154 #[.val (.int x1), .val (.int x2), .val (.int x3), .val (.int x4), .val (.int x5), .val (.int x6), .val (.int 1), .val (.ref b8), .val (.ref b9), .val (.ref b10), .val (.int ((0 : Int32) + x2)), .val (.ref b13), .val (.int ((0 : Int32) + x2)), .unset] [(.int 0), (.ref b9), (.int 0), (.ref b9)])) (fun t k => XS.iconst X15.here hx rfl (hb hby at_153) k) ?_
    obtain ⟨cl16, Ar16, q16, S16, N16, Hs16, G16⟩ := id V_b9
    have hin16 : ¬ ((0 : Int32) < 0 ∨ cl16.slots.size ≤ ((0 : Int32)).toNatClampNeg) := inb_of S16 ⟨by decide, by decide⟩
    have hat16 : cl16.slots[((0 : Int32)).toNatClampNeg]? = some (.int x2) := Hs16.at hin16 rfl
    refine own_by (T' := T15) (g' := (mkF m 155 #[.val (.int x1), .val (.int x2), .val (.int x3), .val (.int x4), .val (.int x5), .val (.int x6), .val (.int 1), .val (.ref b8), .val (.ref b9), .val (.ref b10), .val (.int ((0 : Int32) + x2)), .val (.ref b13), .val (.int ((0 : Int32) + x2)), .unset] [(.int x2), (.int 0), (.ref b9)])) (fun t k => X15.iaload hx (j := (0 : Int32)) (v := (.int x2)) (by rw [e15]; exact Ar16.1) (State.isArrayOf_alike hZ.alike Ar16.2.1) Ar16.2.2 hin16 hat16 (g := (mkF m 154 #[.val (.int x1), .val (.int x2), .val (.int x3), .val (.int x4), .val (.int x5), .val (.int x6), .val (.int 1), .val (.ref b8), .val (.ref b9), .val (.ref b10), .val (.int ((0 : Int32) + x2)), .val (.ref b13), .val (.int ((0 : Int32) + x2)), .unset] [(.int 0), (.ref b9), (.int 0), (.ref b9)])) rfl rfl (hb hby at_154) _ k) ?_
    refine own_by (T' := T15) (g' := (mkF m 156 #[.val (.int x1), .val (.int x2), .val (.int x3), .val (.int x4), .val (.int x5), .val (.int x6), .val (.int 1), .val (.ref b8), .val (.ref b9), .val (.ref b10), .val (.int ((0 : Int32) + x2)), .val (.ref b13), .val (.int ((0 : Int32) + x2)), .unset] [(.int 1), (.int x2), (.int 0), (.ref b9)])) (fun t k => XS.iconst X15.here hx rfl (hb hby at_155) k) ?_
    refine own_by (T' := T15) (g' := (mkF m 157 #[.val (.int x1), .val (.int x2), .val (.int x3), .val (.int x4), .val (.int x5), .val (.int x6), .val (.int 1), .val (.ref b8), .val (.ref b9), .val (.ref b10), .val (.int ((0 : Int32) + x2)), .val (.ref b13), .val (.int ((0 : Int32) + x2)), .unset] [(.int (x2 ^^^ (1 : Int32))), (.int 0), (.ref b9)])) (fun t k => XS.ixor X15.here hx rfl (hb hby at_156) rfl k) ?_
    obtain ⟨cl17, Ar17, q17, S17, N17, Hs17, G17⟩ := id V_b9
    have hin17 : ¬ ((0 : Int32) < 0 ∨ cl17.slots.size ≤ ((0 : Int32)).toNatClampNeg) := inb_of S17 ⟨by decide, by decide⟩
    obtain ⟨T17, h17, X17, e17, W17, st17⟩ := stI X15 hx hZ e15 Ar17 (j := (0 : Int32)) hin17 (g := (mkF m 157 #[.val (.int x1), .val (.int x2), .val (.int x3), .val (.int x4), .val (.int x5), .val (.int x6), .val (.int 1), .val (.ref b8), .val (.ref b9), .val (.ref b10), .val (.int ((0 : Int32) + x2)), .val (.ref b13), .val (.int ((0 : Int32) + x2)), .unset] [(.int (x2 ^^^ (1 : Int32))), (.int 0), (.ref b9)])) rfl rfl (hb hby at_157)
    have V_b9_ : Arv Z h17 b9 k9 .int (1 : Int32) [(.int (x2 ^^^ (1 : Int32)))] (.int 0) := Arv.set Ar17 q17 S17 N17 Hs17 G17 rfl W17 0 rfl (Nat.le_of_ble_eq_true rfl)
    have Zle := Nat.le_trans Zle (Keep.of_wr W17).1
    have E_b8 := E_b8.wr W17
    have E_b9 := E_b9.wr W17
    have E_b10 := E_b10.wr W17
    have V_b10 := V_b10.other W17 ne_b9_b10.symm
    have V_b8 := V_b8.other W17 ne_b8_b9
    have c14_1 := c14_1.wr W17
    have c14_3 := c14_3.other W17 (Or.inl ne_b9_b13.symm)
    have c14_4 := c14_4.other W17 ne_b9_t2_14.symm
    have V_b9 := V_b9_
    have N_ := Fr.snoc X17 N_ g_b9
    refine own_by (T' := T17) (g' := (mkF m 158 #[.val (.int x1), .val (.int x2), .val (.int x3), .val (.int x4), .val (.int x5), .val (.int x6), .val (.int 1), .val (.ref b8), .val (.ref b9), .val (.ref b10), .val (.int ((0 : Int32) + x2)), .val (.ref b13), .val (.int ((0 : Int32) + x2)), .unset] [])) (fun t k => st17 t k) ?_
    refine own_by (T' := T17) (g' := (mkF m 160 #[.val (.int x1), .val (.int x2), .val (.int x3), .val (.int x4), .val (.int x5), .val (.int x6), .val (.int 1), .val (.ref b8), .val (.ref b9), .val (.ref b10), .val (.int ((0 : Int32) + x2)), .val (.ref b13), .val (.int ((0 : Int32) + x2)), .unset] [(.ref b13)])) (fun t k => XS.aload X17.here hx rfl (hb hby at_158) rfl rfl k) ?_
    obtain ⟨cq18, kq18, q18a, q18b, q18c⟩ := isOf hZ e17 c14_1
    obtain ⟨_, _, ⟨T18, L18, k18, n18⟩, -, X18, ⟨Lc18, hQ18, l18, y18, z18⟩, st18⟩ := X17.virtualBack hx (y := (⟨"com/example/firebreak/firebreak/core/MapStep", "getBurning", "()I"⟩ : MethodName)) (z := (⟨"com/example/firebreak/firebreak/core/MapStep", "getBurning", "()I"⟩ : MethodName)) hown (mvT hZ (hw _ (own_m 30 rfl))) (mvT hZ (hw _ (own_m 31 rfl))) (notFace_of_selects (args := #[]) (mvT hZ (hw _ (own_m 33 rfl)))) (mvT hZ (hw _ (own_m 33 rfl))) (mvT hZ (hw _ (own_m 32 rfl))) (by decide) (backOf (W := 0) (rm3n1 l Z a0 hw [] b13 t2_14 k9 x2 h17 n0 Zle c14_3 c14_4) hZ (hw _ (own_m 34 rfl)) (hw _ (own_m 4 rfl)) (by decide) (by decide)) q18a q18c (g := (mkF m 160 #[.val (.int x1), .val (.int x2), .val (.int x3), .val (.int x4), .val (.int x5), .val (.int x6), .val (.int 1), .val (.ref b8), .val (.ref b9), .val (.ref b10), .val (.int ((0 : Int32) + x2)), .val (.ref b13), .val (.int ((0 : Int32) + x2)), .unset] [(.ref b13)])) rfl (by rw [hml]; rfl) (Steps.refl _) (argsL := []) (rest := []) (lenOf pd_3 rfl) rfl (own_le rfl) (hb hby at_160) (fun _ _ => ⟨rfl, e17, (by decide : 7 + 0 ≤ _), (by decide : 11 + 0 ≤ _)⟩)
    dsimp only [Pt.U, Pt.locs, Pt.cells, Pt.slots] at X18 l18 y18 z18 st18 hQ18
    subst l18 y18 z18
    obtain ⟨rfl, Nq18, e18⟩ := hQ18
    have N_ := Fr.app N_ Nq18
    refine own_by (T' := T18) (g' := (mkF m 163 #[.val (.int x1), .val (.int x2), .val (.int x3), .val (.int x4), .val (.int x5), .val (.int x6), .val (.int 1), .val (.ref b8), .val (.ref b9), .val (.ref b10), .val (.int ((0 : Int32) + x2)), .val (.ref b13), .val (.int ((0 : Int32) + x2)), .unset] [(.int ((0 : Int32) + x2))])) (fun t k => st18.trans k) ?_
    refine own_by (T' := T18) (g' := (mkF m 165 #[.val (.int x1), .val (.int x2), .val (.int x3), .val (.int x4), .val (.int x5), .val (.int x6), .val (.int 1), .val (.ref b8), .val (.ref b9), .val (.ref b10), .val (.int ((0 : Int32) + x2)), .val (.ref b13), .val (.int ((0 : Int32) + x2)), .val (.int ((0 : Int32) + x2))] [])) (fun t k => XS.istore X18.here hx rfl (hb hby at_163) rfl (l' := #[.val (.int x1), .val (.int x2), .val (.int x3), .val (.int x4), .val (.int x5), .val (.int x6), .val (.int 1), .val (.ref b8), .val (.ref b9), .val (.ref b10), .val (.int ((0 : Int32) + x2)), .val (.ref b13), .val (.int ((0 : Int32) + x2)), .val (.int ((0 : Int32) + x2))]) rfl k) ?_
    refine own_by (T' := T18) (g' := (mkF m 167 #[.val (.int x1), .val (.int x2), .val (.int x3), .val (.int x4), .val (.int x5), .val (.int x6), .val (.int 1), .val (.ref b8), .val (.ref b9), .val (.ref b10), .val (.int ((0 : Int32) + x2)), .val (.ref b13), .val (.int ((0 : Int32) + x2)), .val (.int ((0 : Int32) + x2))] [(.int ((0 : Int32) + x2))])) (fun t k => XS.iload X18.here hx rfl (hb hby at_165) rfl k) ?_
    refine own_by (T' := T18) (g' := (mkF m 169 #[.val (.int x1), .val (.int x2), .val (.int x3), .val (.int x4), .val (.int x5), .val (.int x6), .val (.int 1), .val (.ref b8), .val (.ref b9), .val (.ref b10), .val (.int ((0 : Int32) + x2)), .val (.ref b13), .val (.int ((0 : Int32) + x2)), .val (.int ((0 : Int32) + x2))] [(.int ((0 : Int32) + x2)), (.int ((0 : Int32) + x2))])) (fun t k => XS.iload X18.here hx rfl (hb hby at_167) rfl k) ?_
    refine own_by (T' := T18) (g' := (mkF m 172 #[.val (.int x1), .val (.int x2), .val (.int x3), .val (.int x4), .val (.int x5), .val (.int x6), .val (.int 1), .val (.ref b8), .val (.ref b9), .val (.ref b10), .val (.int ((0 : Int32) + x2)), .val (.ref b13), .val (.int ((0 : Int32) + x2)), .val (.int ((0 : Int32) + x2))] [])) (fun t k => XS.icmpNo X18.here hx rfl (hb hby at_169) rfl (teq (rfl : ((0 : Int32) + x2) = ((0 : Int32) + x2))).2 k) ?_
    refine own_by (T' := T18) (g' := (mkF m 174 #[.val (.int x1), .val (.int x2), .val (.int x3), .val (.int x4), .val (.int x5), .val (.int x6), .val (.int 1), .val (.ref b8), .val (.ref b9), .val (.ref b10), .val (.int ((0 : Int32) + x2)), .val (.ref b13), .val (.int ((0 : Int32) + x2)), .val (.int ((0 : Int32) + x2))] [(.int ((0 : Int32) + x2))])) (fun t k => XS.iload X18.here hx rfl (hb hby at_172) rfl k) ?_
    refine own_by (T' := T18) (g' := (mkF m 176 #[.val (.int x1), .val (.int x2), .val (.int x3), .val (.int x4), .val (.int x5), .val (.int x6), .val (.int 1), .val (.ref b8), .val (.ref b9), .val (.ref b10), .val (.int ((0 : Int32) + x2)), .val (.ref b13), .val (.int ((0 : Int32) + x2)), .val (.int ((0 : Int32) + x2))] [(.int ((0 : Int32) + x2)), (.int ((0 : Int32) + x2))])) (fun t k => XS.iload X18.here hx rfl (hb hby at_174) rfl k) ?_
    refine own_by (T' := T18) (g' := (mkF m 179 #[.val (.int x1), .val (.int x2), .val (.int x3), .val (.int x4), .val (.int x5), .val (.int x6), .val (.int 1), .val (.ref b8), .val (.ref b9), .val (.ref b10), .val (.int ((0 : Int32) + x2)), .val (.ref b13), .val (.int ((0 : Int32) + x2)), .val (.int ((0 : Int32) + x2))] [])) (fun t k => XS.icmpNo X18.here hx rfl (hb hby at_176) rfl (teq (rfl : ((0 : Int32) + x2) = ((0 : Int32) + x2))).2 k) ?_
    refine own_by (T' := T18) (g' := (mkF m 180 #[.val (.int x1), .val (.int x2), .val (.int x3), .val (.int x4), .val (.int x5), .val (.int x6), .val (.int 1), .val (.ref b8), .val (.ref b9), .val (.ref b10), .val (.int ((0 : Int32) + x2)), .val (.ref b13), .val (.int ((0 : Int32) + x2)), .val (.int ((0 : Int32) + x2))] [(.int 1)])) (fun t k => XS.iconst X18.here hx rfl (hb hby at_179) k) ?_
    refine own_by (T' := T18) (g' := (mkF m 184 #[.val (.int x1), .val (.int x2), .val (.int x3), .val (.int x4), .val (.int x5), .val (.int x6), .val (.int 1), .val (.ref b8), .val (.ref b9), .val (.ref b10), .val (.int ((0 : Int32) + x2)), .val (.ref b13), .val (.int ((0 : Int32) + x2)), .val (.int ((0 : Int32) + x2))] [(.int 1)])) (fun t k => XS.goto X18.here hx rfl (pc0 := 180) (pc' := 184) rfl (hb hby at_180) (by decide) (by decide) k) ?_
    exact own_retN X18 hx (t := .boolean) Bd.notSynchronized Bd.returns (by simp) (hb hby at_184) (by decide) (by decide) (by rw [e18]; exact ⟨rfl, N_⟩)
  · rw [hk]
    refine own_by (T' := s₁) (g' := (mkF m 10 #[.val (.int x1), .val (.int x2), .val (.int x3), .val (.int x4), .val (.int x5), .val (.int x6), .val (.int 2), .unset, .unset, .unset, .unset, .unset, .unset, .unset] [(.int 2)])) (fun t k => XS.iload X0.here hx rfl (hb hby at_8) rfl k) ?_
    obtain ⟨T19, h19, k19, X19, e19, E19, A19, AE19, st19⟩ := newPE X0 hx hZ (hw _ (own_m 1 rfl)) e0 (g := (mkF m 10 #[.val (.int x1), .val (.int x2), .val (.int x3), .val (.int x4), .val (.int x5), .val (.int x6), .val (.int 2), .unset, .unset, .unset, .unset, .unset, .unset, .unset] [(.int 2)])) rfl (hb hby at_10) rfl (by decide) (cap := 2) (by decide) (by decide) (by decide) (by decide) (ad := "[I") (by decide)
    obtain ⟨b19, g19⟩ : ∃ z, z = h0.size := ⟨_, rfl⟩
    rw [← g19] at A19 AE19 st19
    have g_b19 : n0 ≤ b19 := Nat.le_trans Zle (Nat.le_of_eq g19.symm)
    have Zle := Nat.le_trans Zle E19.1
    have E_b19 := AE19
    have V_b19 : Arv Z h19 b19 k19 .int (2 : Int32) [(.int 0), (.int 0)] (.int 0) := (Arv.new A19 (by decide)).pad (pad_rep [] (.int 0) 2)
    refine own_by (T' := T19) (g' := (mkF m 12 #[.val (.int x1), .val (.int x2), .val (.int x3), .val (.int x4), .val (.int x5), .val (.int x6), .val (.int 2), .unset, .unset, .unset, .unset, .unset, .unset, .unset] [(.ref b19)])) (fun t k => st19 t k) ?_
    refine own_by (T' := T19) (g' := (mkF m 14 #[.val (.int x1), .val (.int x2), .val (.int x3), .val (.int x4), .val (.int x5), .val (.int x6), .val (.int 2), .val (.ref b19), .unset, .unset, .unset, .unset, .unset, .unset] [])) (fun t k => XS.astore X19.here hx rfl (hb hby at_12) rfl rfl (l' := #[.val (.int x1), .val (.int x2), .val (.int x3), .val (.int x4), .val (.int x5), .val (.int x6), .val (.int 2), .val (.ref b19), .unset, .unset, .unset, .unset, .unset, .unset]) rfl k) ?_
    refine own_by (T' := T19) (g' := (mkF m 16 #[.val (.int x1), .val (.int x2), .val (.int x3), .val (.int x4), .val (.int x5), .val (.int x6), .val (.int 2), .val (.ref b19), .unset, .unset, .unset, .unset, .unset, .unset] [(.int 2)])) (fun t k => XS.iload X19.here hx rfl (hb hby at_14) rfl k) ?_
    obtain ⟨T20, h20, k20, X20, e20, E20, A20, AE20, st20⟩ := newPE X19 hx hZ (hw _ (own_m 1 rfl)) e19 (g := (mkF m 16 #[.val (.int x1), .val (.int x2), .val (.int x3), .val (.int x4), .val (.int x5), .val (.int x6), .val (.int 2), .val (.ref b19), .unset, .unset, .unset, .unset, .unset, .unset] [(.int 2)])) rfl (hb hby at_16) rfl (by decide) (cap := 2) (by decide) (by decide) (by decide) (by decide) (ad := "[I") (by decide)
    obtain ⟨b20, g20⟩ : ∃ z, z = h19.size := ⟨_, rfl⟩
    rw [← g20] at A20 AE20 st20
    have ne_b19_b20 : b19 ≠ b20 := Nat.ne_of_lt (Nat.lt_of_lt_of_eq E_b19.lt g20.symm)
    have g_b20 : n0 ≤ b20 := Nat.le_trans Zle (Nat.le_of_eq g20.symm)
    have Zle := Nat.le_trans Zle E20.1
    have E_b19 := E_b19.ext E20
    have V_b19 := V_b19.ext E20
    have E_b20 := AE20
    have V_b20 : Arv Z h20 b20 k20 .int (2 : Int32) [(.int 0), (.int 0)] (.int 0) := (Arv.new A20 (by decide)).pad (pad_rep [] (.int 0) 2)
    refine own_by (T' := T20) (g' := (mkF m 18 #[.val (.int x1), .val (.int x2), .val (.int x3), .val (.int x4), .val (.int x5), .val (.int x6), .val (.int 2), .val (.ref b19), .unset, .unset, .unset, .unset, .unset, .unset] [(.ref b20)])) (fun t k => st20 t k) ?_
    refine own_by (T' := T20) (g' := (mkF m 20 #[.val (.int x1), .val (.int x2), .val (.int x3), .val (.int x4), .val (.int x5), .val (.int x6), .val (.int 2), .val (.ref b19), .val (.ref b20), .unset, .unset, .unset, .unset, .unset] [])) (fun t k => XS.astore X20.here hx rfl (hb hby at_18) rfl rfl (l' := #[.val (.int x1), .val (.int x2), .val (.int x3), .val (.int x4), .val (.int x5), .val (.int x6), .val (.int 2), .val (.ref b19), .val (.ref b20), .unset, .unset, .unset, .unset, .unset]) rfl k) ?_
    refine own_by (T' := T20) (g' := (mkF m 22 #[.val (.int x1), .val (.int x2), .val (.int x3), .val (.int x4), .val (.int x5), .val (.int x6), .val (.int 2), .val (.ref b19), .val (.ref b20), .unset, .unset, .unset, .unset, .unset] [(.int 2)])) (fun t k => XS.iload X20.here hx rfl (hb hby at_20) rfl k) ?_
    obtain ⟨T21, h21, k21, X21, e21, E21, A21, AE21, st21⟩ := newPE X20 hx hZ (hw _ (own_m 1 rfl)) e20 (g := (mkF m 22 #[.val (.int x1), .val (.int x2), .val (.int x3), .val (.int x4), .val (.int x5), .val (.int x6), .val (.int 2), .val (.ref b19), .val (.ref b20), .unset, .unset, .unset, .unset, .unset] [(.int 2)])) rfl (hb hby at_22) rfl (by decide) (cap := 2) (by decide) (by decide) (by decide) (by decide) (ad := "[I") (by decide)
    obtain ⟨b21, g21⟩ : ∃ z, z = h20.size := ⟨_, rfl⟩
    rw [← g21] at A21 AE21 st21
    have ne_b19_b21 : b19 ≠ b21 := Nat.ne_of_lt (Nat.lt_of_lt_of_eq E_b19.lt g21.symm)
    have ne_b20_b21 : b20 ≠ b21 := Nat.ne_of_lt (Nat.lt_of_lt_of_eq E_b20.lt g21.symm)
    have g_b21 : n0 ≤ b21 := Nat.le_trans Zle (Nat.le_of_eq g21.symm)
    have Zle := Nat.le_trans Zle E21.1
    have E_b19 := E_b19.ext E21
    have V_b19 := V_b19.ext E21
    have E_b20 := E_b20.ext E21
    have V_b20 := V_b20.ext E21
    have E_b21 := AE21
    have V_b21 : Arv Z h21 b21 k21 .int (2 : Int32) [(.int 0), (.int 0)] (.int 0) := (Arv.new A21 (by decide)).pad (pad_rep [] (.int 0) 2)
    refine own_by (T' := T21) (g' := (mkF m 24 #[.val (.int x1), .val (.int x2), .val (.int x3), .val (.int x4), .val (.int x5), .val (.int x6), .val (.int 2), .val (.ref b19), .val (.ref b20), .unset, .unset, .unset, .unset, .unset] [(.ref b21)])) (fun t k => st21 t k) ?_
    refine own_by (T' := T21) (g' := (mkF m 26 #[.val (.int x1), .val (.int x2), .val (.int x3), .val (.int x4), .val (.int x5), .val (.int x6), .val (.int 2), .val (.ref b19), .val (.ref b20), .val (.ref b21), .unset, .unset, .unset, .unset] [])) (fun t k => XS.astore X21.here hx rfl (hb hby at_24) rfl rfl (l' := #[.val (.int x1), .val (.int x2), .val (.int x3), .val (.int x4), .val (.int x5), .val (.int x6), .val (.int 2), .val (.ref b19), .val (.ref b20), .val (.ref b21), .unset, .unset, .unset, .unset]) rfl k) ?_
    refine own_by (T' := T21) (g' := (mkF m 27 #[.val (.int x1), .val (.int x2), .val (.int x3), .val (.int x4), .val (.int x5), .val (.int x6), .val (.int 2), .val (.ref b19), .val (.ref b20), .val (.ref b21), .unset, .unset, .unset, .unset] [(.int 0)])) (fun t k => XS.iconst X21.here hx rfl (hb hby at_26) k) ?_
    refine own_by (T' := T21) (g' := (mkF m 29 #[.val (.int x1), .val (.int x2), .val (.int x3), .val (.int x4), .val (.int x5), .val (.int x6), .val (.int 2), .val (.ref b19), .val (.ref b20), .val (.ref b21), .val (.int 0), .unset, .unset, .unset] [])) (fun t k => XS.istore X21.here hx rfl (hb hby at_27) rfl (l' := #[.val (.int x1), .val (.int x2), .val (.int x3), .val (.int x4), .val (.int x5), .val (.int x6), .val (.int 2), .val (.ref b19), .val (.ref b20), .val (.ref b21), .val (.int 0), .unset, .unset, .unset]) rfl k) ?_
    refine own_by (T' := T21) (g' := (mkF m 31 #[.val (.int x1), .val (.int x2), .val (.int x3), .val (.int x4), .val (.int x5), .val (.int x6), .val (.int 2), .val (.ref b19), .val (.ref b20), .val (.ref b21), .val (.int 0), .unset, .unset, .unset] [(.int 2)])) (fun t k => XS.iload X21.here hx rfl (hb hby at_29) rfl k) ?_
    refine own_by (T' := T21) (g' := (mkF m 34 #[.val (.int x1), .val (.int x2), .val (.int x3), .val (.int x4), .val (.int x5), .val (.int x6), .val (.int 2), .val (.ref b19), .val (.ref b20), .val (.ref b21), .val (.int 0), .unset, .unset, .unset] [])) (fun t k => XS.ifNo X21.here hx rfl (hb hby at_31) rfl ((if0 _ _).trans (tlt (by decide)).2.2.2) k) ?_
    refine own_by (T' := T21) (g' := (mkF m 36 #[.val (.int x1), .val (.int x2), .val (.int x3), .val (.int x4), .val (.int x5), .val (.int x6), .val (.int 2), .val (.ref b19), .val (.ref b20), .val (.ref b21), .val (.int 0), .unset, .unset, .unset] [(.ref b20)])) (fun t k => XS.aload X21.here hx rfl (hb hby at_34) rfl rfl k) ?_
    refine own_by (T' := T21) (g' := (mkF m 37 #[.val (.int x1), .val (.int x2), .val (.int x3), .val (.int x4), .val (.int x5), .val (.int x6), .val (.int 2), .val (.ref b19), .val (.ref b20), .val (.ref b21), .val (.int 0), .unset, .unset, .unset] [(.int 0), (.ref b20)])) (fun t k => XS.iconst X21.here hx rfl (hb hby at_36) k) ?_
    refine own_by (T' := T21) (g' := (mkF m 38 #[.val (.int x1), .val (.int x2), .val (.int x3), .val (.int x4), .val (.int x5), .val (.int x6), .val (.int 2), .val (.ref b19), .val (.ref b20), .val (.ref b21), .val (.int 0), .unset, .unset, .unset] [(.int x2), (.int 0), (.ref b20)])) (fun t k => XS.iloadN X21.here hx rfl (hb hby at_37) rfl k) ?_
    obtain ⟨cl22, Ar22, q22, S22, N22, Hs22, G22⟩ := id V_b20
    have hin22 : ¬ ((0 : Int32) < 0 ∨ cl22.slots.size ≤ ((0 : Int32)).toNatClampNeg) := inb_of S22 ⟨by decide, by decide⟩
    obtain ⟨T22, h22, X22, e22, W22, st22⟩ := stI X21 hx hZ e21 Ar22 (j := (0 : Int32)) hin22 (g := (mkF m 38 #[.val (.int x1), .val (.int x2), .val (.int x3), .val (.int x4), .val (.int x5), .val (.int x6), .val (.int 2), .val (.ref b19), .val (.ref b20), .val (.ref b21), .val (.int 0), .unset, .unset, .unset] [(.int x2), (.int 0), (.ref b20)])) rfl rfl (hb hby at_38)
    have V_b20_ : Arv Z h22 b20 k20 .int (2 : Int32) [(.int x2), (.int 0)] (.int 0) := Arv.set Ar22 q22 S22 N22 Hs22 G22 rfl W22 0 rfl (Nat.le_of_ble_eq_true rfl)
    have Zle := Nat.le_trans Zle (Keep.of_wr W22).1
    have E_b19 := E_b19.wr W22
    have V_b19 := V_b19.other W22 ne_b19_b20
    have E_b20 := E_b20.wr W22
    have E_b21 := E_b21.wr W22
    have V_b21 := V_b21.other W22 ne_b20_b21.symm
    have V_b20 := V_b20_
    have N_ := Fr.snoc X22 N_ g_b20
    refine own_by (T' := T22) (g' := (mkF m 39 #[.val (.int x1), .val (.int x2), .val (.int x3), .val (.int x4), .val (.int x5), .val (.int x6), .val (.int 2), .val (.ref b19), .val (.ref b20), .val (.ref b21), .val (.int 0), .unset, .unset, .unset] [])) (fun t k => st22 t k) ?_
    refine own_by (T' := T22) (g' := (mkF m 41 #[.val (.int x1), .val (.int x2), .val (.int x3), .val (.int x4), .val (.int x5), .val (.int x6), .val (.int 2), .val (.ref b19), .val (.ref b20), .val (.ref b21), .val (.int 0), .unset, .unset, .unset] [(.ref b19)])) (fun t k => XS.aload X22.here hx rfl (hb hby at_39) rfl rfl k) ?_
    refine own_by (T' := T22) (g' := (mkF m 42 #[.val (.int x1), .val (.int x2), .val (.int x3), .val (.int x4), .val (.int x5), .val (.int x6), .val (.int 2), .val (.ref b19), .val (.ref b20), .val (.ref b21), .val (.int 0), .unset, .unset, .unset] [(.int 0), (.ref b19)])) (fun t k => XS.iconst X22.here hx rfl (hb hby at_41) k) ?_
    refine own_by (T' := T22) (g' := (mkF m 43 #[.val (.int x1), .val (.int x2), .val (.int x3), .val (.int x4), .val (.int x5), .val (.int x6), .val (.int 2), .val (.ref b19), .val (.ref b20), .val (.ref b21), .val (.int 0), .unset, .unset, .unset] [(.int 0), (.int 0), (.ref b19)])) (fun t k => XS.iconst X22.here hx rfl (hb hby at_42) k) ?_
    obtain ⟨cl23, Ar23, q23, S23, N23, Hs23, G23⟩ := id V_b19
    have hin23 : ¬ ((0 : Int32) < 0 ∨ cl23.slots.size ≤ ((0 : Int32)).toNatClampNeg) := inb_of S23 ⟨by decide, by decide⟩
    obtain ⟨T23, h23, X23, e23, W23, st23⟩ := stI X22 hx hZ e22 Ar23 (j := (0 : Int32)) hin23 (g := (mkF m 43 #[.val (.int x1), .val (.int x2), .val (.int x3), .val (.int x4), .val (.int x5), .val (.int x6), .val (.int 2), .val (.ref b19), .val (.ref b20), .val (.ref b21), .val (.int 0), .unset, .unset, .unset] [(.int 0), (.int 0), (.ref b19)])) rfl rfl (hb hby at_43)
    have V_b19_ : Arv Z h23 b19 k19 .int (2 : Int32) [(.int 0), (.int 0)] (.int 0) := Arv.set Ar23 q23 S23 N23 Hs23 G23 rfl W23 0 rfl (Nat.le_of_ble_eq_true rfl)
    have Zle := Nat.le_trans Zle (Keep.of_wr W23).1
    have E_b19 := E_b19.wr W23
    have E_b20 := E_b20.wr W23
    have E_b21 := E_b21.wr W23
    have V_b21 := V_b21.other W23 ne_b19_b21.symm
    have V_b20 := V_b20.other W23 ne_b19_b20.symm
    have V_b19 := V_b19_
    have N_ := Fr.snoc X23 N_ g_b19
    refine own_by (T' := T23) (g' := (mkF m 44 #[.val (.int x1), .val (.int x2), .val (.int x3), .val (.int x4), .val (.int x5), .val (.int x6), .val (.int 2), .val (.ref b19), .val (.ref b20), .val (.ref b21), .val (.int 0), .unset, .unset, .unset] [])) (fun t k => st23 t k) ?_
    refine own_by (T' := T23) (g' := (mkF m 46 #[.val (.int x1), .val (.int x2), .val (.int x3), .val (.int x4), .val (.int x5), .val (.int x6), .val (.int 2), .val (.ref b19), .val (.ref b20), .val (.ref b21), .val (.int 0), .unset, .unset, .unset] [(.int 0)])) (fun t k => XS.iload X23.here hx rfl (hb hby at_44) rfl k) ?_
    refine own_by (T' := T23) (g' := (mkF m 47 #[.val (.int x1), .val (.int x2), .val (.int x3), .val (.int x4), .val (.int x5), .val (.int x6), .val (.int 2), .val (.ref b19), .val (.ref b20), .val (.ref b21), .val (.int 0), .unset, .unset, .unset] [(.int x2), (.int 0)])) (fun t k => XS.iloadN X23.here hx rfl (hb hby at_46) rfl k) ?_
    refine own_by (T' := T23) (g' := (mkF m 48 #[.val (.int x1), .val (.int x2), .val (.int x3), .val (.int x4), .val (.int x5), .val (.int x6), .val (.int 2), .val (.ref b19), .val (.ref b20), .val (.ref b21), .val (.int 0), .unset, .unset, .unset] [(.int ((0 : Int32) + x2))])) (fun t k => XS.iadd X23.here hx rfl (hb hby at_47) rfl k) ?_
    refine own_by (T' := T23) (g' := (mkF m 50 #[.val (.int x1), .val (.int x2), .val (.int x3), .val (.int x4), .val (.int x5), .val (.int x6), .val (.int 2), .val (.ref b19), .val (.ref b20), .val (.ref b21), .val (.int ((0 : Int32) + x2)), .unset, .unset, .unset] [])) (fun t k => XS.istore X23.here hx rfl (hb hby at_48) rfl (l' := #[.val (.int x1), .val (.int x2), .val (.int x3), .val (.int x4), .val (.int x5), .val (.int x6), .val (.int 2), .val (.ref b19), .val (.ref b20), .val (.ref b21), .val (.int ((0 : Int32) + x2)), .unset, .unset, .unset]) rfl k) ?_
    refine own_by (T' := T23) (g' := (mkF m 52 #[.val (.int x1), .val (.int x2), .val (.int x3), .val (.int x4), .val (.int x5), .val (.int x6), .val (.int 2), .val (.ref b19), .val (.ref b20), .val (.ref b21), .val (.int ((0 : Int32) + x2)), .unset, .unset, .unset] [(.int 2)])) (fun t k => XS.iload X23.here hx rfl (hb hby at_50) rfl k) ?_
    refine own_by (T' := T23) (g' := (mkF m 53 #[.val (.int x1), .val (.int x2), .val (.int x3), .val (.int x4), .val (.int x5), .val (.int x6), .val (.int 2), .val (.ref b19), .val (.ref b20), .val (.ref b21), .val (.int ((0 : Int32) + x2)), .unset, .unset, .unset] [(.int 1), (.int 2)])) (fun t k => XS.iconst X23.here hx rfl (hb hby at_52) k) ?_
    refine own_by (T' := T23) (g' := (mkF m 56 #[.val (.int x1), .val (.int x2), .val (.int x3), .val (.int x4), .val (.int x5), .val (.int x6), .val (.int 2), .val (.ref b19), .val (.ref b20), .val (.ref b21), .val (.int ((0 : Int32) + x2)), .unset, .unset, .unset] [])) (fun t k => XS.icmpNo X23.here hx rfl (hb hby at_53) rfl (tlt (by decide)).2.2.2 k) ?_
    refine own_by (T' := T23) (g' := (mkF m 58 #[.val (.int x1), .val (.int x2), .val (.int x3), .val (.int x4), .val (.int x5), .val (.int x6), .val (.int 2), .val (.ref b19), .val (.ref b20), .val (.ref b21), .val (.int ((0 : Int32) + x2)), .unset, .unset, .unset] [(.ref b20)])) (fun t k => XS.aload X23.here hx rfl (hb hby at_56) rfl rfl k) ?_
    refine own_by (T' := T23) (g' := (mkF m 59 #[.val (.int x1), .val (.int x2), .val (.int x3), .val (.int x4), .val (.int x5), .val (.int x6), .val (.int 2), .val (.ref b19), .val (.ref b20), .val (.ref b21), .val (.int ((0 : Int32) + x2)), .unset, .unset, .unset] [(.int 1), (.ref b20)])) (fun t k => XS.iconst X23.here hx rfl (hb hby at_58) k) ?_
    refine own_by (T' := T23) (g' := (mkF m 60 #[.val (.int x1), .val (.int x2), .val (.int x3), .val (.int x4), .val (.int x5), .val (.int x6), .val (.int 2), .val (.ref b19), .val (.ref b20), .val (.ref b21), .val (.int ((0 : Int32) + x2)), .unset, .unset, .unset] [(.int x3), (.int 1), (.ref b20)])) (fun t k => XS.iloadN X23.here hx rfl (hb hby at_59) rfl k) ?_
    obtain ⟨cl24, Ar24, q24, S24, N24, Hs24, G24⟩ := id V_b20
    have hin24 : ¬ ((1 : Int32) < 0 ∨ cl24.slots.size ≤ ((1 : Int32)).toNatClampNeg) := inb_of S24 ⟨by decide, by decide⟩
    obtain ⟨T24, h24, X24, e24, W24, st24⟩ := stI X23 hx hZ e23 Ar24 (j := (1 : Int32)) hin24 (g := (mkF m 60 #[.val (.int x1), .val (.int x2), .val (.int x3), .val (.int x4), .val (.int x5), .val (.int x6), .val (.int 2), .val (.ref b19), .val (.ref b20), .val (.ref b21), .val (.int ((0 : Int32) + x2)), .unset, .unset, .unset] [(.int x3), (.int 1), (.ref b20)])) rfl rfl (hb hby at_60)
    have V_b20_ : Arv Z h24 b20 k20 .int (2 : Int32) [(.int x2), (.int x3)] (.int 0) := Arv.set Ar24 q24 S24 N24 Hs24 G24 rfl W24 1 rfl (Nat.le_of_ble_eq_true rfl)
    have Zle := Nat.le_trans Zle (Keep.of_wr W24).1
    have E_b19 := E_b19.wr W24
    have E_b20 := E_b20.wr W24
    have E_b21 := E_b21.wr W24
    have V_b21 := V_b21.other W24 ne_b20_b21.symm
    have V_b19 := V_b19.other W24 ne_b19_b20
    have V_b20 := V_b20_
    have N_ := Fr.snoc X24 N_ g_b20
    refine own_by (T' := T24) (g' := (mkF m 61 #[.val (.int x1), .val (.int x2), .val (.int x3), .val (.int x4), .val (.int x5), .val (.int x6), .val (.int 2), .val (.ref b19), .val (.ref b20), .val (.ref b21), .val (.int ((0 : Int32) + x2)), .unset, .unset, .unset] [])) (fun t k => st24 t k) ?_
    refine own_by (T' := T24) (g' := (mkF m 63 #[.val (.int x1), .val (.int x2), .val (.int x3), .val (.int x4), .val (.int x5), .val (.int x6), .val (.int 2), .val (.ref b19), .val (.ref b20), .val (.ref b21), .val (.int ((0 : Int32) + x2)), .unset, .unset, .unset] [(.ref b19)])) (fun t k => XS.aload X24.here hx rfl (hb hby at_61) rfl rfl k) ?_
    refine own_by (T' := T24) (g' := (mkF m 64 #[.val (.int x1), .val (.int x2), .val (.int x3), .val (.int x4), .val (.int x5), .val (.int x6), .val (.int 2), .val (.ref b19), .val (.ref b20), .val (.ref b21), .val (.int ((0 : Int32) + x2)), .unset, .unset, .unset] [(.int 1), (.ref b19)])) (fun t k => XS.iconst X24.here hx rfl (hb hby at_63) k) ?_
    refine own_by (T' := T24) (g' := (mkF m 65 #[.val (.int x1), .val (.int x2), .val (.int x3), .val (.int x4), .val (.int x5), .val (.int x6), .val (.int 2), .val (.ref b19), .val (.ref b20), .val (.ref b21), .val (.int ((0 : Int32) + x2)), .unset, .unset, .unset] [(.int 1), (.int 1), (.ref b19)])) (fun t k => XS.iconst X24.here hx rfl (hb hby at_64) k) ?_
    obtain ⟨cl25, Ar25, q25, S25, N25, Hs25, G25⟩ := id V_b19
    have hin25 : ¬ ((1 : Int32) < 0 ∨ cl25.slots.size ≤ ((1 : Int32)).toNatClampNeg) := inb_of S25 ⟨by decide, by decide⟩
    obtain ⟨T25, h25, X25, e25, W25, st25⟩ := stI X24 hx hZ e24 Ar25 (j := (1 : Int32)) hin25 (g := (mkF m 65 #[.val (.int x1), .val (.int x2), .val (.int x3), .val (.int x4), .val (.int x5), .val (.int x6), .val (.int 2), .val (.ref b19), .val (.ref b20), .val (.ref b21), .val (.int ((0 : Int32) + x2)), .unset, .unset, .unset] [(.int 1), (.int 1), (.ref b19)])) rfl rfl (hb hby at_65)
    have V_b19_ : Arv Z h25 b19 k19 .int (2 : Int32) [(.int 0), (.int 1)] (.int 0) := Arv.set Ar25 q25 S25 N25 Hs25 G25 rfl W25 1 rfl (Nat.le_of_ble_eq_true rfl)
    have Zle := Nat.le_trans Zle (Keep.of_wr W25).1
    have E_b19 := E_b19.wr W25
    have E_b20 := E_b20.wr W25
    have E_b21 := E_b21.wr W25
    have V_b21 := V_b21.other W25 ne_b19_b21.symm
    have V_b20 := V_b20.other W25 ne_b19_b20.symm
    have V_b19 := V_b19_
    have N_ := Fr.snoc X25 N_ g_b19
    refine own_by (T' := T25) (g' := (mkF m 66 #[.val (.int x1), .val (.int x2), .val (.int x3), .val (.int x4), .val (.int x5), .val (.int x6), .val (.int 2), .val (.ref b19), .val (.ref b20), .val (.ref b21), .val (.int ((0 : Int32) + x2)), .unset, .unset, .unset] [])) (fun t k => st25 t k) ?_
    refine own_by (T' := T25) (g' := (mkF m 68 #[.val (.int x1), .val (.int x2), .val (.int x3), .val (.int x4), .val (.int x5), .val (.int x6), .val (.int 2), .val (.ref b19), .val (.ref b20), .val (.ref b21), .val (.int ((0 : Int32) + x2)), .unset, .unset, .unset] [(.int ((0 : Int32) + x2))])) (fun t k => XS.iload X25.here hx rfl (hb hby at_66) rfl k) ?_
    refine own_by (T' := T25) (g' := (mkF m 69 #[.val (.int x1), .val (.int x2), .val (.int x3), .val (.int x4), .val (.int x5), .val (.int x6), .val (.int 2), .val (.ref b19), .val (.ref b20), .val (.ref b21), .val (.int ((0 : Int32) + x2)), .unset, .unset, .unset] [(.int x3), (.int ((0 : Int32) + x2))])) (fun t k => XS.iloadN X25.here hx rfl (hb hby at_68) rfl k) ?_
    refine own_by (T' := T25) (g' := (mkF m 70 #[.val (.int x1), .val (.int x2), .val (.int x3), .val (.int x4), .val (.int x5), .val (.int x6), .val (.int 2), .val (.ref b19), .val (.ref b20), .val (.ref b21), .val (.int ((0 : Int32) + x2)), .unset, .unset, .unset] [(.int (((0 : Int32) + x2) + x3))])) (fun t k => XS.iadd X25.here hx rfl (hb hby at_69) rfl k) ?_
    refine own_by (T' := T25) (g' := (mkF m 72 #[.val (.int x1), .val (.int x2), .val (.int x3), .val (.int x4), .val (.int x5), .val (.int x6), .val (.int 2), .val (.ref b19), .val (.ref b20), .val (.ref b21), .val (.int (((0 : Int32) + x2) + x3)), .unset, .unset, .unset] [])) (fun t k => XS.istore X25.here hx rfl (hb hby at_70) rfl (l' := #[.val (.int x1), .val (.int x2), .val (.int x3), .val (.int x4), .val (.int x5), .val (.int x6), .val (.int 2), .val (.ref b19), .val (.ref b20), .val (.ref b21), .val (.int (((0 : Int32) + x2) + x3)), .unset, .unset, .unset]) rfl k) ?_
    refine own_by (T' := T25) (g' := (mkF m 74 #[.val (.int x1), .val (.int x2), .val (.int x3), .val (.int x4), .val (.int x5), .val (.int x6), .val (.int 2), .val (.ref b19), .val (.ref b20), .val (.ref b21), .val (.int (((0 : Int32) + x2) + x3)), .unset, .unset, .unset] [(.int 2)])) (fun t k => XS.iload X25.here hx rfl (hb hby at_72) rfl k) ?_
    refine own_by (T' := T25) (g' := (mkF m 75 #[.val (.int x1), .val (.int x2), .val (.int x3), .val (.int x4), .val (.int x5), .val (.int x6), .val (.int 2), .val (.ref b19), .val (.ref b20), .val (.ref b21), .val (.int (((0 : Int32) + x2) + x3)), .unset, .unset, .unset] [(.int 2), (.int 2)])) (fun t k => XS.iconst X25.here hx rfl (hb hby at_74) k) ?_
    refine own_by (T' := T25) (g' := (mkF m 94 #[.val (.int x1), .val (.int x2), .val (.int x3), .val (.int x4), .val (.int x5), .val (.int x6), .val (.int 2), .val (.ref b19), .val (.ref b20), .val (.ref b21), .val (.int (((0 : Int32) + x2) + x3)), .unset, .unset, .unset] [])) (fun t k => XS.icmpYes X25.here hx rfl (pc0 := 75) (pc' := 94) rfl (hb hby at_75) rfl (flt (by decide)).2.2.2 (by decide) (by decide) k) ?_
    refine own_by (T' := T25) (g' := (mkF m 96 #[.val (.int x1), .val (.int x2), .val (.int x3), .val (.int x4), .val (.int x5), .val (.int x6), .val (.int 2), .val (.ref b19), .val (.ref b20), .val (.ref b21), .val (.int (((0 : Int32) + x2) + x3)), .unset, .unset, .unset] [(.int 2)])) (fun t k => XS.iload X25.here hx rfl (hb hby at_94) rfl k) ?_
    refine own_by (T' := T25) (g' := (mkF m 97 #[.val (.int x1), .val (.int x2), .val (.int x3), .val (.int x4), .val (.int x5), .val (.int x6), .val (.int 2), .val (.ref b19), .val (.ref b20), .val (.ref b21), .val (.int (((0 : Int32) + x2) + x3)), .unset, .unset, .unset] [(.int 3), (.int 2)])) (fun t k => XS.iconst X25.here hx rfl (hb hby at_96) k) ?_
    refine own_by (T' := T25) (g' := (mkF m 118 #[.val (.int x1), .val (.int x2), .val (.int x3), .val (.int x4), .val (.int x5), .val (.int x6), .val (.int 2), .val (.ref b19), .val (.ref b20), .val (.ref b21), .val (.int (((0 : Int32) + x2) + x3)), .unset, .unset, .unset] [])) (fun t k => XS.icmpYes X25.here hx rfl (pc0 := 97) (pc' := 118) rfl (hb hby at_97) rfl (flt (by decide)).2.2.2 (by decide) (by decide) k) ?_
    obtain ⟨T26, h26, X26, e26, E26, A26, D26, -, st26⟩ := newO X25 hx hZ hown (hw _ (own_m 2 rfl)) (hw _ (own_m 3 rfl)) (hw _ (own_m 4 rfl)) e25 (g := (mkF m 118 #[.val (.int x1), .val (.int x2), .val (.int x3), .val (.int x4), .val (.int x5), .val (.int x6), .val (.int 2), .val (.ref b19), .val (.ref b20), .val (.ref b21), .val (.int (((0 : Int32) + x2) + x3)), .unset, .unset, .unset] [])) rfl (hb hby at_118) (by decide) (by decide)
    obtain ⟨b26, g26⟩ : ∃ z, z = h25.size := ⟨_, rfl⟩
    rw [← g26] at A26 D26 st26
    have ne_b19_b26 : b19 ≠ b26 := Nat.ne_of_lt (Nat.lt_of_lt_of_eq E_b19.lt g26.symm)
    have ne_b20_b26 : b20 ≠ b26 := Nat.ne_of_lt (Nat.lt_of_lt_of_eq E_b20.lt g26.symm)
    have ne_b21_b26 : b21 ≠ b26 := Nat.ne_of_lt (Nat.lt_of_lt_of_eq E_b21.lt g26.symm)
    have g_b26 : n0 ≤ b26 := Nat.le_trans Zle (Nat.le_of_eq g26.symm)
    have Zle := Nat.le_trans Zle E26.1
    have E_b19 := E_b19.ext E26
    have E_b20 := E_b20.ext E26
    have E_b21 := E_b21.ext E26
    have V_b21 := V_b21.ext E26
    have V_b20 := V_b20.ext E26
    have V_b19 := V_b19.ext E26
    have E_b26 := A26
    have F_step_b26 : Fld Z h26 b26 "com/example/firebreak/firebreak/core/MapStep" "step" "I" (.int 0) := D26 (Or.inr (hw _ (own_m 12 rfl))) (ty := .int) (by decide)
    have F_clusterIds_b26 : Fld Z h26 b26 "com/example/firebreak/firebreak/core/MapStep" "clusterIds" "[I" .null := D26 (Or.inr (hw _ (own_m 23 rfl))) (ty := (.array .int)) (by decide)
    have F_costs_b26 : Fld Z h26 b26 "com/example/firebreak/firebreak/core/MapStep" "costs" "[I" .null := D26 (Or.inr (hw _ (own_m 25 rfl))) (ty := (.array .int)) (by decide)
    have F_targeting_b26 : Fld Z h26 b26 "com/example/firebreak/firebreak/core/MapStep" "targeting" "[I" .null := D26 (Or.inr (hw _ (own_m 27 rfl))) (ty := (.array .int)) (by decide)
    have F_idle_b26 : Fld Z h26 b26 "com/example/firebreak/firebreak/core/MapStep" "idle" "I" (.int 0) := D26 (Or.inr (hw _ (own_m 29 rfl))) (ty := .int) (by decide)
    refine own_by (T' := T26) (g' := (mkF m 121 #[.val (.int x1), .val (.int x2), .val (.int x3), .val (.int x4), .val (.int x5), .val (.int x6), .val (.int 2), .val (.ref b19), .val (.ref b20), .val (.ref b21), .val (.int (((0 : Int32) + x2) + x3)), .unset, .unset, .unset] [(.ref b26)])) (fun t k => st26 t k) ?_
    refine own_by (T' := T26) (g' := (mkF m 122 #[.val (.int x1), .val (.int x2), .val (.int x3), .val (.int x4), .val (.int x5), .val (.int x6), .val (.int 2), .val (.ref b19), .val (.ref b20), .val (.ref b21), .val (.int (((0 : Int32) + x2) + x3)), .unset, .unset, .unset] [(.ref b26), (.ref b26)])) (fun t k => XS.dup X26.here hx rfl (hb hby at_121) rfl rfl k) ?_
    refine own_by (T' := T26) (g' := (mkF m 123 #[.val (.int x1), .val (.int x2), .val (.int x3), .val (.int x4), .val (.int x5), .val (.int x6), .val (.int 2), .val (.ref b19), .val (.ref b20), .val (.ref b21), .val (.int (((0 : Int32) + x2) + x3)), .unset, .unset, .unset] [(.int x1), (.ref b26), (.ref b26)])) (fun t k => XS.iloadN X26.here hx rfl (hb hby at_122) rfl k) ?_
    refine own_by (T' := T26) (g' := (mkF m 125 #[.val (.int x1), .val (.int x2), .val (.int x3), .val (.int x4), .val (.int x5), .val (.int x6), .val (.int 2), .val (.ref b19), .val (.ref b20), .val (.ref b21), .val (.int (((0 : Int32) + x2) + x3)), .unset, .unset, .unset] [(.ref b19), (.int x1), (.ref b26), (.ref b26)])) (fun t k => XS.aload X26.here hx rfl (hb hby at_123) rfl rfl k) ?_
    refine own_by (T' := T26) (g' := (mkF m 127 #[.val (.int x1), .val (.int x2), .val (.int x3), .val (.int x4), .val (.int x5), .val (.int x6), .val (.int 2), .val (.ref b19), .val (.ref b20), .val (.ref b21), .val (.int (((0 : Int32) + x2) + x3)), .unset, .unset, .unset] [(.ref b20), (.ref b19), (.int x1), (.ref b26), (.ref b26)])) (fun t k => XS.aload X26.here hx rfl (hb hby at_125) rfl rfl k) ?_
    refine own_by (T' := T26) (g' := (mkF m 129 #[.val (.int x1), .val (.int x2), .val (.int x3), .val (.int x4), .val (.int x5), .val (.int x6), .val (.int 2), .val (.ref b19), .val (.ref b20), .val (.ref b21), .val (.int (((0 : Int32) + x2) + x3)), .unset, .unset, .unset] [(.ref b21), (.ref b20), (.ref b19), (.int x1), (.ref b26), (.ref b26)])) (fun t k => XS.aload X26.here hx rfl (hb hby at_127) rfl rfl k) ?_
    refine own_by (T' := T26) (g' := (mkF m 131 #[.val (.int x1), .val (.int x2), .val (.int x3), .val (.int x4), .val (.int x5), .val (.int x6), .val (.int 2), .val (.ref b19), .val (.ref b20), .val (.ref b21), .val (.int (((0 : Int32) + x2) + x3)), .unset, .unset, .unset] [(.int x6), (.ref b21), (.ref b20), (.ref b19), (.int x1), (.ref b26), (.ref b26)])) (fun t k => XS.iload X26.here hx rfl (hb hby at_129) rfl k) ?_
    have lt_b19_27 := E_b19.lt
    have lt_b20_27 := E_b20.lt
    have lt_b21_27 := E_b21.lt
    have lt_b26_27 := E_b26.lt
    have Zpre27 := Zle
    obtain ⟨_, _, ⟨T27, L27, k27, n27⟩, -, X27, ⟨Lc27, hQ27, l27, y27, z27⟩, st27⟩ := X26.specialBack hx (y := (⟨"com/example/firebreak/firebreak/core/MapStep", "<init>", "(I[I[I[II)V"⟩ : MethodName)) rfl hown (mvT hZ (hw _ (own_m 5 rfl))) (mvT hZ (hw _ (own_m 6 rfl))) (mvT hZ (hw _ (own_m 7 rfl))) (by decide) (backOf (W := 1) (rm1n2 l Z a0 hw [] b26 x1 b19 b20 b21 x6 k19 k20 k21 (0 : Int32) (1 : Int32) x2 x3 (0 : Int32) (0 : Int32) h26 n0 Zle E_b26 g_b26 F_step_b26 F_clusterIds_b26 F_costs_b26 F_targeting_b26 F_idle_b26 V_b19 V_b20 V_b21 E_b19 E_b20 E_b21 (ne_b19_b26) (ne_b20_b26) (ne_b21_b26)) hZ (hw _ (own_m 7 rfl)) (hw _ (own_m 4 rfl)) (by decide) (by decide)) (g := (mkF m 131 #[.val (.int x1), .val (.int x2), .val (.int x3), .val (.int x4), .val (.int x5), .val (.int x6), .val (.int 2), .val (.ref b19), .val (.ref b20), .val (.ref b21), .val (.int (((0 : Int32) + x2) + x3)), .unset, .unset, .unset] [(.int x6), (.ref b21), (.ref b20), (.ref b19), (.int x1), (.ref b26), (.ref b26)])) rfl (by rw [hml]; rfl) (Steps.refl _) (a := b26) (argsL := [(.int x1), (.ref b19), (.ref b20), (.ref b21), (.int x6)]) (rest := [(.ref b26)]) (lenOf pd_0 rfl) rfl (own_le rfl) (hb hby at_131) (fun _ _ => ⟨rfl, e26, (by decide : 4 + 3 ≤ _), (by decide : 11 + 6 ≤ _)⟩)
    dsimp only [Pt.U, Pt.locs, Pt.cells, Pt.slots] at X27 l27 y27 z27 st27 hQ27
    subst l27 y27 z27
    obtain ⟨t2_27, rfl, Nq27, c27_0, c27_1, c27_2, c27_3, c27_4⟩ := hQ27
    have N_ := Fr.app N_ Nq27
    have Zle := Nat.le_trans Zle c27_0.1
    have E_b19 := E_b19.keep c27_0
    have E_b20 := E_b20.keep c27_0
    have E_b21 := E_b21.keep c27_0
    have V_b21 := V_b21.keep c27_0 (ninS ne_b21_b26 nin0)
    have V_b20 := V_b20.keep c27_0 (ninS ne_b20_b26 nin0)
    have V_b19 := V_b19.keep c27_0 (ninS ne_b19_b26 nin0)
    have E_b26 := E_b26.keep c27_0
    have ne_b19_t2_27 : b19 ≠ t2_27 := Nat.ne_of_lt (Nat.lt_of_lt_of_le lt_b19_27 c27_2)
    have ne_b20_t2_27 : b20 ≠ t2_27 := Nat.ne_of_lt (Nat.lt_of_lt_of_le lt_b20_27 c27_2)
    have ne_b21_t2_27 : b21 ≠ t2_27 := Nat.ne_of_lt (Nat.lt_of_lt_of_le lt_b21_27 c27_2)
    have ne_b26_t2_27 : b26 ≠ t2_27 := Nat.ne_of_lt (Nat.lt_of_lt_of_le lt_b26_27 c27_2)
    have g_t2_27 : n0 ≤ t2_27 := Nat.le_trans Zpre27 c27_2
    refine own_by (T' := T27) (g' := (mkF m 134 #[.val (.int x1), .val (.int x2), .val (.int x3), .val (.int x4), .val (.int x5), .val (.int x6), .val (.int 2), .val (.ref b19), .val (.ref b20), .val (.ref b21), .val (.int (((0 : Int32) + x2) + x3)), .unset, .unset, .unset] [(.ref b26)])) (fun t k => st27.trans k) ?_
    refine own_by (T' := T27) (g' := (mkF m 136 #[.val (.int x1), .val (.int x2), .val (.int x3), .val (.int x4), .val (.int x5), .val (.int x6), .val (.int 2), .val (.ref b19), .val (.ref b20), .val (.ref b21), .val (.int (((0 : Int32) + x2) + x3)), .val (.ref b26), .unset, .unset] [])) (fun t k => XS.astore X27.here hx rfl (hb hby at_134) rfl rfl (l' := #[.val (.int x1), .val (.int x2), .val (.int x3), .val (.int x4), .val (.int x5), .val (.int x6), .val (.int 2), .val (.ref b19), .val (.ref b20), .val (.ref b21), .val (.int (((0 : Int32) + x2) + x3)), .val (.ref b26), .unset, .unset]) rfl k) ?_
    refine own_by (T' := T27) (g' := (mkF m 138 #[.val (.int x1), .val (.int x2), .val (.int x3), .val (.int x4), .val (.int x5), .val (.int x6), .val (.int 2), .val (.ref b19), .val (.ref b20), .val (.ref b21), .val (.int (((0 : Int32) + x2) + x3)), .val (.ref b26), .unset, .unset] [(.ref b26)])) (fun t k => XS.aload X27.here hx rfl (hb hby at_136) rfl rfl k) ?_
    obtain ⟨cq28, kq28, q28a, q28b, q28c⟩ := isOf hZ rfl c27_1
    obtain ⟨_, _, ⟨T28, L28, k28, n28⟩, -, X28, ⟨Lc28, hQ28, l28, y28, z28⟩, st28⟩ := X27.virtualBack hx (y := (⟨"com/example/firebreak/firebreak/core/MapStep", "getBurning", "()I"⟩ : MethodName)) (z := (⟨"com/example/firebreak/firebreak/core/MapStep", "getBurning", "()I"⟩ : MethodName)) hown (mvT hZ (hw _ (own_m 30 rfl))) (mvT hZ (hw _ (own_m 31 rfl))) (notFace_of_selects (args := #[]) (mvT hZ (hw _ (own_m 33 rfl)))) (mvT hZ (hw _ (own_m 33 rfl))) (mvT hZ (hw _ (own_m 32 rfl))) (by decide) (backOf (W := 0) (rm3n2 l Z a0 hw [] b26 t2_27 k20 x2 x3 T27.heap n0 Zle c27_3 c27_4) hZ (hw _ (own_m 34 rfl)) (hw _ (own_m 4 rfl)) (by decide) (by decide)) q28a q28c (g := (mkF m 138 #[.val (.int x1), .val (.int x2), .val (.int x3), .val (.int x4), .val (.int x5), .val (.int x6), .val (.int 2), .val (.ref b19), .val (.ref b20), .val (.ref b21), .val (.int (((0 : Int32) + x2) + x3)), .val (.ref b26), .unset, .unset] [(.ref b26)])) rfl (by rw [hml]; rfl) (Steps.refl _) (argsL := []) (rest := []) (lenOf pd_3 rfl) rfl (own_le rfl) (hb hby at_138) (fun _ _ => ⟨rfl, rfl, (by decide : 7 + 0 ≤ _), (by decide : 17 + 0 ≤ _)⟩)
    dsimp only [Pt.U, Pt.locs, Pt.cells, Pt.slots] at X28 l28 y28 z28 st28 hQ28
    subst l28 y28 z28
    obtain ⟨rfl, Nq28, e28⟩ := hQ28
    have N_ := Fr.app N_ Nq28
    refine own_by (T' := T28) (g' := (mkF m 141 #[.val (.int x1), .val (.int x2), .val (.int x3), .val (.int x4), .val (.int x5), .val (.int x6), .val (.int 2), .val (.ref b19), .val (.ref b20), .val (.ref b21), .val (.int (((0 : Int32) + x2) + x3)), .val (.ref b26), .unset, .unset] [(.int (((0 : Int32) + x2) + x3))])) (fun t k => st28.trans k) ?_
    refine own_by (T' := T28) (g' := (mkF m 143 #[.val (.int x1), .val (.int x2), .val (.int x3), .val (.int x4), .val (.int x5), .val (.int x6), .val (.int 2), .val (.ref b19), .val (.ref b20), .val (.ref b21), .val (.int (((0 : Int32) + x2) + x3)), .val (.ref b26), .val (.int (((0 : Int32) + x2) + x3)), .unset] [])) (fun t k => XS.istore X28.here hx rfl (hb hby at_141) rfl (l' := #[.val (.int x1), .val (.int x2), .val (.int x3), .val (.int x4), .val (.int x5), .val (.int x6), .val (.int 2), .val (.ref b19), .val (.ref b20), .val (.ref b21), .val (.int (((0 : Int32) + x2) + x3)), .val (.ref b26), .val (.int (((0 : Int32) + x2) + x3)), .unset]) rfl k) ?_
    refine own_by (T' := T28) (g' := (mkF m 145 #[.val (.int x1), .val (.int x2), .val (.int x3), .val (.int x4), .val (.int x5), .val (.int x6), .val (.int 2), .val (.ref b19), .val (.ref b20), .val (.ref b21), .val (.int (((0 : Int32) + x2) + x3)), .val (.ref b26), .val (.int (((0 : Int32) + x2) + x3)), .unset] [(.int 2)])) (fun t k => XS.iload X28.here hx rfl (hb hby at_143) rfl k) ?_
    refine own_by (T' := T28) (g' := (mkF m 148 #[.val (.int x1), .val (.int x2), .val (.int x3), .val (.int x4), .val (.int x5), .val (.int x6), .val (.int 2), .val (.ref b19), .val (.ref b20), .val (.ref b21), .val (.int (((0 : Int32) + x2) + x3)), .val (.ref b26), .val (.int (((0 : Int32) + x2) + x3)), .unset] [])) (fun t k => XS.ifNo X28.here hx rfl (hb hby at_145) rfl ((if0 _ _).trans (tlt (by decide)).2.2.2) k) ?_
    refine own_by (T' := T28) (g' := (mkF m 150 #[.val (.int x1), .val (.int x2), .val (.int x3), .val (.int x4), .val (.int x5), .val (.int x6), .val (.int 2), .val (.ref b19), .val (.ref b20), .val (.ref b21), .val (.int (((0 : Int32) + x2) + x3)), .val (.ref b26), .val (.int (((0 : Int32) + x2) + x3)), .unset] [(.ref b20)])) (fun t k => XS.aload X28.here hx rfl (hb hby at_148) rfl rfl k) ?_
    refine own_by (T' := T28) (g' := (mkF m 151 #[.val (.int x1), .val (.int x2), .val (.int x3), .val (.int x4), .val (.int x5), .val (.int x6), .val (.int 2), .val (.ref b19), .val (.ref b20), .val (.ref b21), .val (.int (((0 : Int32) + x2) + x3)), .val (.ref b26), .val (.int (((0 : Int32) + x2) + x3)), .unset] [(.int 0), (.ref b20)])) (fun t k => XS.iconst X28.here hx rfl (hb hby at_150) k) ?_
    refine own_by (T' := T28) (g' := (mkF m 153 #[.val (.int x1), .val (.int x2), .val (.int x3), .val (.int x4), .val (.int x5), .val (.int x6), .val (.int 2), .val (.ref b19), .val (.ref b20), .val (.ref b21), .val (.int (((0 : Int32) + x2) + x3)), .val (.ref b26), .val (.int (((0 : Int32) + x2) + x3)), .unset] [(.ref b20), (.int 0), (.ref b20)])) (fun t k => XS.aload X28.here hx rfl (hb hby at_151) rfl rfl k) ?_
    refine own_by (T' := T28) (g' := (mkF m 154 #[.val (.int x1), .val (.int x2), .val (.int x3), .val (.int x4), .val (.int x5), .val (.int x6), .val (.int 2), .val (.ref b19), .val (.ref b20), .val (.ref b21), .val (.int (((0 : Int32) + x2) + x3)), .val (.ref b26), .val (.int (((0 : Int32) + x2) + x3)), .unset] [(.int 0), (.ref b20), (.int 0), (.ref b20)])) (fun t k => XS.iconst X28.here hx rfl (hb hby at_153) k) ?_
    obtain ⟨cl29, Ar29, q29, S29, N29, Hs29, G29⟩ := id V_b20
    have hin29 : ¬ ((0 : Int32) < 0 ∨ cl29.slots.size ≤ ((0 : Int32)).toNatClampNeg) := inb_of S29 ⟨by decide, by decide⟩
    have hat29 : cl29.slots[((0 : Int32)).toNatClampNeg]? = some (.int x2) := Hs29.at hin29 rfl
    refine own_by (T' := T28) (g' := (mkF m 155 #[.val (.int x1), .val (.int x2), .val (.int x3), .val (.int x4), .val (.int x5), .val (.int x6), .val (.int 2), .val (.ref b19), .val (.ref b20), .val (.ref b21), .val (.int (((0 : Int32) + x2) + x3)), .val (.ref b26), .val (.int (((0 : Int32) + x2) + x3)), .unset] [(.int x2), (.int 0), (.ref b20)])) (fun t k => X28.iaload hx (j := (0 : Int32)) (v := (.int x2)) (by rw [e28]; exact Ar29.1) (State.isArrayOf_alike hZ.alike Ar29.2.1) Ar29.2.2 hin29 hat29 (g := (mkF m 154 #[.val (.int x1), .val (.int x2), .val (.int x3), .val (.int x4), .val (.int x5), .val (.int x6), .val (.int 2), .val (.ref b19), .val (.ref b20), .val (.ref b21), .val (.int (((0 : Int32) + x2) + x3)), .val (.ref b26), .val (.int (((0 : Int32) + x2) + x3)), .unset] [(.int 0), (.ref b20), (.int 0), (.ref b20)])) rfl rfl (hb hby at_154) _ k) ?_
    refine own_by (T' := T28) (g' := (mkF m 156 #[.val (.int x1), .val (.int x2), .val (.int x3), .val (.int x4), .val (.int x5), .val (.int x6), .val (.int 2), .val (.ref b19), .val (.ref b20), .val (.ref b21), .val (.int (((0 : Int32) + x2) + x3)), .val (.ref b26), .val (.int (((0 : Int32) + x2) + x3)), .unset] [(.int 1), (.int x2), (.int 0), (.ref b20)])) (fun t k => XS.iconst X28.here hx rfl (hb hby at_155) k) ?_
    refine own_by (T' := T28) (g' := (mkF m 157 #[.val (.int x1), .val (.int x2), .val (.int x3), .val (.int x4), .val (.int x5), .val (.int x6), .val (.int 2), .val (.ref b19), .val (.ref b20), .val (.ref b21), .val (.int (((0 : Int32) + x2) + x3)), .val (.ref b26), .val (.int (((0 : Int32) + x2) + x3)), .unset] [(.int (x2 ^^^ (1 : Int32))), (.int 0), (.ref b20)])) (fun t k => XS.ixor X28.here hx rfl (hb hby at_156) rfl k) ?_
    obtain ⟨cl30, Ar30, q30, S30, N30, Hs30, G30⟩ := id V_b20
    have hin30 : ¬ ((0 : Int32) < 0 ∨ cl30.slots.size ≤ ((0 : Int32)).toNatClampNeg) := inb_of S30 ⟨by decide, by decide⟩
    obtain ⟨T30, h30, X30, e30, W30, st30⟩ := stI X28 hx hZ e28 Ar30 (j := (0 : Int32)) hin30 (g := (mkF m 157 #[.val (.int x1), .val (.int x2), .val (.int x3), .val (.int x4), .val (.int x5), .val (.int x6), .val (.int 2), .val (.ref b19), .val (.ref b20), .val (.ref b21), .val (.int (((0 : Int32) + x2) + x3)), .val (.ref b26), .val (.int (((0 : Int32) + x2) + x3)), .unset] [(.int (x2 ^^^ (1 : Int32))), (.int 0), (.ref b20)])) rfl rfl (hb hby at_157)
    have V_b20_ : Arv Z h30 b20 k20 .int (2 : Int32) [(.int (x2 ^^^ (1 : Int32))), (.int x3)] (.int 0) := Arv.set Ar30 q30 S30 N30 Hs30 G30 rfl W30 0 rfl (Nat.le_of_ble_eq_true rfl)
    have Zle := Nat.le_trans Zle (Keep.of_wr W30).1
    have E_b19 := E_b19.wr W30
    have E_b20 := E_b20.wr W30
    have E_b21 := E_b21.wr W30
    have V_b21 := V_b21.other W30 ne_b20_b21.symm
    have V_b19 := V_b19.other W30 ne_b19_b20
    have c27_1 := c27_1.wr W30
    have c27_3 := c27_3.other W30 (Or.inl ne_b20_b26.symm)
    have c27_4 := c27_4.other W30 ne_b20_t2_27.symm
    have V_b20 := V_b20_
    have N_ := Fr.snoc X30 N_ g_b20
    refine own_by (T' := T30) (g' := (mkF m 158 #[.val (.int x1), .val (.int x2), .val (.int x3), .val (.int x4), .val (.int x5), .val (.int x6), .val (.int 2), .val (.ref b19), .val (.ref b20), .val (.ref b21), .val (.int (((0 : Int32) + x2) + x3)), .val (.ref b26), .val (.int (((0 : Int32) + x2) + x3)), .unset] [])) (fun t k => st30 t k) ?_
    refine own_by (T' := T30) (g' := (mkF m 160 #[.val (.int x1), .val (.int x2), .val (.int x3), .val (.int x4), .val (.int x5), .val (.int x6), .val (.int 2), .val (.ref b19), .val (.ref b20), .val (.ref b21), .val (.int (((0 : Int32) + x2) + x3)), .val (.ref b26), .val (.int (((0 : Int32) + x2) + x3)), .unset] [(.ref b26)])) (fun t k => XS.aload X30.here hx rfl (hb hby at_158) rfl rfl k) ?_
    obtain ⟨cq31, kq31, q31a, q31b, q31c⟩ := isOf hZ e30 c27_1
    obtain ⟨_, _, ⟨T31, L31, k31, n31⟩, -, X31, ⟨Lc31, hQ31, l31, y31, z31⟩, st31⟩ := X30.virtualBack hx (y := (⟨"com/example/firebreak/firebreak/core/MapStep", "getBurning", "()I"⟩ : MethodName)) (z := (⟨"com/example/firebreak/firebreak/core/MapStep", "getBurning", "()I"⟩ : MethodName)) hown (mvT hZ (hw _ (own_m 30 rfl))) (mvT hZ (hw _ (own_m 31 rfl))) (notFace_of_selects (args := #[]) (mvT hZ (hw _ (own_m 33 rfl)))) (mvT hZ (hw _ (own_m 33 rfl))) (mvT hZ (hw _ (own_m 32 rfl))) (by decide) (backOf (W := 0) (rm3n2 l Z a0 hw [] b26 t2_27 k20 x2 x3 h30 n0 Zle c27_3 c27_4) hZ (hw _ (own_m 34 rfl)) (hw _ (own_m 4 rfl)) (by decide) (by decide)) q31a q31c (g := (mkF m 160 #[.val (.int x1), .val (.int x2), .val (.int x3), .val (.int x4), .val (.int x5), .val (.int x6), .val (.int 2), .val (.ref b19), .val (.ref b20), .val (.ref b21), .val (.int (((0 : Int32) + x2) + x3)), .val (.ref b26), .val (.int (((0 : Int32) + x2) + x3)), .unset] [(.ref b26)])) rfl (by rw [hml]; rfl) (Steps.refl _) (argsL := []) (rest := []) (lenOf pd_3 rfl) rfl (own_le rfl) (hb hby at_160) (fun _ _ => ⟨rfl, e30, (by decide : 7 + 0 ≤ _), (by decide : 17 + 0 ≤ _)⟩)
    dsimp only [Pt.U, Pt.locs, Pt.cells, Pt.slots] at X31 l31 y31 z31 st31 hQ31
    subst l31 y31 z31
    obtain ⟨rfl, Nq31, e31⟩ := hQ31
    have N_ := Fr.app N_ Nq31
    refine own_by (T' := T31) (g' := (mkF m 163 #[.val (.int x1), .val (.int x2), .val (.int x3), .val (.int x4), .val (.int x5), .val (.int x6), .val (.int 2), .val (.ref b19), .val (.ref b20), .val (.ref b21), .val (.int (((0 : Int32) + x2) + x3)), .val (.ref b26), .val (.int (((0 : Int32) + x2) + x3)), .unset] [(.int (((0 : Int32) + x2) + x3))])) (fun t k => st31.trans k) ?_
    refine own_by (T' := T31) (g' := (mkF m 165 #[.val (.int x1), .val (.int x2), .val (.int x3), .val (.int x4), .val (.int x5), .val (.int x6), .val (.int 2), .val (.ref b19), .val (.ref b20), .val (.ref b21), .val (.int (((0 : Int32) + x2) + x3)), .val (.ref b26), .val (.int (((0 : Int32) + x2) + x3)), .val (.int (((0 : Int32) + x2) + x3))] [])) (fun t k => XS.istore X31.here hx rfl (hb hby at_163) rfl (l' := #[.val (.int x1), .val (.int x2), .val (.int x3), .val (.int x4), .val (.int x5), .val (.int x6), .val (.int 2), .val (.ref b19), .val (.ref b20), .val (.ref b21), .val (.int (((0 : Int32) + x2) + x3)), .val (.ref b26), .val (.int (((0 : Int32) + x2) + x3)), .val (.int (((0 : Int32) + x2) + x3))]) rfl k) ?_
    refine own_by (T' := T31) (g' := (mkF m 167 #[.val (.int x1), .val (.int x2), .val (.int x3), .val (.int x4), .val (.int x5), .val (.int x6), .val (.int 2), .val (.ref b19), .val (.ref b20), .val (.ref b21), .val (.int (((0 : Int32) + x2) + x3)), .val (.ref b26), .val (.int (((0 : Int32) + x2) + x3)), .val (.int (((0 : Int32) + x2) + x3))] [(.int (((0 : Int32) + x2) + x3))])) (fun t k => XS.iload X31.here hx rfl (hb hby at_165) rfl k) ?_
    refine own_by (T' := T31) (g' := (mkF m 169 #[.val (.int x1), .val (.int x2), .val (.int x3), .val (.int x4), .val (.int x5), .val (.int x6), .val (.int 2), .val (.ref b19), .val (.ref b20), .val (.ref b21), .val (.int (((0 : Int32) + x2) + x3)), .val (.ref b26), .val (.int (((0 : Int32) + x2) + x3)), .val (.int (((0 : Int32) + x2) + x3))] [(.int (((0 : Int32) + x2) + x3)), (.int (((0 : Int32) + x2) + x3))])) (fun t k => XS.iload X31.here hx rfl (hb hby at_167) rfl k) ?_
    refine own_by (T' := T31) (g' := (mkF m 172 #[.val (.int x1), .val (.int x2), .val (.int x3), .val (.int x4), .val (.int x5), .val (.int x6), .val (.int 2), .val (.ref b19), .val (.ref b20), .val (.ref b21), .val (.int (((0 : Int32) + x2) + x3)), .val (.ref b26), .val (.int (((0 : Int32) + x2) + x3)), .val (.int (((0 : Int32) + x2) + x3))] [])) (fun t k => XS.icmpNo X31.here hx rfl (hb hby at_169) rfl (teq (rfl : (((0 : Int32) + x2) + x3) = (((0 : Int32) + x2) + x3))).2 k) ?_
    refine own_by (T' := T31) (g' := (mkF m 174 #[.val (.int x1), .val (.int x2), .val (.int x3), .val (.int x4), .val (.int x5), .val (.int x6), .val (.int 2), .val (.ref b19), .val (.ref b20), .val (.ref b21), .val (.int (((0 : Int32) + x2) + x3)), .val (.ref b26), .val (.int (((0 : Int32) + x2) + x3)), .val (.int (((0 : Int32) + x2) + x3))] [(.int (((0 : Int32) + x2) + x3))])) (fun t k => XS.iload X31.here hx rfl (hb hby at_172) rfl k) ?_
    refine own_by (T' := T31) (g' := (mkF m 176 #[.val (.int x1), .val (.int x2), .val (.int x3), .val (.int x4), .val (.int x5), .val (.int x6), .val (.int 2), .val (.ref b19), .val (.ref b20), .val (.ref b21), .val (.int (((0 : Int32) + x2) + x3)), .val (.ref b26), .val (.int (((0 : Int32) + x2) + x3)), .val (.int (((0 : Int32) + x2) + x3))] [(.int (((0 : Int32) + x2) + x3)), (.int (((0 : Int32) + x2) + x3))])) (fun t k => XS.iload X31.here hx rfl (hb hby at_174) rfl k) ?_
    refine own_by (T' := T31) (g' := (mkF m 179 #[.val (.int x1), .val (.int x2), .val (.int x3), .val (.int x4), .val (.int x5), .val (.int x6), .val (.int 2), .val (.ref b19), .val (.ref b20), .val (.ref b21), .val (.int (((0 : Int32) + x2) + x3)), .val (.ref b26), .val (.int (((0 : Int32) + x2) + x3)), .val (.int (((0 : Int32) + x2) + x3))] [])) (fun t k => XS.icmpNo X31.here hx rfl (hb hby at_176) rfl (teq (rfl : (((0 : Int32) + x2) + x3) = (((0 : Int32) + x2) + x3))).2 k) ?_
    refine own_by (T' := T31) (g' := (mkF m 180 #[.val (.int x1), .val (.int x2), .val (.int x3), .val (.int x4), .val (.int x5), .val (.int x6), .val (.int 2), .val (.ref b19), .val (.ref b20), .val (.ref b21), .val (.int (((0 : Int32) + x2) + x3)), .val (.ref b26), .val (.int (((0 : Int32) + x2) + x3)), .val (.int (((0 : Int32) + x2) + x3))] [(.int 1)])) (fun t k => XS.iconst X31.here hx rfl (hb hby at_179) k) ?_
    refine own_by (T' := T31) (g' := (mkF m 184 #[.val (.int x1), .val (.int x2), .val (.int x3), .val (.int x4), .val (.int x5), .val (.int x6), .val (.int 2), .val (.ref b19), .val (.ref b20), .val (.ref b21), .val (.int (((0 : Int32) + x2) + x3)), .val (.ref b26), .val (.int (((0 : Int32) + x2) + x3)), .val (.int (((0 : Int32) + x2) + x3))] [(.int 1)])) (fun t k => XS.goto X31.here hx rfl (pc0 := 180) (pc' := 184) rfl (hb hby at_180) (by decide) (by decide) k) ?_
    exact own_retN X31 hx (t := .boolean) Bd.notSynchronized Bd.returns (by simp) (hb hby at_184) (by decide) (by decide) (by rw [e31]; exact ⟨rfl, N_⟩)
  · rw [hk]
    refine own_by (T' := s₁) (g' := (mkF m 10 #[.val (.int x1), .val (.int x2), .val (.int x3), .val (.int x4), .val (.int x5), .val (.int x6), .val (.int 3), .unset, .unset, .unset, .unset, .unset, .unset, .unset] [(.int 3)])) (fun t k => XS.iload X0.here hx rfl (hb hby at_8) rfl k) ?_
    obtain ⟨T32, h32, k32, X32, e32, E32, A32, AE32, st32⟩ := newPE X0 hx hZ (hw _ (own_m 1 rfl)) e0 (g := (mkF m 10 #[.val (.int x1), .val (.int x2), .val (.int x3), .val (.int x4), .val (.int x5), .val (.int x6), .val (.int 3), .unset, .unset, .unset, .unset, .unset, .unset, .unset] [(.int 3)])) rfl (hb hby at_10) rfl (by decide) (cap := 3) (by decide) (by decide) (by decide) (by decide) (ad := "[I") (by decide)
    obtain ⟨b32, g32⟩ : ∃ z, z = h0.size := ⟨_, rfl⟩
    rw [← g32] at A32 AE32 st32
    have g_b32 : n0 ≤ b32 := Nat.le_trans Zle (Nat.le_of_eq g32.symm)
    have Zle := Nat.le_trans Zle E32.1
    have E_b32 := AE32
    have V_b32 : Arv Z h32 b32 k32 .int (3 : Int32) [(.int 0), (.int 0), (.int 0)] (.int 0) := (Arv.new A32 (by decide)).pad (pad_rep [] (.int 0) 3)
    refine own_by (T' := T32) (g' := (mkF m 12 #[.val (.int x1), .val (.int x2), .val (.int x3), .val (.int x4), .val (.int x5), .val (.int x6), .val (.int 3), .unset, .unset, .unset, .unset, .unset, .unset, .unset] [(.ref b32)])) (fun t k => st32 t k) ?_
    refine own_by (T' := T32) (g' := (mkF m 14 #[.val (.int x1), .val (.int x2), .val (.int x3), .val (.int x4), .val (.int x5), .val (.int x6), .val (.int 3), .val (.ref b32), .unset, .unset, .unset, .unset, .unset, .unset] [])) (fun t k => XS.astore X32.here hx rfl (hb hby at_12) rfl rfl (l' := #[.val (.int x1), .val (.int x2), .val (.int x3), .val (.int x4), .val (.int x5), .val (.int x6), .val (.int 3), .val (.ref b32), .unset, .unset, .unset, .unset, .unset, .unset]) rfl k) ?_
    refine own_by (T' := T32) (g' := (mkF m 16 #[.val (.int x1), .val (.int x2), .val (.int x3), .val (.int x4), .val (.int x5), .val (.int x6), .val (.int 3), .val (.ref b32), .unset, .unset, .unset, .unset, .unset, .unset] [(.int 3)])) (fun t k => XS.iload X32.here hx rfl (hb hby at_14) rfl k) ?_
    obtain ⟨T33, h33, k33, X33, e33, E33, A33, AE33, st33⟩ := newPE X32 hx hZ (hw _ (own_m 1 rfl)) e32 (g := (mkF m 16 #[.val (.int x1), .val (.int x2), .val (.int x3), .val (.int x4), .val (.int x5), .val (.int x6), .val (.int 3), .val (.ref b32), .unset, .unset, .unset, .unset, .unset, .unset] [(.int 3)])) rfl (hb hby at_16) rfl (by decide) (cap := 3) (by decide) (by decide) (by decide) (by decide) (ad := "[I") (by decide)
    obtain ⟨b33, g33⟩ : ∃ z, z = h32.size := ⟨_, rfl⟩
    rw [← g33] at A33 AE33 st33
    have ne_b32_b33 : b32 ≠ b33 := Nat.ne_of_lt (Nat.lt_of_lt_of_eq E_b32.lt g33.symm)
    have g_b33 : n0 ≤ b33 := Nat.le_trans Zle (Nat.le_of_eq g33.symm)
    have Zle := Nat.le_trans Zle E33.1
    have E_b32 := E_b32.ext E33
    have V_b32 := V_b32.ext E33
    have E_b33 := AE33
    have V_b33 : Arv Z h33 b33 k33 .int (3 : Int32) [(.int 0), (.int 0), (.int 0)] (.int 0) := (Arv.new A33 (by decide)).pad (pad_rep [] (.int 0) 3)
    refine own_by (T' := T33) (g' := (mkF m 18 #[.val (.int x1), .val (.int x2), .val (.int x3), .val (.int x4), .val (.int x5), .val (.int x6), .val (.int 3), .val (.ref b32), .unset, .unset, .unset, .unset, .unset, .unset] [(.ref b33)])) (fun t k => st33 t k) ?_
    refine own_by (T' := T33) (g' := (mkF m 20 #[.val (.int x1), .val (.int x2), .val (.int x3), .val (.int x4), .val (.int x5), .val (.int x6), .val (.int 3), .val (.ref b32), .val (.ref b33), .unset, .unset, .unset, .unset, .unset] [])) (fun t k => XS.astore X33.here hx rfl (hb hby at_18) rfl rfl (l' := #[.val (.int x1), .val (.int x2), .val (.int x3), .val (.int x4), .val (.int x5), .val (.int x6), .val (.int 3), .val (.ref b32), .val (.ref b33), .unset, .unset, .unset, .unset, .unset]) rfl k) ?_
    refine own_by (T' := T33) (g' := (mkF m 22 #[.val (.int x1), .val (.int x2), .val (.int x3), .val (.int x4), .val (.int x5), .val (.int x6), .val (.int 3), .val (.ref b32), .val (.ref b33), .unset, .unset, .unset, .unset, .unset] [(.int 3)])) (fun t k => XS.iload X33.here hx rfl (hb hby at_20) rfl k) ?_
    obtain ⟨T34, h34, k34, X34, e34, E34, A34, AE34, st34⟩ := newPE X33 hx hZ (hw _ (own_m 1 rfl)) e33 (g := (mkF m 22 #[.val (.int x1), .val (.int x2), .val (.int x3), .val (.int x4), .val (.int x5), .val (.int x6), .val (.int 3), .val (.ref b32), .val (.ref b33), .unset, .unset, .unset, .unset, .unset] [(.int 3)])) rfl (hb hby at_22) rfl (by decide) (cap := 3) (by decide) (by decide) (by decide) (by decide) (ad := "[I") (by decide)
    obtain ⟨b34, g34⟩ : ∃ z, z = h33.size := ⟨_, rfl⟩
    rw [← g34] at A34 AE34 st34
    have ne_b32_b34 : b32 ≠ b34 := Nat.ne_of_lt (Nat.lt_of_lt_of_eq E_b32.lt g34.symm)
    have ne_b33_b34 : b33 ≠ b34 := Nat.ne_of_lt (Nat.lt_of_lt_of_eq E_b33.lt g34.symm)
    have g_b34 : n0 ≤ b34 := Nat.le_trans Zle (Nat.le_of_eq g34.symm)
    have Zle := Nat.le_trans Zle E34.1
    have E_b32 := E_b32.ext E34
    have V_b32 := V_b32.ext E34
    have E_b33 := E_b33.ext E34
    have V_b33 := V_b33.ext E34
    have E_b34 := AE34
    have V_b34 : Arv Z h34 b34 k34 .int (3 : Int32) [(.int 0), (.int 0), (.int 0)] (.int 0) := (Arv.new A34 (by decide)).pad (pad_rep [] (.int 0) 3)
    refine own_by (T' := T34) (g' := (mkF m 24 #[.val (.int x1), .val (.int x2), .val (.int x3), .val (.int x4), .val (.int x5), .val (.int x6), .val (.int 3), .val (.ref b32), .val (.ref b33), .unset, .unset, .unset, .unset, .unset] [(.ref b34)])) (fun t k => st34 t k) ?_
    refine own_by (T' := T34) (g' := (mkF m 26 #[.val (.int x1), .val (.int x2), .val (.int x3), .val (.int x4), .val (.int x5), .val (.int x6), .val (.int 3), .val (.ref b32), .val (.ref b33), .val (.ref b34), .unset, .unset, .unset, .unset] [])) (fun t k => XS.astore X34.here hx rfl (hb hby at_24) rfl rfl (l' := #[.val (.int x1), .val (.int x2), .val (.int x3), .val (.int x4), .val (.int x5), .val (.int x6), .val (.int 3), .val (.ref b32), .val (.ref b33), .val (.ref b34), .unset, .unset, .unset, .unset]) rfl k) ?_
    refine own_by (T' := T34) (g' := (mkF m 27 #[.val (.int x1), .val (.int x2), .val (.int x3), .val (.int x4), .val (.int x5), .val (.int x6), .val (.int 3), .val (.ref b32), .val (.ref b33), .val (.ref b34), .unset, .unset, .unset, .unset] [(.int 0)])) (fun t k => XS.iconst X34.here hx rfl (hb hby at_26) k) ?_
    refine own_by (T' := T34) (g' := (mkF m 29 #[.val (.int x1), .val (.int x2), .val (.int x3), .val (.int x4), .val (.int x5), .val (.int x6), .val (.int 3), .val (.ref b32), .val (.ref b33), .val (.ref b34), .val (.int 0), .unset, .unset, .unset] [])) (fun t k => XS.istore X34.here hx rfl (hb hby at_27) rfl (l' := #[.val (.int x1), .val (.int x2), .val (.int x3), .val (.int x4), .val (.int x5), .val (.int x6), .val (.int 3), .val (.ref b32), .val (.ref b33), .val (.ref b34), .val (.int 0), .unset, .unset, .unset]) rfl k) ?_
    refine own_by (T' := T34) (g' := (mkF m 31 #[.val (.int x1), .val (.int x2), .val (.int x3), .val (.int x4), .val (.int x5), .val (.int x6), .val (.int 3), .val (.ref b32), .val (.ref b33), .val (.ref b34), .val (.int 0), .unset, .unset, .unset] [(.int 3)])) (fun t k => XS.iload X34.here hx rfl (hb hby at_29) rfl k) ?_
    refine own_by (T' := T34) (g' := (mkF m 34 #[.val (.int x1), .val (.int x2), .val (.int x3), .val (.int x4), .val (.int x5), .val (.int x6), .val (.int 3), .val (.ref b32), .val (.ref b33), .val (.ref b34), .val (.int 0), .unset, .unset, .unset] [])) (fun t k => XS.ifNo X34.here hx rfl (hb hby at_31) rfl ((if0 _ _).trans (tlt (by decide)).2.2.2) k) ?_
    refine own_by (T' := T34) (g' := (mkF m 36 #[.val (.int x1), .val (.int x2), .val (.int x3), .val (.int x4), .val (.int x5), .val (.int x6), .val (.int 3), .val (.ref b32), .val (.ref b33), .val (.ref b34), .val (.int 0), .unset, .unset, .unset] [(.ref b33)])) (fun t k => XS.aload X34.here hx rfl (hb hby at_34) rfl rfl k) ?_
    refine own_by (T' := T34) (g' := (mkF m 37 #[.val (.int x1), .val (.int x2), .val (.int x3), .val (.int x4), .val (.int x5), .val (.int x6), .val (.int 3), .val (.ref b32), .val (.ref b33), .val (.ref b34), .val (.int 0), .unset, .unset, .unset] [(.int 0), (.ref b33)])) (fun t k => XS.iconst X34.here hx rfl (hb hby at_36) k) ?_
    refine own_by (T' := T34) (g' := (mkF m 38 #[.val (.int x1), .val (.int x2), .val (.int x3), .val (.int x4), .val (.int x5), .val (.int x6), .val (.int 3), .val (.ref b32), .val (.ref b33), .val (.ref b34), .val (.int 0), .unset, .unset, .unset] [(.int x2), (.int 0), (.ref b33)])) (fun t k => XS.iloadN X34.here hx rfl (hb hby at_37) rfl k) ?_
    obtain ⟨cl35, Ar35, q35, S35, N35, Hs35, G35⟩ := id V_b33
    have hin35 : ¬ ((0 : Int32) < 0 ∨ cl35.slots.size ≤ ((0 : Int32)).toNatClampNeg) := inb_of S35 ⟨by decide, by decide⟩
    obtain ⟨T35, h35, X35, e35, W35, st35⟩ := stI X34 hx hZ e34 Ar35 (j := (0 : Int32)) hin35 (g := (mkF m 38 #[.val (.int x1), .val (.int x2), .val (.int x3), .val (.int x4), .val (.int x5), .val (.int x6), .val (.int 3), .val (.ref b32), .val (.ref b33), .val (.ref b34), .val (.int 0), .unset, .unset, .unset] [(.int x2), (.int 0), (.ref b33)])) rfl rfl (hb hby at_38)
    have V_b33_ : Arv Z h35 b33 k33 .int (3 : Int32) [(.int x2), (.int 0), (.int 0)] (.int 0) := Arv.set Ar35 q35 S35 N35 Hs35 G35 rfl W35 0 rfl (Nat.le_of_ble_eq_true rfl)
    have Zle := Nat.le_trans Zle (Keep.of_wr W35).1
    have E_b32 := E_b32.wr W35
    have V_b32 := V_b32.other W35 ne_b32_b33
    have E_b33 := E_b33.wr W35
    have E_b34 := E_b34.wr W35
    have V_b34 := V_b34.other W35 ne_b33_b34.symm
    have V_b33 := V_b33_
    have N_ := Fr.snoc X35 N_ g_b33
    refine own_by (T' := T35) (g' := (mkF m 39 #[.val (.int x1), .val (.int x2), .val (.int x3), .val (.int x4), .val (.int x5), .val (.int x6), .val (.int 3), .val (.ref b32), .val (.ref b33), .val (.ref b34), .val (.int 0), .unset, .unset, .unset] [])) (fun t k => st35 t k) ?_
    refine own_by (T' := T35) (g' := (mkF m 41 #[.val (.int x1), .val (.int x2), .val (.int x3), .val (.int x4), .val (.int x5), .val (.int x6), .val (.int 3), .val (.ref b32), .val (.ref b33), .val (.ref b34), .val (.int 0), .unset, .unset, .unset] [(.ref b32)])) (fun t k => XS.aload X35.here hx rfl (hb hby at_39) rfl rfl k) ?_
    refine own_by (T' := T35) (g' := (mkF m 42 #[.val (.int x1), .val (.int x2), .val (.int x3), .val (.int x4), .val (.int x5), .val (.int x6), .val (.int 3), .val (.ref b32), .val (.ref b33), .val (.ref b34), .val (.int 0), .unset, .unset, .unset] [(.int 0), (.ref b32)])) (fun t k => XS.iconst X35.here hx rfl (hb hby at_41) k) ?_
    refine own_by (T' := T35) (g' := (mkF m 43 #[.val (.int x1), .val (.int x2), .val (.int x3), .val (.int x4), .val (.int x5), .val (.int x6), .val (.int 3), .val (.ref b32), .val (.ref b33), .val (.ref b34), .val (.int 0), .unset, .unset, .unset] [(.int 0), (.int 0), (.ref b32)])) (fun t k => XS.iconst X35.here hx rfl (hb hby at_42) k) ?_
    obtain ⟨cl36, Ar36, q36, S36, N36, Hs36, G36⟩ := id V_b32
    have hin36 : ¬ ((0 : Int32) < 0 ∨ cl36.slots.size ≤ ((0 : Int32)).toNatClampNeg) := inb_of S36 ⟨by decide, by decide⟩
    obtain ⟨T36, h36, X36, e36, W36, st36⟩ := stI X35 hx hZ e35 Ar36 (j := (0 : Int32)) hin36 (g := (mkF m 43 #[.val (.int x1), .val (.int x2), .val (.int x3), .val (.int x4), .val (.int x5), .val (.int x6), .val (.int 3), .val (.ref b32), .val (.ref b33), .val (.ref b34), .val (.int 0), .unset, .unset, .unset] [(.int 0), (.int 0), (.ref b32)])) rfl rfl (hb hby at_43)
    have V_b32_ : Arv Z h36 b32 k32 .int (3 : Int32) [(.int 0), (.int 0), (.int 0)] (.int 0) := Arv.set Ar36 q36 S36 N36 Hs36 G36 rfl W36 0 rfl (Nat.le_of_ble_eq_true rfl)
    have Zle := Nat.le_trans Zle (Keep.of_wr W36).1
    have E_b32 := E_b32.wr W36
    have E_b33 := E_b33.wr W36
    have E_b34 := E_b34.wr W36
    have V_b34 := V_b34.other W36 ne_b32_b34.symm
    have V_b33 := V_b33.other W36 ne_b32_b33.symm
    have V_b32 := V_b32_
    have N_ := Fr.snoc X36 N_ g_b32
    refine own_by (T' := T36) (g' := (mkF m 44 #[.val (.int x1), .val (.int x2), .val (.int x3), .val (.int x4), .val (.int x5), .val (.int x6), .val (.int 3), .val (.ref b32), .val (.ref b33), .val (.ref b34), .val (.int 0), .unset, .unset, .unset] [])) (fun t k => st36 t k) ?_
    refine own_by (T' := T36) (g' := (mkF m 46 #[.val (.int x1), .val (.int x2), .val (.int x3), .val (.int x4), .val (.int x5), .val (.int x6), .val (.int 3), .val (.ref b32), .val (.ref b33), .val (.ref b34), .val (.int 0), .unset, .unset, .unset] [(.int 0)])) (fun t k => XS.iload X36.here hx rfl (hb hby at_44) rfl k) ?_
    refine own_by (T' := T36) (g' := (mkF m 47 #[.val (.int x1), .val (.int x2), .val (.int x3), .val (.int x4), .val (.int x5), .val (.int x6), .val (.int 3), .val (.ref b32), .val (.ref b33), .val (.ref b34), .val (.int 0), .unset, .unset, .unset] [(.int x2), (.int 0)])) (fun t k => XS.iloadN X36.here hx rfl (hb hby at_46) rfl k) ?_
    refine own_by (T' := T36) (g' := (mkF m 48 #[.val (.int x1), .val (.int x2), .val (.int x3), .val (.int x4), .val (.int x5), .val (.int x6), .val (.int 3), .val (.ref b32), .val (.ref b33), .val (.ref b34), .val (.int 0), .unset, .unset, .unset] [(.int ((0 : Int32) + x2))])) (fun t k => XS.iadd X36.here hx rfl (hb hby at_47) rfl k) ?_
    refine own_by (T' := T36) (g' := (mkF m 50 #[.val (.int x1), .val (.int x2), .val (.int x3), .val (.int x4), .val (.int x5), .val (.int x6), .val (.int 3), .val (.ref b32), .val (.ref b33), .val (.ref b34), .val (.int ((0 : Int32) + x2)), .unset, .unset, .unset] [])) (fun t k => XS.istore X36.here hx rfl (hb hby at_48) rfl (l' := #[.val (.int x1), .val (.int x2), .val (.int x3), .val (.int x4), .val (.int x5), .val (.int x6), .val (.int 3), .val (.ref b32), .val (.ref b33), .val (.ref b34), .val (.int ((0 : Int32) + x2)), .unset, .unset, .unset]) rfl k) ?_
    refine own_by (T' := T36) (g' := (mkF m 52 #[.val (.int x1), .val (.int x2), .val (.int x3), .val (.int x4), .val (.int x5), .val (.int x6), .val (.int 3), .val (.ref b32), .val (.ref b33), .val (.ref b34), .val (.int ((0 : Int32) + x2)), .unset, .unset, .unset] [(.int 3)])) (fun t k => XS.iload X36.here hx rfl (hb hby at_50) rfl k) ?_
    refine own_by (T' := T36) (g' := (mkF m 53 #[.val (.int x1), .val (.int x2), .val (.int x3), .val (.int x4), .val (.int x5), .val (.int x6), .val (.int 3), .val (.ref b32), .val (.ref b33), .val (.ref b34), .val (.int ((0 : Int32) + x2)), .unset, .unset, .unset] [(.int 1), (.int 3)])) (fun t k => XS.iconst X36.here hx rfl (hb hby at_52) k) ?_
    refine own_by (T' := T36) (g' := (mkF m 56 #[.val (.int x1), .val (.int x2), .val (.int x3), .val (.int x4), .val (.int x5), .val (.int x6), .val (.int 3), .val (.ref b32), .val (.ref b33), .val (.ref b34), .val (.int ((0 : Int32) + x2)), .unset, .unset, .unset] [])) (fun t k => XS.icmpNo X36.here hx rfl (hb hby at_53) rfl (tlt (by decide)).2.2.2 k) ?_
    refine own_by (T' := T36) (g' := (mkF m 58 #[.val (.int x1), .val (.int x2), .val (.int x3), .val (.int x4), .val (.int x5), .val (.int x6), .val (.int 3), .val (.ref b32), .val (.ref b33), .val (.ref b34), .val (.int ((0 : Int32) + x2)), .unset, .unset, .unset] [(.ref b33)])) (fun t k => XS.aload X36.here hx rfl (hb hby at_56) rfl rfl k) ?_
    refine own_by (T' := T36) (g' := (mkF m 59 #[.val (.int x1), .val (.int x2), .val (.int x3), .val (.int x4), .val (.int x5), .val (.int x6), .val (.int 3), .val (.ref b32), .val (.ref b33), .val (.ref b34), .val (.int ((0 : Int32) + x2)), .unset, .unset, .unset] [(.int 1), (.ref b33)])) (fun t k => XS.iconst X36.here hx rfl (hb hby at_58) k) ?_
    refine own_by (T' := T36) (g' := (mkF m 60 #[.val (.int x1), .val (.int x2), .val (.int x3), .val (.int x4), .val (.int x5), .val (.int x6), .val (.int 3), .val (.ref b32), .val (.ref b33), .val (.ref b34), .val (.int ((0 : Int32) + x2)), .unset, .unset, .unset] [(.int x3), (.int 1), (.ref b33)])) (fun t k => XS.iloadN X36.here hx rfl (hb hby at_59) rfl k) ?_
    obtain ⟨cl37, Ar37, q37, S37, N37, Hs37, G37⟩ := id V_b33
    have hin37 : ¬ ((1 : Int32) < 0 ∨ cl37.slots.size ≤ ((1 : Int32)).toNatClampNeg) := inb_of S37 ⟨by decide, by decide⟩
    obtain ⟨T37, h37, X37, e37, W37, st37⟩ := stI X36 hx hZ e36 Ar37 (j := (1 : Int32)) hin37 (g := (mkF m 60 #[.val (.int x1), .val (.int x2), .val (.int x3), .val (.int x4), .val (.int x5), .val (.int x6), .val (.int 3), .val (.ref b32), .val (.ref b33), .val (.ref b34), .val (.int ((0 : Int32) + x2)), .unset, .unset, .unset] [(.int x3), (.int 1), (.ref b33)])) rfl rfl (hb hby at_60)
    have V_b33_ : Arv Z h37 b33 k33 .int (3 : Int32) [(.int x2), (.int x3), (.int 0)] (.int 0) := Arv.set Ar37 q37 S37 N37 Hs37 G37 rfl W37 1 rfl (Nat.le_of_ble_eq_true rfl)
    have Zle := Nat.le_trans Zle (Keep.of_wr W37).1
    have E_b32 := E_b32.wr W37
    have E_b33 := E_b33.wr W37
    have E_b34 := E_b34.wr W37
    have V_b34 := V_b34.other W37 ne_b33_b34.symm
    have V_b32 := V_b32.other W37 ne_b32_b33
    have V_b33 := V_b33_
    have N_ := Fr.snoc X37 N_ g_b33
    refine own_by (T' := T37) (g' := (mkF m 61 #[.val (.int x1), .val (.int x2), .val (.int x3), .val (.int x4), .val (.int x5), .val (.int x6), .val (.int 3), .val (.ref b32), .val (.ref b33), .val (.ref b34), .val (.int ((0 : Int32) + x2)), .unset, .unset, .unset] [])) (fun t k => st37 t k) ?_
    refine own_by (T' := T37) (g' := (mkF m 63 #[.val (.int x1), .val (.int x2), .val (.int x3), .val (.int x4), .val (.int x5), .val (.int x6), .val (.int 3), .val (.ref b32), .val (.ref b33), .val (.ref b34), .val (.int ((0 : Int32) + x2)), .unset, .unset, .unset] [(.ref b32)])) (fun t k => XS.aload X37.here hx rfl (hb hby at_61) rfl rfl k) ?_
    refine own_by (T' := T37) (g' := (mkF m 64 #[.val (.int x1), .val (.int x2), .val (.int x3), .val (.int x4), .val (.int x5), .val (.int x6), .val (.int 3), .val (.ref b32), .val (.ref b33), .val (.ref b34), .val (.int ((0 : Int32) + x2)), .unset, .unset, .unset] [(.int 1), (.ref b32)])) (fun t k => XS.iconst X37.here hx rfl (hb hby at_63) k) ?_
    refine own_by (T' := T37) (g' := (mkF m 65 #[.val (.int x1), .val (.int x2), .val (.int x3), .val (.int x4), .val (.int x5), .val (.int x6), .val (.int 3), .val (.ref b32), .val (.ref b33), .val (.ref b34), .val (.int ((0 : Int32) + x2)), .unset, .unset, .unset] [(.int 1), (.int 1), (.ref b32)])) (fun t k => XS.iconst X37.here hx rfl (hb hby at_64) k) ?_
    obtain ⟨cl38, Ar38, q38, S38, N38, Hs38, G38⟩ := id V_b32
    have hin38 : ¬ ((1 : Int32) < 0 ∨ cl38.slots.size ≤ ((1 : Int32)).toNatClampNeg) := inb_of S38 ⟨by decide, by decide⟩
    obtain ⟨T38, h38, X38, e38, W38, st38⟩ := stI X37 hx hZ e37 Ar38 (j := (1 : Int32)) hin38 (g := (mkF m 65 #[.val (.int x1), .val (.int x2), .val (.int x3), .val (.int x4), .val (.int x5), .val (.int x6), .val (.int 3), .val (.ref b32), .val (.ref b33), .val (.ref b34), .val (.int ((0 : Int32) + x2)), .unset, .unset, .unset] [(.int 1), (.int 1), (.ref b32)])) rfl rfl (hb hby at_65)
    have V_b32_ : Arv Z h38 b32 k32 .int (3 : Int32) [(.int 0), (.int 1), (.int 0)] (.int 0) := Arv.set Ar38 q38 S38 N38 Hs38 G38 rfl W38 1 rfl (Nat.le_of_ble_eq_true rfl)
    have Zle := Nat.le_trans Zle (Keep.of_wr W38).1
    have E_b32 := E_b32.wr W38
    have E_b33 := E_b33.wr W38
    have E_b34 := E_b34.wr W38
    have V_b34 := V_b34.other W38 ne_b32_b34.symm
    have V_b33 := V_b33.other W38 ne_b32_b33.symm
    have V_b32 := V_b32_
    have N_ := Fr.snoc X38 N_ g_b32
    refine own_by (T' := T38) (g' := (mkF m 66 #[.val (.int x1), .val (.int x2), .val (.int x3), .val (.int x4), .val (.int x5), .val (.int x6), .val (.int 3), .val (.ref b32), .val (.ref b33), .val (.ref b34), .val (.int ((0 : Int32) + x2)), .unset, .unset, .unset] [])) (fun t k => st38 t k) ?_
    refine own_by (T' := T38) (g' := (mkF m 68 #[.val (.int x1), .val (.int x2), .val (.int x3), .val (.int x4), .val (.int x5), .val (.int x6), .val (.int 3), .val (.ref b32), .val (.ref b33), .val (.ref b34), .val (.int ((0 : Int32) + x2)), .unset, .unset, .unset] [(.int ((0 : Int32) + x2))])) (fun t k => XS.iload X38.here hx rfl (hb hby at_66) rfl k) ?_
    refine own_by (T' := T38) (g' := (mkF m 69 #[.val (.int x1), .val (.int x2), .val (.int x3), .val (.int x4), .val (.int x5), .val (.int x6), .val (.int 3), .val (.ref b32), .val (.ref b33), .val (.ref b34), .val (.int ((0 : Int32) + x2)), .unset, .unset, .unset] [(.int x3), (.int ((0 : Int32) + x2))])) (fun t k => XS.iloadN X38.here hx rfl (hb hby at_68) rfl k) ?_
    refine own_by (T' := T38) (g' := (mkF m 70 #[.val (.int x1), .val (.int x2), .val (.int x3), .val (.int x4), .val (.int x5), .val (.int x6), .val (.int 3), .val (.ref b32), .val (.ref b33), .val (.ref b34), .val (.int ((0 : Int32) + x2)), .unset, .unset, .unset] [(.int (((0 : Int32) + x2) + x3))])) (fun t k => XS.iadd X38.here hx rfl (hb hby at_69) rfl k) ?_
    refine own_by (T' := T38) (g' := (mkF m 72 #[.val (.int x1), .val (.int x2), .val (.int x3), .val (.int x4), .val (.int x5), .val (.int x6), .val (.int 3), .val (.ref b32), .val (.ref b33), .val (.ref b34), .val (.int (((0 : Int32) + x2) + x3)), .unset, .unset, .unset] [])) (fun t k => XS.istore X38.here hx rfl (hb hby at_70) rfl (l' := #[.val (.int x1), .val (.int x2), .val (.int x3), .val (.int x4), .val (.int x5), .val (.int x6), .val (.int 3), .val (.ref b32), .val (.ref b33), .val (.ref b34), .val (.int (((0 : Int32) + x2) + x3)), .unset, .unset, .unset]) rfl k) ?_
    refine own_by (T' := T38) (g' := (mkF m 74 #[.val (.int x1), .val (.int x2), .val (.int x3), .val (.int x4), .val (.int x5), .val (.int x6), .val (.int 3), .val (.ref b32), .val (.ref b33), .val (.ref b34), .val (.int (((0 : Int32) + x2) + x3)), .unset, .unset, .unset] [(.int 3)])) (fun t k => XS.iload X38.here hx rfl (hb hby at_72) rfl k) ?_
    refine own_by (T' := T38) (g' := (mkF m 75 #[.val (.int x1), .val (.int x2), .val (.int x3), .val (.int x4), .val (.int x5), .val (.int x6), .val (.int 3), .val (.ref b32), .val (.ref b33), .val (.ref b34), .val (.int (((0 : Int32) + x2) + x3)), .unset, .unset, .unset] [(.int 2), (.int 3)])) (fun t k => XS.iconst X38.here hx rfl (hb hby at_74) k) ?_
    refine own_by (T' := T38) (g' := (mkF m 78 #[.val (.int x1), .val (.int x2), .val (.int x3), .val (.int x4), .val (.int x5), .val (.int x6), .val (.int 3), .val (.ref b32), .val (.ref b33), .val (.ref b34), .val (.int (((0 : Int32) + x2) + x3)), .unset, .unset, .unset] [])) (fun t k => XS.icmpNo X38.here hx rfl (hb hby at_75) rfl (tlt (by decide)).2.2.2 k) ?_
    refine own_by (T' := T38) (g' := (mkF m 80 #[.val (.int x1), .val (.int x2), .val (.int x3), .val (.int x4), .val (.int x5), .val (.int x6), .val (.int 3), .val (.ref b32), .val (.ref b33), .val (.ref b34), .val (.int (((0 : Int32) + x2) + x3)), .unset, .unset, .unset] [(.ref b33)])) (fun t k => XS.aload X38.here hx rfl (hb hby at_78) rfl rfl k) ?_
    refine own_by (T' := T38) (g' := (mkF m 81 #[.val (.int x1), .val (.int x2), .val (.int x3), .val (.int x4), .val (.int x5), .val (.int x6), .val (.int 3), .val (.ref b32), .val (.ref b33), .val (.ref b34), .val (.int (((0 : Int32) + x2) + x3)), .unset, .unset, .unset] [(.int 2), (.ref b33)])) (fun t k => XS.iconst X38.here hx rfl (hb hby at_80) k) ?_
    refine own_by (T' := T38) (g' := (mkF m 82 #[.val (.int x1), .val (.int x2), .val (.int x3), .val (.int x4), .val (.int x5), .val (.int x6), .val (.int 3), .val (.ref b32), .val (.ref b33), .val (.ref b34), .val (.int (((0 : Int32) + x2) + x3)), .unset, .unset, .unset] [(.int x4), (.int 2), (.ref b33)])) (fun t k => XS.iloadN X38.here hx rfl (hb hby at_81) rfl k) ?_
    obtain ⟨cl39, Ar39, q39, S39, N39, Hs39, G39⟩ := id V_b33
    have hin39 : ¬ ((2 : Int32) < 0 ∨ cl39.slots.size ≤ ((2 : Int32)).toNatClampNeg) := inb_of S39 ⟨by decide, by decide⟩
    obtain ⟨T39, h39, X39, e39, W39, st39⟩ := stI X38 hx hZ e38 Ar39 (j := (2 : Int32)) hin39 (g := (mkF m 82 #[.val (.int x1), .val (.int x2), .val (.int x3), .val (.int x4), .val (.int x5), .val (.int x6), .val (.int 3), .val (.ref b32), .val (.ref b33), .val (.ref b34), .val (.int (((0 : Int32) + x2) + x3)), .unset, .unset, .unset] [(.int x4), (.int 2), (.ref b33)])) rfl rfl (hb hby at_82)
    have V_b33_ : Arv Z h39 b33 k33 .int (3 : Int32) [(.int x2), (.int x3), (.int x4)] (.int 0) := Arv.set Ar39 q39 S39 N39 Hs39 G39 rfl W39 2 rfl (Nat.le_of_ble_eq_true rfl)
    have Zle := Nat.le_trans Zle (Keep.of_wr W39).1
    have E_b32 := E_b32.wr W39
    have E_b33 := E_b33.wr W39
    have E_b34 := E_b34.wr W39
    have V_b34 := V_b34.other W39 ne_b33_b34.symm
    have V_b32 := V_b32.other W39 ne_b32_b33
    have V_b33 := V_b33_
    have N_ := Fr.snoc X39 N_ g_b33
    refine own_by (T' := T39) (g' := (mkF m 83 #[.val (.int x1), .val (.int x2), .val (.int x3), .val (.int x4), .val (.int x5), .val (.int x6), .val (.int 3), .val (.ref b32), .val (.ref b33), .val (.ref b34), .val (.int (((0 : Int32) + x2) + x3)), .unset, .unset, .unset] [])) (fun t k => st39 t k) ?_
    refine own_by (T' := T39) (g' := (mkF m 85 #[.val (.int x1), .val (.int x2), .val (.int x3), .val (.int x4), .val (.int x5), .val (.int x6), .val (.int 3), .val (.ref b32), .val (.ref b33), .val (.ref b34), .val (.int (((0 : Int32) + x2) + x3)), .unset, .unset, .unset] [(.ref b32)])) (fun t k => XS.aload X39.here hx rfl (hb hby at_83) rfl rfl k) ?_
    refine own_by (T' := T39) (g' := (mkF m 86 #[.val (.int x1), .val (.int x2), .val (.int x3), .val (.int x4), .val (.int x5), .val (.int x6), .val (.int 3), .val (.ref b32), .val (.ref b33), .val (.ref b34), .val (.int (((0 : Int32) + x2) + x3)), .unset, .unset, .unset] [(.int 2), (.ref b32)])) (fun t k => XS.iconst X39.here hx rfl (hb hby at_85) k) ?_
    refine own_by (T' := T39) (g' := (mkF m 87 #[.val (.int x1), .val (.int x2), .val (.int x3), .val (.int x4), .val (.int x5), .val (.int x6), .val (.int 3), .val (.ref b32), .val (.ref b33), .val (.ref b34), .val (.int (((0 : Int32) + x2) + x3)), .unset, .unset, .unset] [(.int 2), (.int 2), (.ref b32)])) (fun t k => XS.iconst X39.here hx rfl (hb hby at_86) k) ?_
    obtain ⟨cl40, Ar40, q40, S40, N40, Hs40, G40⟩ := id V_b32
    have hin40 : ¬ ((2 : Int32) < 0 ∨ cl40.slots.size ≤ ((2 : Int32)).toNatClampNeg) := inb_of S40 ⟨by decide, by decide⟩
    obtain ⟨T40, h40, X40, e40, W40, st40⟩ := stI X39 hx hZ e39 Ar40 (j := (2 : Int32)) hin40 (g := (mkF m 87 #[.val (.int x1), .val (.int x2), .val (.int x3), .val (.int x4), .val (.int x5), .val (.int x6), .val (.int 3), .val (.ref b32), .val (.ref b33), .val (.ref b34), .val (.int (((0 : Int32) + x2) + x3)), .unset, .unset, .unset] [(.int 2), (.int 2), (.ref b32)])) rfl rfl (hb hby at_87)
    have V_b32_ : Arv Z h40 b32 k32 .int (3 : Int32) [(.int 0), (.int 1), (.int 2)] (.int 0) := Arv.set Ar40 q40 S40 N40 Hs40 G40 rfl W40 2 rfl (Nat.le_of_ble_eq_true rfl)
    have Zle := Nat.le_trans Zle (Keep.of_wr W40).1
    have E_b32 := E_b32.wr W40
    have E_b33 := E_b33.wr W40
    have E_b34 := E_b34.wr W40
    have V_b34 := V_b34.other W40 ne_b32_b34.symm
    have V_b33 := V_b33.other W40 ne_b32_b33.symm
    have V_b32 := V_b32_
    have N_ := Fr.snoc X40 N_ g_b32
    refine own_by (T' := T40) (g' := (mkF m 88 #[.val (.int x1), .val (.int x2), .val (.int x3), .val (.int x4), .val (.int x5), .val (.int x6), .val (.int 3), .val (.ref b32), .val (.ref b33), .val (.ref b34), .val (.int (((0 : Int32) + x2) + x3)), .unset, .unset, .unset] [])) (fun t k => st40 t k) ?_
    refine own_by (T' := T40) (g' := (mkF m 90 #[.val (.int x1), .val (.int x2), .val (.int x3), .val (.int x4), .val (.int x5), .val (.int x6), .val (.int 3), .val (.ref b32), .val (.ref b33), .val (.ref b34), .val (.int (((0 : Int32) + x2) + x3)), .unset, .unset, .unset] [(.int (((0 : Int32) + x2) + x3))])) (fun t k => XS.iload X40.here hx rfl (hb hby at_88) rfl k) ?_
    refine own_by (T' := T40) (g' := (mkF m 91 #[.val (.int x1), .val (.int x2), .val (.int x3), .val (.int x4), .val (.int x5), .val (.int x6), .val (.int 3), .val (.ref b32), .val (.ref b33), .val (.ref b34), .val (.int (((0 : Int32) + x2) + x3)), .unset, .unset, .unset] [(.int x4), (.int (((0 : Int32) + x2) + x3))])) (fun t k => XS.iloadN X40.here hx rfl (hb hby at_90) rfl k) ?_
    refine own_by (T' := T40) (g' := (mkF m 92 #[.val (.int x1), .val (.int x2), .val (.int x3), .val (.int x4), .val (.int x5), .val (.int x6), .val (.int 3), .val (.ref b32), .val (.ref b33), .val (.ref b34), .val (.int (((0 : Int32) + x2) + x3)), .unset, .unset, .unset] [(.int ((((0 : Int32) + x2) + x3) + x4))])) (fun t k => XS.iadd X40.here hx rfl (hb hby at_91) rfl k) ?_
    refine own_by (T' := T40) (g' := (mkF m 94 #[.val (.int x1), .val (.int x2), .val (.int x3), .val (.int x4), .val (.int x5), .val (.int x6), .val (.int 3), .val (.ref b32), .val (.ref b33), .val (.ref b34), .val (.int ((((0 : Int32) + x2) + x3) + x4)), .unset, .unset, .unset] [])) (fun t k => XS.istore X40.here hx rfl (hb hby at_92) rfl (l' := #[.val (.int x1), .val (.int x2), .val (.int x3), .val (.int x4), .val (.int x5), .val (.int x6), .val (.int 3), .val (.ref b32), .val (.ref b33), .val (.ref b34), .val (.int ((((0 : Int32) + x2) + x3) + x4)), .unset, .unset, .unset]) rfl k) ?_
    refine own_by (T' := T40) (g' := (mkF m 96 #[.val (.int x1), .val (.int x2), .val (.int x3), .val (.int x4), .val (.int x5), .val (.int x6), .val (.int 3), .val (.ref b32), .val (.ref b33), .val (.ref b34), .val (.int ((((0 : Int32) + x2) + x3) + x4)), .unset, .unset, .unset] [(.int 3)])) (fun t k => XS.iload X40.here hx rfl (hb hby at_94) rfl k) ?_
    refine own_by (T' := T40) (g' := (mkF m 97 #[.val (.int x1), .val (.int x2), .val (.int x3), .val (.int x4), .val (.int x5), .val (.int x6), .val (.int 3), .val (.ref b32), .val (.ref b33), .val (.ref b34), .val (.int ((((0 : Int32) + x2) + x3) + x4)), .unset, .unset, .unset] [(.int 3), (.int 3)])) (fun t k => XS.iconst X40.here hx rfl (hb hby at_96) k) ?_
    refine own_by (T' := T40) (g' := (mkF m 118 #[.val (.int x1), .val (.int x2), .val (.int x3), .val (.int x4), .val (.int x5), .val (.int x6), .val (.int 3), .val (.ref b32), .val (.ref b33), .val (.ref b34), .val (.int ((((0 : Int32) + x2) + x3) + x4)), .unset, .unset, .unset] [])) (fun t k => XS.icmpYes X40.here hx rfl (pc0 := 97) (pc' := 118) rfl (hb hby at_97) rfl (flt (by decide)).2.2.2 (by decide) (by decide) k) ?_
    obtain ⟨T41, h41, X41, e41, E41, A41, D41, -, st41⟩ := newO X40 hx hZ hown (hw _ (own_m 2 rfl)) (hw _ (own_m 3 rfl)) (hw _ (own_m 4 rfl)) e40 (g := (mkF m 118 #[.val (.int x1), .val (.int x2), .val (.int x3), .val (.int x4), .val (.int x5), .val (.int x6), .val (.int 3), .val (.ref b32), .val (.ref b33), .val (.ref b34), .val (.int ((((0 : Int32) + x2) + x3) + x4)), .unset, .unset, .unset] [])) rfl (hb hby at_118) (by decide) (by decide)
    obtain ⟨b41, g41⟩ : ∃ z, z = h40.size := ⟨_, rfl⟩
    rw [← g41] at A41 D41 st41
    have ne_b32_b41 : b32 ≠ b41 := Nat.ne_of_lt (Nat.lt_of_lt_of_eq E_b32.lt g41.symm)
    have ne_b33_b41 : b33 ≠ b41 := Nat.ne_of_lt (Nat.lt_of_lt_of_eq E_b33.lt g41.symm)
    have ne_b34_b41 : b34 ≠ b41 := Nat.ne_of_lt (Nat.lt_of_lt_of_eq E_b34.lt g41.symm)
    have g_b41 : n0 ≤ b41 := Nat.le_trans Zle (Nat.le_of_eq g41.symm)
    have Zle := Nat.le_trans Zle E41.1
    have E_b32 := E_b32.ext E41
    have E_b33 := E_b33.ext E41
    have E_b34 := E_b34.ext E41
    have V_b34 := V_b34.ext E41
    have V_b33 := V_b33.ext E41
    have V_b32 := V_b32.ext E41
    have E_b41 := A41
    have F_step_b41 : Fld Z h41 b41 "com/example/firebreak/firebreak/core/MapStep" "step" "I" (.int 0) := D41 (Or.inr (hw _ (own_m 12 rfl))) (ty := .int) (by decide)
    have F_clusterIds_b41 : Fld Z h41 b41 "com/example/firebreak/firebreak/core/MapStep" "clusterIds" "[I" .null := D41 (Or.inr (hw _ (own_m 23 rfl))) (ty := (.array .int)) (by decide)
    have F_costs_b41 : Fld Z h41 b41 "com/example/firebreak/firebreak/core/MapStep" "costs" "[I" .null := D41 (Or.inr (hw _ (own_m 25 rfl))) (ty := (.array .int)) (by decide)
    have F_targeting_b41 : Fld Z h41 b41 "com/example/firebreak/firebreak/core/MapStep" "targeting" "[I" .null := D41 (Or.inr (hw _ (own_m 27 rfl))) (ty := (.array .int)) (by decide)
    have F_idle_b41 : Fld Z h41 b41 "com/example/firebreak/firebreak/core/MapStep" "idle" "I" (.int 0) := D41 (Or.inr (hw _ (own_m 29 rfl))) (ty := .int) (by decide)
    refine own_by (T' := T41) (g' := (mkF m 121 #[.val (.int x1), .val (.int x2), .val (.int x3), .val (.int x4), .val (.int x5), .val (.int x6), .val (.int 3), .val (.ref b32), .val (.ref b33), .val (.ref b34), .val (.int ((((0 : Int32) + x2) + x3) + x4)), .unset, .unset, .unset] [(.ref b41)])) (fun t k => st41 t k) ?_
    refine own_by (T' := T41) (g' := (mkF m 122 #[.val (.int x1), .val (.int x2), .val (.int x3), .val (.int x4), .val (.int x5), .val (.int x6), .val (.int 3), .val (.ref b32), .val (.ref b33), .val (.ref b34), .val (.int ((((0 : Int32) + x2) + x3) + x4)), .unset, .unset, .unset] [(.ref b41), (.ref b41)])) (fun t k => XS.dup X41.here hx rfl (hb hby at_121) rfl rfl k) ?_
    refine own_by (T' := T41) (g' := (mkF m 123 #[.val (.int x1), .val (.int x2), .val (.int x3), .val (.int x4), .val (.int x5), .val (.int x6), .val (.int 3), .val (.ref b32), .val (.ref b33), .val (.ref b34), .val (.int ((((0 : Int32) + x2) + x3) + x4)), .unset, .unset, .unset] [(.int x1), (.ref b41), (.ref b41)])) (fun t k => XS.iloadN X41.here hx rfl (hb hby at_122) rfl k) ?_
    refine own_by (T' := T41) (g' := (mkF m 125 #[.val (.int x1), .val (.int x2), .val (.int x3), .val (.int x4), .val (.int x5), .val (.int x6), .val (.int 3), .val (.ref b32), .val (.ref b33), .val (.ref b34), .val (.int ((((0 : Int32) + x2) + x3) + x4)), .unset, .unset, .unset] [(.ref b32), (.int x1), (.ref b41), (.ref b41)])) (fun t k => XS.aload X41.here hx rfl (hb hby at_123) rfl rfl k) ?_
    refine own_by (T' := T41) (g' := (mkF m 127 #[.val (.int x1), .val (.int x2), .val (.int x3), .val (.int x4), .val (.int x5), .val (.int x6), .val (.int 3), .val (.ref b32), .val (.ref b33), .val (.ref b34), .val (.int ((((0 : Int32) + x2) + x3) + x4)), .unset, .unset, .unset] [(.ref b33), (.ref b32), (.int x1), (.ref b41), (.ref b41)])) (fun t k => XS.aload X41.here hx rfl (hb hby at_125) rfl rfl k) ?_
    refine own_by (T' := T41) (g' := (mkF m 129 #[.val (.int x1), .val (.int x2), .val (.int x3), .val (.int x4), .val (.int x5), .val (.int x6), .val (.int 3), .val (.ref b32), .val (.ref b33), .val (.ref b34), .val (.int ((((0 : Int32) + x2) + x3) + x4)), .unset, .unset, .unset] [(.ref b34), (.ref b33), (.ref b32), (.int x1), (.ref b41), (.ref b41)])) (fun t k => XS.aload X41.here hx rfl (hb hby at_127) rfl rfl k) ?_
    refine own_by (T' := T41) (g' := (mkF m 131 #[.val (.int x1), .val (.int x2), .val (.int x3), .val (.int x4), .val (.int x5), .val (.int x6), .val (.int 3), .val (.ref b32), .val (.ref b33), .val (.ref b34), .val (.int ((((0 : Int32) + x2) + x3) + x4)), .unset, .unset, .unset] [(.int x6), (.ref b34), (.ref b33), (.ref b32), (.int x1), (.ref b41), (.ref b41)])) (fun t k => XS.iload X41.here hx rfl (hb hby at_129) rfl k) ?_
    have lt_b32_42 := E_b32.lt
    have lt_b33_42 := E_b33.lt
    have lt_b34_42 := E_b34.lt
    have lt_b41_42 := E_b41.lt
    have Zpre42 := Zle
    obtain ⟨_, _, ⟨T42, L42, k42, n42⟩, -, X42, ⟨Lc42, hQ42, l42, y42, z42⟩, st42⟩ := X41.specialBack hx (y := (⟨"com/example/firebreak/firebreak/core/MapStep", "<init>", "(I[I[I[II)V"⟩ : MethodName)) rfl hown (mvT hZ (hw _ (own_m 5 rfl))) (mvT hZ (hw _ (own_m 6 rfl))) (mvT hZ (hw _ (own_m 7 rfl))) (by decide) (backOf (W := 1) (rm1n3 l Z a0 hw [] b41 x1 b32 b33 b34 x6 k32 k33 k34 (0 : Int32) (1 : Int32) (2 : Int32) x2 x3 x4 (0 : Int32) (0 : Int32) (0 : Int32) h41 n0 Zle E_b41 g_b41 F_step_b41 F_clusterIds_b41 F_costs_b41 F_targeting_b41 F_idle_b41 V_b32 V_b33 V_b34 E_b32 E_b33 E_b34 (ne_b32_b41) (ne_b33_b41) (ne_b34_b41)) hZ (hw _ (own_m 7 rfl)) (hw _ (own_m 4 rfl)) (by decide) (by decide)) (g := (mkF m 131 #[.val (.int x1), .val (.int x2), .val (.int x3), .val (.int x4), .val (.int x5), .val (.int x6), .val (.int 3), .val (.ref b32), .val (.ref b33), .val (.ref b34), .val (.int ((((0 : Int32) + x2) + x3) + x4)), .unset, .unset, .unset] [(.int x6), (.ref b34), (.ref b33), (.ref b32), (.int x1), (.ref b41), (.ref b41)])) rfl (by rw [hml]; rfl) (Steps.refl _) (a := b41) (argsL := [(.int x1), (.ref b32), (.ref b33), (.ref b34), (.int x6)]) (rest := [(.ref b41)]) (lenOf pd_0 rfl) rfl (own_le rfl) (hb hby at_131) (fun _ _ => ⟨rfl, e41, (by decide : 4 + 3 ≤ _), (by decide : 14 + 9 ≤ _)⟩)
    dsimp only [Pt.U, Pt.locs, Pt.cells, Pt.slots] at X42 l42 y42 z42 st42 hQ42
    subst l42 y42 z42
    obtain ⟨t2_42, rfl, Nq42, c42_0, c42_1, c42_2, c42_3, c42_4⟩ := hQ42
    have N_ := Fr.app N_ Nq42
    have Zle := Nat.le_trans Zle c42_0.1
    have E_b32 := E_b32.keep c42_0
    have E_b33 := E_b33.keep c42_0
    have E_b34 := E_b34.keep c42_0
    have V_b34 := V_b34.keep c42_0 (ninS ne_b34_b41 nin0)
    have V_b33 := V_b33.keep c42_0 (ninS ne_b33_b41 nin0)
    have V_b32 := V_b32.keep c42_0 (ninS ne_b32_b41 nin0)
    have E_b41 := E_b41.keep c42_0
    have ne_b32_t2_42 : b32 ≠ t2_42 := Nat.ne_of_lt (Nat.lt_of_lt_of_le lt_b32_42 c42_2)
    have ne_b33_t2_42 : b33 ≠ t2_42 := Nat.ne_of_lt (Nat.lt_of_lt_of_le lt_b33_42 c42_2)
    have ne_b34_t2_42 : b34 ≠ t2_42 := Nat.ne_of_lt (Nat.lt_of_lt_of_le lt_b34_42 c42_2)
    have ne_b41_t2_42 : b41 ≠ t2_42 := Nat.ne_of_lt (Nat.lt_of_lt_of_le lt_b41_42 c42_2)
    have g_t2_42 : n0 ≤ t2_42 := Nat.le_trans Zpre42 c42_2
    refine own_by (T' := T42) (g' := (mkF m 134 #[.val (.int x1), .val (.int x2), .val (.int x3), .val (.int x4), .val (.int x5), .val (.int x6), .val (.int 3), .val (.ref b32), .val (.ref b33), .val (.ref b34), .val (.int ((((0 : Int32) + x2) + x3) + x4)), .unset, .unset, .unset] [(.ref b41)])) (fun t k => st42.trans k) ?_
    refine own_by (T' := T42) (g' := (mkF m 136 #[.val (.int x1), .val (.int x2), .val (.int x3), .val (.int x4), .val (.int x5), .val (.int x6), .val (.int 3), .val (.ref b32), .val (.ref b33), .val (.ref b34), .val (.int ((((0 : Int32) + x2) + x3) + x4)), .val (.ref b41), .unset, .unset] [])) (fun t k => XS.astore X42.here hx rfl (hb hby at_134) rfl rfl (l' := #[.val (.int x1), .val (.int x2), .val (.int x3), .val (.int x4), .val (.int x5), .val (.int x6), .val (.int 3), .val (.ref b32), .val (.ref b33), .val (.ref b34), .val (.int ((((0 : Int32) + x2) + x3) + x4)), .val (.ref b41), .unset, .unset]) rfl k) ?_
    refine own_by (T' := T42) (g' := (mkF m 138 #[.val (.int x1), .val (.int x2), .val (.int x3), .val (.int x4), .val (.int x5), .val (.int x6), .val (.int 3), .val (.ref b32), .val (.ref b33), .val (.ref b34), .val (.int ((((0 : Int32) + x2) + x3) + x4)), .val (.ref b41), .unset, .unset] [(.ref b41)])) (fun t k => XS.aload X42.here hx rfl (hb hby at_136) rfl rfl k) ?_
    obtain ⟨cq43, kq43, q43a, q43b, q43c⟩ := isOf hZ rfl c42_1
    obtain ⟨_, _, ⟨T43, L43, k43, n43⟩, -, X43, ⟨Lc43, hQ43, l43, y43, z43⟩, st43⟩ := X42.virtualBack hx (y := (⟨"com/example/firebreak/firebreak/core/MapStep", "getBurning", "()I"⟩ : MethodName)) (z := (⟨"com/example/firebreak/firebreak/core/MapStep", "getBurning", "()I"⟩ : MethodName)) hown (mvT hZ (hw _ (own_m 30 rfl))) (mvT hZ (hw _ (own_m 31 rfl))) (notFace_of_selects (args := #[]) (mvT hZ (hw _ (own_m 33 rfl)))) (mvT hZ (hw _ (own_m 33 rfl))) (mvT hZ (hw _ (own_m 32 rfl))) (by decide) (backOf (W := 0) (rm3n3 l Z a0 hw [] b41 t2_42 k33 x2 x3 x4 T42.heap n0 Zle c42_3 c42_4) hZ (hw _ (own_m 34 rfl)) (hw _ (own_m 4 rfl)) (by decide) (by decide)) q43a q43c (g := (mkF m 138 #[.val (.int x1), .val (.int x2), .val (.int x3), .val (.int x4), .val (.int x5), .val (.int x6), .val (.int 3), .val (.ref b32), .val (.ref b33), .val (.ref b34), .val (.int ((((0 : Int32) + x2) + x3) + x4)), .val (.ref b41), .unset, .unset] [(.ref b41)])) rfl (by rw [hml]; rfl) (Steps.refl _) (argsL := []) (rest := []) (lenOf pd_3 rfl) rfl (own_le rfl) (hb hby at_138) (fun _ _ => ⟨rfl, rfl, (by decide : 7 + 0 ≤ _), (by decide : 23 + 0 ≤ _)⟩)
    dsimp only [Pt.U, Pt.locs, Pt.cells, Pt.slots] at X43 l43 y43 z43 st43 hQ43
    subst l43 y43 z43
    obtain ⟨rfl, Nq43, e43⟩ := hQ43
    have N_ := Fr.app N_ Nq43
    refine own_by (T' := T43) (g' := (mkF m 141 #[.val (.int x1), .val (.int x2), .val (.int x3), .val (.int x4), .val (.int x5), .val (.int x6), .val (.int 3), .val (.ref b32), .val (.ref b33), .val (.ref b34), .val (.int ((((0 : Int32) + x2) + x3) + x4)), .val (.ref b41), .unset, .unset] [(.int ((((0 : Int32) + x2) + x3) + x4))])) (fun t k => st43.trans k) ?_
    refine own_by (T' := T43) (g' := (mkF m 143 #[.val (.int x1), .val (.int x2), .val (.int x3), .val (.int x4), .val (.int x5), .val (.int x6), .val (.int 3), .val (.ref b32), .val (.ref b33), .val (.ref b34), .val (.int ((((0 : Int32) + x2) + x3) + x4)), .val (.ref b41), .val (.int ((((0 : Int32) + x2) + x3) + x4)), .unset] [])) (fun t k => XS.istore X43.here hx rfl (hb hby at_141) rfl (l' := #[.val (.int x1), .val (.int x2), .val (.int x3), .val (.int x4), .val (.int x5), .val (.int x6), .val (.int 3), .val (.ref b32), .val (.ref b33), .val (.ref b34), .val (.int ((((0 : Int32) + x2) + x3) + x4)), .val (.ref b41), .val (.int ((((0 : Int32) + x2) + x3) + x4)), .unset]) rfl k) ?_
    refine own_by (T' := T43) (g' := (mkF m 145 #[.val (.int x1), .val (.int x2), .val (.int x3), .val (.int x4), .val (.int x5), .val (.int x6), .val (.int 3), .val (.ref b32), .val (.ref b33), .val (.ref b34), .val (.int ((((0 : Int32) + x2) + x3) + x4)), .val (.ref b41), .val (.int ((((0 : Int32) + x2) + x3) + x4)), .unset] [(.int 3)])) (fun t k => XS.iload X43.here hx rfl (hb hby at_143) rfl k) ?_
    refine own_by (T' := T43) (g' := (mkF m 148 #[.val (.int x1), .val (.int x2), .val (.int x3), .val (.int x4), .val (.int x5), .val (.int x6), .val (.int 3), .val (.ref b32), .val (.ref b33), .val (.ref b34), .val (.int ((((0 : Int32) + x2) + x3) + x4)), .val (.ref b41), .val (.int ((((0 : Int32) + x2) + x3) + x4)), .unset] [])) (fun t k => XS.ifNo X43.here hx rfl (hb hby at_145) rfl ((if0 _ _).trans (tlt (by decide)).2.2.2) k) ?_
    refine own_by (T' := T43) (g' := (mkF m 150 #[.val (.int x1), .val (.int x2), .val (.int x3), .val (.int x4), .val (.int x5), .val (.int x6), .val (.int 3), .val (.ref b32), .val (.ref b33), .val (.ref b34), .val (.int ((((0 : Int32) + x2) + x3) + x4)), .val (.ref b41), .val (.int ((((0 : Int32) + x2) + x3) + x4)), .unset] [(.ref b33)])) (fun t k => XS.aload X43.here hx rfl (hb hby at_148) rfl rfl k) ?_
    refine own_by (T' := T43) (g' := (mkF m 151 #[.val (.int x1), .val (.int x2), .val (.int x3), .val (.int x4), .val (.int x5), .val (.int x6), .val (.int 3), .val (.ref b32), .val (.ref b33), .val (.ref b34), .val (.int ((((0 : Int32) + x2) + x3) + x4)), .val (.ref b41), .val (.int ((((0 : Int32) + x2) + x3) + x4)), .unset] [(.int 0), (.ref b33)])) (fun t k => XS.iconst X43.here hx rfl (hb hby at_150) k) ?_
    refine own_by (T' := T43) (g' := (mkF m 153 #[.val (.int x1), .val (.int x2), .val (.int x3), .val (.int x4), .val (.int x5), .val (.int x6), .val (.int 3), .val (.ref b32), .val (.ref b33), .val (.ref b34), .val (.int ((((0 : Int32) + x2) + x3) + x4)), .val (.ref b41), .val (.int ((((0 : Int32) + x2) + x3) + x4)), .unset] [(.ref b33), (.int 0), (.ref b33)])) (fun t k => XS.aload X43.here hx rfl (hb hby at_151) rfl rfl k) ?_
    refine own_by (T' := T43) (g' := (mkF m 154 #[.val (.int x1), .val (.int x2), .val (.int x3), .val (.int x4), .val (.int x5), .val (.int x6), .val (.int 3), .val (.ref b32), .val (.ref b33), .val (.ref b34), .val (.int ((((0 : Int32) + x2) + x3) + x4)), .val (.ref b41), .val (.int ((((0 : Int32) + x2) + x3) + x4)), .unset] [(.int 0), (.ref b33), (.int 0), (.ref b33)])) (fun t k => XS.iconst X43.here hx rfl (hb hby at_153) k) ?_
    obtain ⟨cl44, Ar44, q44, S44, N44, Hs44, G44⟩ := id V_b33
    have hin44 : ¬ ((0 : Int32) < 0 ∨ cl44.slots.size ≤ ((0 : Int32)).toNatClampNeg) := inb_of S44 ⟨by decide, by decide⟩
    have hat44 : cl44.slots[((0 : Int32)).toNatClampNeg]? = some (.int x2) := Hs44.at hin44 rfl
    refine own_by (T' := T43) (g' := (mkF m 155 #[.val (.int x1), .val (.int x2), .val (.int x3), .val (.int x4), .val (.int x5), .val (.int x6), .val (.int 3), .val (.ref b32), .val (.ref b33), .val (.ref b34), .val (.int ((((0 : Int32) + x2) + x3) + x4)), .val (.ref b41), .val (.int ((((0 : Int32) + x2) + x3) + x4)), .unset] [(.int x2), (.int 0), (.ref b33)])) (fun t k => X43.iaload hx (j := (0 : Int32)) (v := (.int x2)) (by rw [e43]; exact Ar44.1) (State.isArrayOf_alike hZ.alike Ar44.2.1) Ar44.2.2 hin44 hat44 (g := (mkF m 154 #[.val (.int x1), .val (.int x2), .val (.int x3), .val (.int x4), .val (.int x5), .val (.int x6), .val (.int 3), .val (.ref b32), .val (.ref b33), .val (.ref b34), .val (.int ((((0 : Int32) + x2) + x3) + x4)), .val (.ref b41), .val (.int ((((0 : Int32) + x2) + x3) + x4)), .unset] [(.int 0), (.ref b33), (.int 0), (.ref b33)])) rfl rfl (hb hby at_154) _ k) ?_
    refine own_by (T' := T43) (g' := (mkF m 156 #[.val (.int x1), .val (.int x2), .val (.int x3), .val (.int x4), .val (.int x5), .val (.int x6), .val (.int 3), .val (.ref b32), .val (.ref b33), .val (.ref b34), .val (.int ((((0 : Int32) + x2) + x3) + x4)), .val (.ref b41), .val (.int ((((0 : Int32) + x2) + x3) + x4)), .unset] [(.int 1), (.int x2), (.int 0), (.ref b33)])) (fun t k => XS.iconst X43.here hx rfl (hb hby at_155) k) ?_
    refine own_by (T' := T43) (g' := (mkF m 157 #[.val (.int x1), .val (.int x2), .val (.int x3), .val (.int x4), .val (.int x5), .val (.int x6), .val (.int 3), .val (.ref b32), .val (.ref b33), .val (.ref b34), .val (.int ((((0 : Int32) + x2) + x3) + x4)), .val (.ref b41), .val (.int ((((0 : Int32) + x2) + x3) + x4)), .unset] [(.int (x2 ^^^ (1 : Int32))), (.int 0), (.ref b33)])) (fun t k => XS.ixor X43.here hx rfl (hb hby at_156) rfl k) ?_
    obtain ⟨cl45, Ar45, q45, S45, N45, Hs45, G45⟩ := id V_b33
    have hin45 : ¬ ((0 : Int32) < 0 ∨ cl45.slots.size ≤ ((0 : Int32)).toNatClampNeg) := inb_of S45 ⟨by decide, by decide⟩
    obtain ⟨T45, h45, X45, e45, W45, st45⟩ := stI X43 hx hZ e43 Ar45 (j := (0 : Int32)) hin45 (g := (mkF m 157 #[.val (.int x1), .val (.int x2), .val (.int x3), .val (.int x4), .val (.int x5), .val (.int x6), .val (.int 3), .val (.ref b32), .val (.ref b33), .val (.ref b34), .val (.int ((((0 : Int32) + x2) + x3) + x4)), .val (.ref b41), .val (.int ((((0 : Int32) + x2) + x3) + x4)), .unset] [(.int (x2 ^^^ (1 : Int32))), (.int 0), (.ref b33)])) rfl rfl (hb hby at_157)
    have V_b33_ : Arv Z h45 b33 k33 .int (3 : Int32) [(.int (x2 ^^^ (1 : Int32))), (.int x3), (.int x4)] (.int 0) := Arv.set Ar45 q45 S45 N45 Hs45 G45 rfl W45 0 rfl (Nat.le_of_ble_eq_true rfl)
    have Zle := Nat.le_trans Zle (Keep.of_wr W45).1
    have E_b32 := E_b32.wr W45
    have E_b33 := E_b33.wr W45
    have E_b34 := E_b34.wr W45
    have V_b34 := V_b34.other W45 ne_b33_b34.symm
    have V_b32 := V_b32.other W45 ne_b32_b33
    have c42_1 := c42_1.wr W45
    have c42_3 := c42_3.other W45 (Or.inl ne_b33_b41.symm)
    have c42_4 := c42_4.other W45 ne_b33_t2_42.symm
    have V_b33 := V_b33_
    have N_ := Fr.snoc X45 N_ g_b33
    refine own_by (T' := T45) (g' := (mkF m 158 #[.val (.int x1), .val (.int x2), .val (.int x3), .val (.int x4), .val (.int x5), .val (.int x6), .val (.int 3), .val (.ref b32), .val (.ref b33), .val (.ref b34), .val (.int ((((0 : Int32) + x2) + x3) + x4)), .val (.ref b41), .val (.int ((((0 : Int32) + x2) + x3) + x4)), .unset] [])) (fun t k => st45 t k) ?_
    refine own_by (T' := T45) (g' := (mkF m 160 #[.val (.int x1), .val (.int x2), .val (.int x3), .val (.int x4), .val (.int x5), .val (.int x6), .val (.int 3), .val (.ref b32), .val (.ref b33), .val (.ref b34), .val (.int ((((0 : Int32) + x2) + x3) + x4)), .val (.ref b41), .val (.int ((((0 : Int32) + x2) + x3) + x4)), .unset] [(.ref b41)])) (fun t k => XS.aload X45.here hx rfl (hb hby at_158) rfl rfl k) ?_
    obtain ⟨cq46, kq46, q46a, q46b, q46c⟩ := isOf hZ e45 c42_1
    obtain ⟨_, _, ⟨T46, L46, k46, n46⟩, -, X46, ⟨Lc46, hQ46, l46, y46, z46⟩, st46⟩ := X45.virtualBack hx (y := (⟨"com/example/firebreak/firebreak/core/MapStep", "getBurning", "()I"⟩ : MethodName)) (z := (⟨"com/example/firebreak/firebreak/core/MapStep", "getBurning", "()I"⟩ : MethodName)) hown (mvT hZ (hw _ (own_m 30 rfl))) (mvT hZ (hw _ (own_m 31 rfl))) (notFace_of_selects (args := #[]) (mvT hZ (hw _ (own_m 33 rfl)))) (mvT hZ (hw _ (own_m 33 rfl))) (mvT hZ (hw _ (own_m 32 rfl))) (by decide) (backOf (W := 0) (rm3n3 l Z a0 hw [] b41 t2_42 k33 x2 x3 x4 h45 n0 Zle c42_3 c42_4) hZ (hw _ (own_m 34 rfl)) (hw _ (own_m 4 rfl)) (by decide) (by decide)) q46a q46c (g := (mkF m 160 #[.val (.int x1), .val (.int x2), .val (.int x3), .val (.int x4), .val (.int x5), .val (.int x6), .val (.int 3), .val (.ref b32), .val (.ref b33), .val (.ref b34), .val (.int ((((0 : Int32) + x2) + x3) + x4)), .val (.ref b41), .val (.int ((((0 : Int32) + x2) + x3) + x4)), .unset] [(.ref b41)])) rfl (by rw [hml]; rfl) (Steps.refl _) (argsL := []) (rest := []) (lenOf pd_3 rfl) rfl (own_le rfl) (hb hby at_160) (fun _ _ => ⟨rfl, e45, (by decide : 7 + 0 ≤ _), (by decide : 23 + 0 ≤ _)⟩)
    dsimp only [Pt.U, Pt.locs, Pt.cells, Pt.slots] at X46 l46 y46 z46 st46 hQ46
    subst l46 y46 z46
    obtain ⟨rfl, Nq46, e46⟩ := hQ46
    have N_ := Fr.app N_ Nq46
    refine own_by (T' := T46) (g' := (mkF m 163 #[.val (.int x1), .val (.int x2), .val (.int x3), .val (.int x4), .val (.int x5), .val (.int x6), .val (.int 3), .val (.ref b32), .val (.ref b33), .val (.ref b34), .val (.int ((((0 : Int32) + x2) + x3) + x4)), .val (.ref b41), .val (.int ((((0 : Int32) + x2) + x3) + x4)), .unset] [(.int ((((0 : Int32) + x2) + x3) + x4))])) (fun t k => st46.trans k) ?_
    refine own_by (T' := T46) (g' := (mkF m 165 #[.val (.int x1), .val (.int x2), .val (.int x3), .val (.int x4), .val (.int x5), .val (.int x6), .val (.int 3), .val (.ref b32), .val (.ref b33), .val (.ref b34), .val (.int ((((0 : Int32) + x2) + x3) + x4)), .val (.ref b41), .val (.int ((((0 : Int32) + x2) + x3) + x4)), .val (.int ((((0 : Int32) + x2) + x3) + x4))] [])) (fun t k => XS.istore X46.here hx rfl (hb hby at_163) rfl (l' := #[.val (.int x1), .val (.int x2), .val (.int x3), .val (.int x4), .val (.int x5), .val (.int x6), .val (.int 3), .val (.ref b32), .val (.ref b33), .val (.ref b34), .val (.int ((((0 : Int32) + x2) + x3) + x4)), .val (.ref b41), .val (.int ((((0 : Int32) + x2) + x3) + x4)), .val (.int ((((0 : Int32) + x2) + x3) + x4))]) rfl k) ?_
    refine own_by (T' := T46) (g' := (mkF m 167 #[.val (.int x1), .val (.int x2), .val (.int x3), .val (.int x4), .val (.int x5), .val (.int x6), .val (.int 3), .val (.ref b32), .val (.ref b33), .val (.ref b34), .val (.int ((((0 : Int32) + x2) + x3) + x4)), .val (.ref b41), .val (.int ((((0 : Int32) + x2) + x3) + x4)), .val (.int ((((0 : Int32) + x2) + x3) + x4))] [(.int ((((0 : Int32) + x2) + x3) + x4))])) (fun t k => XS.iload X46.here hx rfl (hb hby at_165) rfl k) ?_
    refine own_by (T' := T46) (g' := (mkF m 169 #[.val (.int x1), .val (.int x2), .val (.int x3), .val (.int x4), .val (.int x5), .val (.int x6), .val (.int 3), .val (.ref b32), .val (.ref b33), .val (.ref b34), .val (.int ((((0 : Int32) + x2) + x3) + x4)), .val (.ref b41), .val (.int ((((0 : Int32) + x2) + x3) + x4)), .val (.int ((((0 : Int32) + x2) + x3) + x4))] [(.int ((((0 : Int32) + x2) + x3) + x4)), (.int ((((0 : Int32) + x2) + x3) + x4))])) (fun t k => XS.iload X46.here hx rfl (hb hby at_167) rfl k) ?_
    refine own_by (T' := T46) (g' := (mkF m 172 #[.val (.int x1), .val (.int x2), .val (.int x3), .val (.int x4), .val (.int x5), .val (.int x6), .val (.int 3), .val (.ref b32), .val (.ref b33), .val (.ref b34), .val (.int ((((0 : Int32) + x2) + x3) + x4)), .val (.ref b41), .val (.int ((((0 : Int32) + x2) + x3) + x4)), .val (.int ((((0 : Int32) + x2) + x3) + x4))] [])) (fun t k => XS.icmpNo X46.here hx rfl (hb hby at_169) rfl (teq (rfl : ((((0 : Int32) + x2) + x3) + x4) = ((((0 : Int32) + x2) + x3) + x4))).2 k) ?_
    refine own_by (T' := T46) (g' := (mkF m 174 #[.val (.int x1), .val (.int x2), .val (.int x3), .val (.int x4), .val (.int x5), .val (.int x6), .val (.int 3), .val (.ref b32), .val (.ref b33), .val (.ref b34), .val (.int ((((0 : Int32) + x2) + x3) + x4)), .val (.ref b41), .val (.int ((((0 : Int32) + x2) + x3) + x4)), .val (.int ((((0 : Int32) + x2) + x3) + x4))] [(.int ((((0 : Int32) + x2) + x3) + x4))])) (fun t k => XS.iload X46.here hx rfl (hb hby at_172) rfl k) ?_
    refine own_by (T' := T46) (g' := (mkF m 176 #[.val (.int x1), .val (.int x2), .val (.int x3), .val (.int x4), .val (.int x5), .val (.int x6), .val (.int 3), .val (.ref b32), .val (.ref b33), .val (.ref b34), .val (.int ((((0 : Int32) + x2) + x3) + x4)), .val (.ref b41), .val (.int ((((0 : Int32) + x2) + x3) + x4)), .val (.int ((((0 : Int32) + x2) + x3) + x4))] [(.int ((((0 : Int32) + x2) + x3) + x4)), (.int ((((0 : Int32) + x2) + x3) + x4))])) (fun t k => XS.iload X46.here hx rfl (hb hby at_174) rfl k) ?_
    refine own_by (T' := T46) (g' := (mkF m 179 #[.val (.int x1), .val (.int x2), .val (.int x3), .val (.int x4), .val (.int x5), .val (.int x6), .val (.int 3), .val (.ref b32), .val (.ref b33), .val (.ref b34), .val (.int ((((0 : Int32) + x2) + x3) + x4)), .val (.ref b41), .val (.int ((((0 : Int32) + x2) + x3) + x4)), .val (.int ((((0 : Int32) + x2) + x3) + x4))] [])) (fun t k => XS.icmpNo X46.here hx rfl (hb hby at_176) rfl (teq (rfl : ((((0 : Int32) + x2) + x3) + x4) = ((((0 : Int32) + x2) + x3) + x4))).2 k) ?_
    refine own_by (T' := T46) (g' := (mkF m 180 #[.val (.int x1), .val (.int x2), .val (.int x3), .val (.int x4), .val (.int x5), .val (.int x6), .val (.int 3), .val (.ref b32), .val (.ref b33), .val (.ref b34), .val (.int ((((0 : Int32) + x2) + x3) + x4)), .val (.ref b41), .val (.int ((((0 : Int32) + x2) + x3) + x4)), .val (.int ((((0 : Int32) + x2) + x3) + x4))] [(.int 1)])) (fun t k => XS.iconst X46.here hx rfl (hb hby at_179) k) ?_
    refine own_by (T' := T46) (g' := (mkF m 184 #[.val (.int x1), .val (.int x2), .val (.int x3), .val (.int x4), .val (.int x5), .val (.int x6), .val (.int 3), .val (.ref b32), .val (.ref b33), .val (.ref b34), .val (.int ((((0 : Int32) + x2) + x3) + x4)), .val (.ref b41), .val (.int ((((0 : Int32) + x2) + x3) + x4)), .val (.int ((((0 : Int32) + x2) + x3) + x4))] [(.int 1)])) (fun t k => XS.goto X46.here hx rfl (pc0 := 180) (pc' := 184) rfl (hb hby at_180) (by decide) (by decide) k) ?_
    exact own_retN X46 hx (t := .boolean) Bd.notSynchronized Bd.returns (by simp) (hb hby at_184) (by decide) (by decide) (by rw [e46]; exact ⟨rfl, N_⟩)
  · rw [hk]
    refine own_by (T' := s₁) (g' := (mkF m 10 #[.val (.int x1), .val (.int x2), .val (.int x3), .val (.int x4), .val (.int x5), .val (.int x6), .val (.int 4), .unset, .unset, .unset, .unset, .unset, .unset, .unset] [(.int 4)])) (fun t k => XS.iload X0.here hx rfl (hb hby at_8) rfl k) ?_
    obtain ⟨T47, h47, k47, X47, e47, E47, A47, AE47, st47⟩ := newPE X0 hx hZ (hw _ (own_m 1 rfl)) e0 (g := (mkF m 10 #[.val (.int x1), .val (.int x2), .val (.int x3), .val (.int x4), .val (.int x5), .val (.int x6), .val (.int 4), .unset, .unset, .unset, .unset, .unset, .unset, .unset] [(.int 4)])) rfl (hb hby at_10) rfl (by decide) (cap := 4) (by decide) (by decide) (by decide) (by decide) (ad := "[I") (by decide)
    obtain ⟨b47, g47⟩ : ∃ z, z = h0.size := ⟨_, rfl⟩
    rw [← g47] at A47 AE47 st47
    have g_b47 : n0 ≤ b47 := Nat.le_trans Zle (Nat.le_of_eq g47.symm)
    have Zle := Nat.le_trans Zle E47.1
    have E_b47 := AE47
    have V_b47 : Arv Z h47 b47 k47 .int (4 : Int32) [(.int 0), (.int 0), (.int 0), (.int 0)] (.int 0) := (Arv.new A47 (by decide)).pad (pad_rep [] (.int 0) 4)
    refine own_by (T' := T47) (g' := (mkF m 12 #[.val (.int x1), .val (.int x2), .val (.int x3), .val (.int x4), .val (.int x5), .val (.int x6), .val (.int 4), .unset, .unset, .unset, .unset, .unset, .unset, .unset] [(.ref b47)])) (fun t k => st47 t k) ?_
    refine own_by (T' := T47) (g' := (mkF m 14 #[.val (.int x1), .val (.int x2), .val (.int x3), .val (.int x4), .val (.int x5), .val (.int x6), .val (.int 4), .val (.ref b47), .unset, .unset, .unset, .unset, .unset, .unset] [])) (fun t k => XS.astore X47.here hx rfl (hb hby at_12) rfl rfl (l' := #[.val (.int x1), .val (.int x2), .val (.int x3), .val (.int x4), .val (.int x5), .val (.int x6), .val (.int 4), .val (.ref b47), .unset, .unset, .unset, .unset, .unset, .unset]) rfl k) ?_
    refine own_by (T' := T47) (g' := (mkF m 16 #[.val (.int x1), .val (.int x2), .val (.int x3), .val (.int x4), .val (.int x5), .val (.int x6), .val (.int 4), .val (.ref b47), .unset, .unset, .unset, .unset, .unset, .unset] [(.int 4)])) (fun t k => XS.iload X47.here hx rfl (hb hby at_14) rfl k) ?_
    obtain ⟨T48, h48, k48, X48, e48, E48, A48, AE48, st48⟩ := newPE X47 hx hZ (hw _ (own_m 1 rfl)) e47 (g := (mkF m 16 #[.val (.int x1), .val (.int x2), .val (.int x3), .val (.int x4), .val (.int x5), .val (.int x6), .val (.int 4), .val (.ref b47), .unset, .unset, .unset, .unset, .unset, .unset] [(.int 4)])) rfl (hb hby at_16) rfl (by decide) (cap := 4) (by decide) (by decide) (by decide) (by decide) (ad := "[I") (by decide)
    obtain ⟨b48, g48⟩ : ∃ z, z = h47.size := ⟨_, rfl⟩
    rw [← g48] at A48 AE48 st48
    have ne_b47_b48 : b47 ≠ b48 := Nat.ne_of_lt (Nat.lt_of_lt_of_eq E_b47.lt g48.symm)
    have g_b48 : n0 ≤ b48 := Nat.le_trans Zle (Nat.le_of_eq g48.symm)
    have Zle := Nat.le_trans Zle E48.1
    have E_b47 := E_b47.ext E48
    have V_b47 := V_b47.ext E48
    have E_b48 := AE48
    have V_b48 : Arv Z h48 b48 k48 .int (4 : Int32) [(.int 0), (.int 0), (.int 0), (.int 0)] (.int 0) := (Arv.new A48 (by decide)).pad (pad_rep [] (.int 0) 4)
    refine own_by (T' := T48) (g' := (mkF m 18 #[.val (.int x1), .val (.int x2), .val (.int x3), .val (.int x4), .val (.int x5), .val (.int x6), .val (.int 4), .val (.ref b47), .unset, .unset, .unset, .unset, .unset, .unset] [(.ref b48)])) (fun t k => st48 t k) ?_
    refine own_by (T' := T48) (g' := (mkF m 20 #[.val (.int x1), .val (.int x2), .val (.int x3), .val (.int x4), .val (.int x5), .val (.int x6), .val (.int 4), .val (.ref b47), .val (.ref b48), .unset, .unset, .unset, .unset, .unset] [])) (fun t k => XS.astore X48.here hx rfl (hb hby at_18) rfl rfl (l' := #[.val (.int x1), .val (.int x2), .val (.int x3), .val (.int x4), .val (.int x5), .val (.int x6), .val (.int 4), .val (.ref b47), .val (.ref b48), .unset, .unset, .unset, .unset, .unset]) rfl k) ?_
    refine own_by (T' := T48) (g' := (mkF m 22 #[.val (.int x1), .val (.int x2), .val (.int x3), .val (.int x4), .val (.int x5), .val (.int x6), .val (.int 4), .val (.ref b47), .val (.ref b48), .unset, .unset, .unset, .unset, .unset] [(.int 4)])) (fun t k => XS.iload X48.here hx rfl (hb hby at_20) rfl k) ?_
    obtain ⟨T49, h49, k49, X49, e49, E49, A49, AE49, st49⟩ := newPE X48 hx hZ (hw _ (own_m 1 rfl)) e48 (g := (mkF m 22 #[.val (.int x1), .val (.int x2), .val (.int x3), .val (.int x4), .val (.int x5), .val (.int x6), .val (.int 4), .val (.ref b47), .val (.ref b48), .unset, .unset, .unset, .unset, .unset] [(.int 4)])) rfl (hb hby at_22) rfl (by decide) (cap := 4) (by decide) (by decide) (by decide) (by decide) (ad := "[I") (by decide)
    obtain ⟨b49, g49⟩ : ∃ z, z = h48.size := ⟨_, rfl⟩
    rw [← g49] at A49 AE49 st49
    have ne_b47_b49 : b47 ≠ b49 := Nat.ne_of_lt (Nat.lt_of_lt_of_eq E_b47.lt g49.symm)
    have ne_b48_b49 : b48 ≠ b49 := Nat.ne_of_lt (Nat.lt_of_lt_of_eq E_b48.lt g49.symm)
    have g_b49 : n0 ≤ b49 := Nat.le_trans Zle (Nat.le_of_eq g49.symm)
    have Zle := Nat.le_trans Zle E49.1
    have E_b47 := E_b47.ext E49
    have V_b47 := V_b47.ext E49
    have E_b48 := E_b48.ext E49
    have V_b48 := V_b48.ext E49
    have E_b49 := AE49
    have V_b49 : Arv Z h49 b49 k49 .int (4 : Int32) [(.int 0), (.int 0), (.int 0), (.int 0)] (.int 0) := (Arv.new A49 (by decide)).pad (pad_rep [] (.int 0) 4)
    refine own_by (T' := T49) (g' := (mkF m 24 #[.val (.int x1), .val (.int x2), .val (.int x3), .val (.int x4), .val (.int x5), .val (.int x6), .val (.int 4), .val (.ref b47), .val (.ref b48), .unset, .unset, .unset, .unset, .unset] [(.ref b49)])) (fun t k => st49 t k) ?_
    refine own_by (T' := T49) (g' := (mkF m 26 #[.val (.int x1), .val (.int x2), .val (.int x3), .val (.int x4), .val (.int x5), .val (.int x6), .val (.int 4), .val (.ref b47), .val (.ref b48), .val (.ref b49), .unset, .unset, .unset, .unset] [])) (fun t k => XS.astore X49.here hx rfl (hb hby at_24) rfl rfl (l' := #[.val (.int x1), .val (.int x2), .val (.int x3), .val (.int x4), .val (.int x5), .val (.int x6), .val (.int 4), .val (.ref b47), .val (.ref b48), .val (.ref b49), .unset, .unset, .unset, .unset]) rfl k) ?_
    refine own_by (T' := T49) (g' := (mkF m 27 #[.val (.int x1), .val (.int x2), .val (.int x3), .val (.int x4), .val (.int x5), .val (.int x6), .val (.int 4), .val (.ref b47), .val (.ref b48), .val (.ref b49), .unset, .unset, .unset, .unset] [(.int 0)])) (fun t k => XS.iconst X49.here hx rfl (hb hby at_26) k) ?_
    refine own_by (T' := T49) (g' := (mkF m 29 #[.val (.int x1), .val (.int x2), .val (.int x3), .val (.int x4), .val (.int x5), .val (.int x6), .val (.int 4), .val (.ref b47), .val (.ref b48), .val (.ref b49), .val (.int 0), .unset, .unset, .unset] [])) (fun t k => XS.istore X49.here hx rfl (hb hby at_27) rfl (l' := #[.val (.int x1), .val (.int x2), .val (.int x3), .val (.int x4), .val (.int x5), .val (.int x6), .val (.int 4), .val (.ref b47), .val (.ref b48), .val (.ref b49), .val (.int 0), .unset, .unset, .unset]) rfl k) ?_
    refine own_by (T' := T49) (g' := (mkF m 31 #[.val (.int x1), .val (.int x2), .val (.int x3), .val (.int x4), .val (.int x5), .val (.int x6), .val (.int 4), .val (.ref b47), .val (.ref b48), .val (.ref b49), .val (.int 0), .unset, .unset, .unset] [(.int 4)])) (fun t k => XS.iload X49.here hx rfl (hb hby at_29) rfl k) ?_
    refine own_by (T' := T49) (g' := (mkF m 34 #[.val (.int x1), .val (.int x2), .val (.int x3), .val (.int x4), .val (.int x5), .val (.int x6), .val (.int 4), .val (.ref b47), .val (.ref b48), .val (.ref b49), .val (.int 0), .unset, .unset, .unset] [])) (fun t k => XS.ifNo X49.here hx rfl (hb hby at_31) rfl ((if0 _ _).trans (tlt (by decide)).2.2.2) k) ?_
    refine own_by (T' := T49) (g' := (mkF m 36 #[.val (.int x1), .val (.int x2), .val (.int x3), .val (.int x4), .val (.int x5), .val (.int x6), .val (.int 4), .val (.ref b47), .val (.ref b48), .val (.ref b49), .val (.int 0), .unset, .unset, .unset] [(.ref b48)])) (fun t k => XS.aload X49.here hx rfl (hb hby at_34) rfl rfl k) ?_
    refine own_by (T' := T49) (g' := (mkF m 37 #[.val (.int x1), .val (.int x2), .val (.int x3), .val (.int x4), .val (.int x5), .val (.int x6), .val (.int 4), .val (.ref b47), .val (.ref b48), .val (.ref b49), .val (.int 0), .unset, .unset, .unset] [(.int 0), (.ref b48)])) (fun t k => XS.iconst X49.here hx rfl (hb hby at_36) k) ?_
    refine own_by (T' := T49) (g' := (mkF m 38 #[.val (.int x1), .val (.int x2), .val (.int x3), .val (.int x4), .val (.int x5), .val (.int x6), .val (.int 4), .val (.ref b47), .val (.ref b48), .val (.ref b49), .val (.int 0), .unset, .unset, .unset] [(.int x2), (.int 0), (.ref b48)])) (fun t k => XS.iloadN X49.here hx rfl (hb hby at_37) rfl k) ?_
    obtain ⟨cl50, Ar50, q50, S50, N50, Hs50, G50⟩ := id V_b48
    have hin50 : ¬ ((0 : Int32) < 0 ∨ cl50.slots.size ≤ ((0 : Int32)).toNatClampNeg) := inb_of S50 ⟨by decide, by decide⟩
    obtain ⟨T50, h50, X50, e50, W50, st50⟩ := stI X49 hx hZ e49 Ar50 (j := (0 : Int32)) hin50 (g := (mkF m 38 #[.val (.int x1), .val (.int x2), .val (.int x3), .val (.int x4), .val (.int x5), .val (.int x6), .val (.int 4), .val (.ref b47), .val (.ref b48), .val (.ref b49), .val (.int 0), .unset, .unset, .unset] [(.int x2), (.int 0), (.ref b48)])) rfl rfl (hb hby at_38)
    have V_b48_ : Arv Z h50 b48 k48 .int (4 : Int32) [(.int x2), (.int 0), (.int 0), (.int 0)] (.int 0) := Arv.set Ar50 q50 S50 N50 Hs50 G50 rfl W50 0 rfl (Nat.le_of_ble_eq_true rfl)
    have Zle := Nat.le_trans Zle (Keep.of_wr W50).1
    have E_b47 := E_b47.wr W50
    have V_b47 := V_b47.other W50 ne_b47_b48
    have E_b48 := E_b48.wr W50
    have E_b49 := E_b49.wr W50
    have V_b49 := V_b49.other W50 ne_b48_b49.symm
    have V_b48 := V_b48_
    have N_ := Fr.snoc X50 N_ g_b48
    refine own_by (T' := T50) (g' := (mkF m 39 #[.val (.int x1), .val (.int x2), .val (.int x3), .val (.int x4), .val (.int x5), .val (.int x6), .val (.int 4), .val (.ref b47), .val (.ref b48), .val (.ref b49), .val (.int 0), .unset, .unset, .unset] [])) (fun t k => st50 t k) ?_
    refine own_by (T' := T50) (g' := (mkF m 41 #[.val (.int x1), .val (.int x2), .val (.int x3), .val (.int x4), .val (.int x5), .val (.int x6), .val (.int 4), .val (.ref b47), .val (.ref b48), .val (.ref b49), .val (.int 0), .unset, .unset, .unset] [(.ref b47)])) (fun t k => XS.aload X50.here hx rfl (hb hby at_39) rfl rfl k) ?_
    refine own_by (T' := T50) (g' := (mkF m 42 #[.val (.int x1), .val (.int x2), .val (.int x3), .val (.int x4), .val (.int x5), .val (.int x6), .val (.int 4), .val (.ref b47), .val (.ref b48), .val (.ref b49), .val (.int 0), .unset, .unset, .unset] [(.int 0), (.ref b47)])) (fun t k => XS.iconst X50.here hx rfl (hb hby at_41) k) ?_
    refine own_by (T' := T50) (g' := (mkF m 43 #[.val (.int x1), .val (.int x2), .val (.int x3), .val (.int x4), .val (.int x5), .val (.int x6), .val (.int 4), .val (.ref b47), .val (.ref b48), .val (.ref b49), .val (.int 0), .unset, .unset, .unset] [(.int 0), (.int 0), (.ref b47)])) (fun t k => XS.iconst X50.here hx rfl (hb hby at_42) k) ?_
    obtain ⟨cl51, Ar51, q51, S51, N51, Hs51, G51⟩ := id V_b47
    have hin51 : ¬ ((0 : Int32) < 0 ∨ cl51.slots.size ≤ ((0 : Int32)).toNatClampNeg) := inb_of S51 ⟨by decide, by decide⟩
    obtain ⟨T51, h51, X51, e51, W51, st51⟩ := stI X50 hx hZ e50 Ar51 (j := (0 : Int32)) hin51 (g := (mkF m 43 #[.val (.int x1), .val (.int x2), .val (.int x3), .val (.int x4), .val (.int x5), .val (.int x6), .val (.int 4), .val (.ref b47), .val (.ref b48), .val (.ref b49), .val (.int 0), .unset, .unset, .unset] [(.int 0), (.int 0), (.ref b47)])) rfl rfl (hb hby at_43)
    have V_b47_ : Arv Z h51 b47 k47 .int (4 : Int32) [(.int 0), (.int 0), (.int 0), (.int 0)] (.int 0) := Arv.set Ar51 q51 S51 N51 Hs51 G51 rfl W51 0 rfl (Nat.le_of_ble_eq_true rfl)
    have Zle := Nat.le_trans Zle (Keep.of_wr W51).1
    have E_b47 := E_b47.wr W51
    have E_b48 := E_b48.wr W51
    have E_b49 := E_b49.wr W51
    have V_b49 := V_b49.other W51 ne_b47_b49.symm
    have V_b48 := V_b48.other W51 ne_b47_b48.symm
    have V_b47 := V_b47_
    have N_ := Fr.snoc X51 N_ g_b47
    refine own_by (T' := T51) (g' := (mkF m 44 #[.val (.int x1), .val (.int x2), .val (.int x3), .val (.int x4), .val (.int x5), .val (.int x6), .val (.int 4), .val (.ref b47), .val (.ref b48), .val (.ref b49), .val (.int 0), .unset, .unset, .unset] [])) (fun t k => st51 t k) ?_
    refine own_by (T' := T51) (g' := (mkF m 46 #[.val (.int x1), .val (.int x2), .val (.int x3), .val (.int x4), .val (.int x5), .val (.int x6), .val (.int 4), .val (.ref b47), .val (.ref b48), .val (.ref b49), .val (.int 0), .unset, .unset, .unset] [(.int 0)])) (fun t k => XS.iload X51.here hx rfl (hb hby at_44) rfl k) ?_
    refine own_by (T' := T51) (g' := (mkF m 47 #[.val (.int x1), .val (.int x2), .val (.int x3), .val (.int x4), .val (.int x5), .val (.int x6), .val (.int 4), .val (.ref b47), .val (.ref b48), .val (.ref b49), .val (.int 0), .unset, .unset, .unset] [(.int x2), (.int 0)])) (fun t k => XS.iloadN X51.here hx rfl (hb hby at_46) rfl k) ?_
    refine own_by (T' := T51) (g' := (mkF m 48 #[.val (.int x1), .val (.int x2), .val (.int x3), .val (.int x4), .val (.int x5), .val (.int x6), .val (.int 4), .val (.ref b47), .val (.ref b48), .val (.ref b49), .val (.int 0), .unset, .unset, .unset] [(.int ((0 : Int32) + x2))])) (fun t k => XS.iadd X51.here hx rfl (hb hby at_47) rfl k) ?_
    refine own_by (T' := T51) (g' := (mkF m 50 #[.val (.int x1), .val (.int x2), .val (.int x3), .val (.int x4), .val (.int x5), .val (.int x6), .val (.int 4), .val (.ref b47), .val (.ref b48), .val (.ref b49), .val (.int ((0 : Int32) + x2)), .unset, .unset, .unset] [])) (fun t k => XS.istore X51.here hx rfl (hb hby at_48) rfl (l' := #[.val (.int x1), .val (.int x2), .val (.int x3), .val (.int x4), .val (.int x5), .val (.int x6), .val (.int 4), .val (.ref b47), .val (.ref b48), .val (.ref b49), .val (.int ((0 : Int32) + x2)), .unset, .unset, .unset]) rfl k) ?_
    refine own_by (T' := T51) (g' := (mkF m 52 #[.val (.int x1), .val (.int x2), .val (.int x3), .val (.int x4), .val (.int x5), .val (.int x6), .val (.int 4), .val (.ref b47), .val (.ref b48), .val (.ref b49), .val (.int ((0 : Int32) + x2)), .unset, .unset, .unset] [(.int 4)])) (fun t k => XS.iload X51.here hx rfl (hb hby at_50) rfl k) ?_
    refine own_by (T' := T51) (g' := (mkF m 53 #[.val (.int x1), .val (.int x2), .val (.int x3), .val (.int x4), .val (.int x5), .val (.int x6), .val (.int 4), .val (.ref b47), .val (.ref b48), .val (.ref b49), .val (.int ((0 : Int32) + x2)), .unset, .unset, .unset] [(.int 1), (.int 4)])) (fun t k => XS.iconst X51.here hx rfl (hb hby at_52) k) ?_
    refine own_by (T' := T51) (g' := (mkF m 56 #[.val (.int x1), .val (.int x2), .val (.int x3), .val (.int x4), .val (.int x5), .val (.int x6), .val (.int 4), .val (.ref b47), .val (.ref b48), .val (.ref b49), .val (.int ((0 : Int32) + x2)), .unset, .unset, .unset] [])) (fun t k => XS.icmpNo X51.here hx rfl (hb hby at_53) rfl (tlt (by decide)).2.2.2 k) ?_
    refine own_by (T' := T51) (g' := (mkF m 58 #[.val (.int x1), .val (.int x2), .val (.int x3), .val (.int x4), .val (.int x5), .val (.int x6), .val (.int 4), .val (.ref b47), .val (.ref b48), .val (.ref b49), .val (.int ((0 : Int32) + x2)), .unset, .unset, .unset] [(.ref b48)])) (fun t k => XS.aload X51.here hx rfl (hb hby at_56) rfl rfl k) ?_
    refine own_by (T' := T51) (g' := (mkF m 59 #[.val (.int x1), .val (.int x2), .val (.int x3), .val (.int x4), .val (.int x5), .val (.int x6), .val (.int 4), .val (.ref b47), .val (.ref b48), .val (.ref b49), .val (.int ((0 : Int32) + x2)), .unset, .unset, .unset] [(.int 1), (.ref b48)])) (fun t k => XS.iconst X51.here hx rfl (hb hby at_58) k) ?_
    refine own_by (T' := T51) (g' := (mkF m 60 #[.val (.int x1), .val (.int x2), .val (.int x3), .val (.int x4), .val (.int x5), .val (.int x6), .val (.int 4), .val (.ref b47), .val (.ref b48), .val (.ref b49), .val (.int ((0 : Int32) + x2)), .unset, .unset, .unset] [(.int x3), (.int 1), (.ref b48)])) (fun t k => XS.iloadN X51.here hx rfl (hb hby at_59) rfl k) ?_
    obtain ⟨cl52, Ar52, q52, S52, N52, Hs52, G52⟩ := id V_b48
    have hin52 : ¬ ((1 : Int32) < 0 ∨ cl52.slots.size ≤ ((1 : Int32)).toNatClampNeg) := inb_of S52 ⟨by decide, by decide⟩
    obtain ⟨T52, h52, X52, e52, W52, st52⟩ := stI X51 hx hZ e51 Ar52 (j := (1 : Int32)) hin52 (g := (mkF m 60 #[.val (.int x1), .val (.int x2), .val (.int x3), .val (.int x4), .val (.int x5), .val (.int x6), .val (.int 4), .val (.ref b47), .val (.ref b48), .val (.ref b49), .val (.int ((0 : Int32) + x2)), .unset, .unset, .unset] [(.int x3), (.int 1), (.ref b48)])) rfl rfl (hb hby at_60)
    have V_b48_ : Arv Z h52 b48 k48 .int (4 : Int32) [(.int x2), (.int x3), (.int 0), (.int 0)] (.int 0) := Arv.set Ar52 q52 S52 N52 Hs52 G52 rfl W52 1 rfl (Nat.le_of_ble_eq_true rfl)
    have Zle := Nat.le_trans Zle (Keep.of_wr W52).1
    have E_b47 := E_b47.wr W52
    have E_b48 := E_b48.wr W52
    have E_b49 := E_b49.wr W52
    have V_b49 := V_b49.other W52 ne_b48_b49.symm
    have V_b47 := V_b47.other W52 ne_b47_b48
    have V_b48 := V_b48_
    have N_ := Fr.snoc X52 N_ g_b48
    refine own_by (T' := T52) (g' := (mkF m 61 #[.val (.int x1), .val (.int x2), .val (.int x3), .val (.int x4), .val (.int x5), .val (.int x6), .val (.int 4), .val (.ref b47), .val (.ref b48), .val (.ref b49), .val (.int ((0 : Int32) + x2)), .unset, .unset, .unset] [])) (fun t k => st52 t k) ?_
    refine own_by (T' := T52) (g' := (mkF m 63 #[.val (.int x1), .val (.int x2), .val (.int x3), .val (.int x4), .val (.int x5), .val (.int x6), .val (.int 4), .val (.ref b47), .val (.ref b48), .val (.ref b49), .val (.int ((0 : Int32) + x2)), .unset, .unset, .unset] [(.ref b47)])) (fun t k => XS.aload X52.here hx rfl (hb hby at_61) rfl rfl k) ?_
    refine own_by (T' := T52) (g' := (mkF m 64 #[.val (.int x1), .val (.int x2), .val (.int x3), .val (.int x4), .val (.int x5), .val (.int x6), .val (.int 4), .val (.ref b47), .val (.ref b48), .val (.ref b49), .val (.int ((0 : Int32) + x2)), .unset, .unset, .unset] [(.int 1), (.ref b47)])) (fun t k => XS.iconst X52.here hx rfl (hb hby at_63) k) ?_
    refine own_by (T' := T52) (g' := (mkF m 65 #[.val (.int x1), .val (.int x2), .val (.int x3), .val (.int x4), .val (.int x5), .val (.int x6), .val (.int 4), .val (.ref b47), .val (.ref b48), .val (.ref b49), .val (.int ((0 : Int32) + x2)), .unset, .unset, .unset] [(.int 1), (.int 1), (.ref b47)])) (fun t k => XS.iconst X52.here hx rfl (hb hby at_64) k) ?_
    obtain ⟨cl53, Ar53, q53, S53, N53, Hs53, G53⟩ := id V_b47
    have hin53 : ¬ ((1 : Int32) < 0 ∨ cl53.slots.size ≤ ((1 : Int32)).toNatClampNeg) := inb_of S53 ⟨by decide, by decide⟩
    obtain ⟨T53, h53, X53, e53, W53, st53⟩ := stI X52 hx hZ e52 Ar53 (j := (1 : Int32)) hin53 (g := (mkF m 65 #[.val (.int x1), .val (.int x2), .val (.int x3), .val (.int x4), .val (.int x5), .val (.int x6), .val (.int 4), .val (.ref b47), .val (.ref b48), .val (.ref b49), .val (.int ((0 : Int32) + x2)), .unset, .unset, .unset] [(.int 1), (.int 1), (.ref b47)])) rfl rfl (hb hby at_65)
    have V_b47_ : Arv Z h53 b47 k47 .int (4 : Int32) [(.int 0), (.int 1), (.int 0), (.int 0)] (.int 0) := Arv.set Ar53 q53 S53 N53 Hs53 G53 rfl W53 1 rfl (Nat.le_of_ble_eq_true rfl)
    have Zle := Nat.le_trans Zle (Keep.of_wr W53).1
    have E_b47 := E_b47.wr W53
    have E_b48 := E_b48.wr W53
    have E_b49 := E_b49.wr W53
    have V_b49 := V_b49.other W53 ne_b47_b49.symm
    have V_b48 := V_b48.other W53 ne_b47_b48.symm
    have V_b47 := V_b47_
    have N_ := Fr.snoc X53 N_ g_b47
    refine own_by (T' := T53) (g' := (mkF m 66 #[.val (.int x1), .val (.int x2), .val (.int x3), .val (.int x4), .val (.int x5), .val (.int x6), .val (.int 4), .val (.ref b47), .val (.ref b48), .val (.ref b49), .val (.int ((0 : Int32) + x2)), .unset, .unset, .unset] [])) (fun t k => st53 t k) ?_
    refine own_by (T' := T53) (g' := (mkF m 68 #[.val (.int x1), .val (.int x2), .val (.int x3), .val (.int x4), .val (.int x5), .val (.int x6), .val (.int 4), .val (.ref b47), .val (.ref b48), .val (.ref b49), .val (.int ((0 : Int32) + x2)), .unset, .unset, .unset] [(.int ((0 : Int32) + x2))])) (fun t k => XS.iload X53.here hx rfl (hb hby at_66) rfl k) ?_
    refine own_by (T' := T53) (g' := (mkF m 69 #[.val (.int x1), .val (.int x2), .val (.int x3), .val (.int x4), .val (.int x5), .val (.int x6), .val (.int 4), .val (.ref b47), .val (.ref b48), .val (.ref b49), .val (.int ((0 : Int32) + x2)), .unset, .unset, .unset] [(.int x3), (.int ((0 : Int32) + x2))])) (fun t k => XS.iloadN X53.here hx rfl (hb hby at_68) rfl k) ?_
    refine own_by (T' := T53) (g' := (mkF m 70 #[.val (.int x1), .val (.int x2), .val (.int x3), .val (.int x4), .val (.int x5), .val (.int x6), .val (.int 4), .val (.ref b47), .val (.ref b48), .val (.ref b49), .val (.int ((0 : Int32) + x2)), .unset, .unset, .unset] [(.int (((0 : Int32) + x2) + x3))])) (fun t k => XS.iadd X53.here hx rfl (hb hby at_69) rfl k) ?_
    refine own_by (T' := T53) (g' := (mkF m 72 #[.val (.int x1), .val (.int x2), .val (.int x3), .val (.int x4), .val (.int x5), .val (.int x6), .val (.int 4), .val (.ref b47), .val (.ref b48), .val (.ref b49), .val (.int (((0 : Int32) + x2) + x3)), .unset, .unset, .unset] [])) (fun t k => XS.istore X53.here hx rfl (hb hby at_70) rfl (l' := #[.val (.int x1), .val (.int x2), .val (.int x3), .val (.int x4), .val (.int x5), .val (.int x6), .val (.int 4), .val (.ref b47), .val (.ref b48), .val (.ref b49), .val (.int (((0 : Int32) + x2) + x3)), .unset, .unset, .unset]) rfl k) ?_
    refine own_by (T' := T53) (g' := (mkF m 74 #[.val (.int x1), .val (.int x2), .val (.int x3), .val (.int x4), .val (.int x5), .val (.int x6), .val (.int 4), .val (.ref b47), .val (.ref b48), .val (.ref b49), .val (.int (((0 : Int32) + x2) + x3)), .unset, .unset, .unset] [(.int 4)])) (fun t k => XS.iload X53.here hx rfl (hb hby at_72) rfl k) ?_
    refine own_by (T' := T53) (g' := (mkF m 75 #[.val (.int x1), .val (.int x2), .val (.int x3), .val (.int x4), .val (.int x5), .val (.int x6), .val (.int 4), .val (.ref b47), .val (.ref b48), .val (.ref b49), .val (.int (((0 : Int32) + x2) + x3)), .unset, .unset, .unset] [(.int 2), (.int 4)])) (fun t k => XS.iconst X53.here hx rfl (hb hby at_74) k) ?_
    refine own_by (T' := T53) (g' := (mkF m 78 #[.val (.int x1), .val (.int x2), .val (.int x3), .val (.int x4), .val (.int x5), .val (.int x6), .val (.int 4), .val (.ref b47), .val (.ref b48), .val (.ref b49), .val (.int (((0 : Int32) + x2) + x3)), .unset, .unset, .unset] [])) (fun t k => XS.icmpNo X53.here hx rfl (hb hby at_75) rfl (tlt (by decide)).2.2.2 k) ?_
    refine own_by (T' := T53) (g' := (mkF m 80 #[.val (.int x1), .val (.int x2), .val (.int x3), .val (.int x4), .val (.int x5), .val (.int x6), .val (.int 4), .val (.ref b47), .val (.ref b48), .val (.ref b49), .val (.int (((0 : Int32) + x2) + x3)), .unset, .unset, .unset] [(.ref b48)])) (fun t k => XS.aload X53.here hx rfl (hb hby at_78) rfl rfl k) ?_
    refine own_by (T' := T53) (g' := (mkF m 81 #[.val (.int x1), .val (.int x2), .val (.int x3), .val (.int x4), .val (.int x5), .val (.int x6), .val (.int 4), .val (.ref b47), .val (.ref b48), .val (.ref b49), .val (.int (((0 : Int32) + x2) + x3)), .unset, .unset, .unset] [(.int 2), (.ref b48)])) (fun t k => XS.iconst X53.here hx rfl (hb hby at_80) k) ?_
    refine own_by (T' := T53) (g' := (mkF m 82 #[.val (.int x1), .val (.int x2), .val (.int x3), .val (.int x4), .val (.int x5), .val (.int x6), .val (.int 4), .val (.ref b47), .val (.ref b48), .val (.ref b49), .val (.int (((0 : Int32) + x2) + x3)), .unset, .unset, .unset] [(.int x4), (.int 2), (.ref b48)])) (fun t k => XS.iloadN X53.here hx rfl (hb hby at_81) rfl k) ?_
    obtain ⟨cl54, Ar54, q54, S54, N54, Hs54, G54⟩ := id V_b48
    have hin54 : ¬ ((2 : Int32) < 0 ∨ cl54.slots.size ≤ ((2 : Int32)).toNatClampNeg) := inb_of S54 ⟨by decide, by decide⟩
    obtain ⟨T54, h54, X54, e54, W54, st54⟩ := stI X53 hx hZ e53 Ar54 (j := (2 : Int32)) hin54 (g := (mkF m 82 #[.val (.int x1), .val (.int x2), .val (.int x3), .val (.int x4), .val (.int x5), .val (.int x6), .val (.int 4), .val (.ref b47), .val (.ref b48), .val (.ref b49), .val (.int (((0 : Int32) + x2) + x3)), .unset, .unset, .unset] [(.int x4), (.int 2), (.ref b48)])) rfl rfl (hb hby at_82)
    have V_b48_ : Arv Z h54 b48 k48 .int (4 : Int32) [(.int x2), (.int x3), (.int x4), (.int 0)] (.int 0) := Arv.set Ar54 q54 S54 N54 Hs54 G54 rfl W54 2 rfl (Nat.le_of_ble_eq_true rfl)
    have Zle := Nat.le_trans Zle (Keep.of_wr W54).1
    have E_b47 := E_b47.wr W54
    have E_b48 := E_b48.wr W54
    have E_b49 := E_b49.wr W54
    have V_b49 := V_b49.other W54 ne_b48_b49.symm
    have V_b47 := V_b47.other W54 ne_b47_b48
    have V_b48 := V_b48_
    have N_ := Fr.snoc X54 N_ g_b48
    refine own_by (T' := T54) (g' := (mkF m 83 #[.val (.int x1), .val (.int x2), .val (.int x3), .val (.int x4), .val (.int x5), .val (.int x6), .val (.int 4), .val (.ref b47), .val (.ref b48), .val (.ref b49), .val (.int (((0 : Int32) + x2) + x3)), .unset, .unset, .unset] [])) (fun t k => st54 t k) ?_
    refine own_by (T' := T54) (g' := (mkF m 85 #[.val (.int x1), .val (.int x2), .val (.int x3), .val (.int x4), .val (.int x5), .val (.int x6), .val (.int 4), .val (.ref b47), .val (.ref b48), .val (.ref b49), .val (.int (((0 : Int32) + x2) + x3)), .unset, .unset, .unset] [(.ref b47)])) (fun t k => XS.aload X54.here hx rfl (hb hby at_83) rfl rfl k) ?_
    refine own_by (T' := T54) (g' := (mkF m 86 #[.val (.int x1), .val (.int x2), .val (.int x3), .val (.int x4), .val (.int x5), .val (.int x6), .val (.int 4), .val (.ref b47), .val (.ref b48), .val (.ref b49), .val (.int (((0 : Int32) + x2) + x3)), .unset, .unset, .unset] [(.int 2), (.ref b47)])) (fun t k => XS.iconst X54.here hx rfl (hb hby at_85) k) ?_
    refine own_by (T' := T54) (g' := (mkF m 87 #[.val (.int x1), .val (.int x2), .val (.int x3), .val (.int x4), .val (.int x5), .val (.int x6), .val (.int 4), .val (.ref b47), .val (.ref b48), .val (.ref b49), .val (.int (((0 : Int32) + x2) + x3)), .unset, .unset, .unset] [(.int 2), (.int 2), (.ref b47)])) (fun t k => XS.iconst X54.here hx rfl (hb hby at_86) k) ?_
    obtain ⟨cl55, Ar55, q55, S55, N55, Hs55, G55⟩ := id V_b47
    have hin55 : ¬ ((2 : Int32) < 0 ∨ cl55.slots.size ≤ ((2 : Int32)).toNatClampNeg) := inb_of S55 ⟨by decide, by decide⟩
    obtain ⟨T55, h55, X55, e55, W55, st55⟩ := stI X54 hx hZ e54 Ar55 (j := (2 : Int32)) hin55 (g := (mkF m 87 #[.val (.int x1), .val (.int x2), .val (.int x3), .val (.int x4), .val (.int x5), .val (.int x6), .val (.int 4), .val (.ref b47), .val (.ref b48), .val (.ref b49), .val (.int (((0 : Int32) + x2) + x3)), .unset, .unset, .unset] [(.int 2), (.int 2), (.ref b47)])) rfl rfl (hb hby at_87)
    have V_b47_ : Arv Z h55 b47 k47 .int (4 : Int32) [(.int 0), (.int 1), (.int 2), (.int 0)] (.int 0) := Arv.set Ar55 q55 S55 N55 Hs55 G55 rfl W55 2 rfl (Nat.le_of_ble_eq_true rfl)
    have Zle := Nat.le_trans Zle (Keep.of_wr W55).1
    have E_b47 := E_b47.wr W55
    have E_b48 := E_b48.wr W55
    have E_b49 := E_b49.wr W55
    have V_b49 := V_b49.other W55 ne_b47_b49.symm
    have V_b48 := V_b48.other W55 ne_b47_b48.symm
    have V_b47 := V_b47_
    have N_ := Fr.snoc X55 N_ g_b47
    refine own_by (T' := T55) (g' := (mkF m 88 #[.val (.int x1), .val (.int x2), .val (.int x3), .val (.int x4), .val (.int x5), .val (.int x6), .val (.int 4), .val (.ref b47), .val (.ref b48), .val (.ref b49), .val (.int (((0 : Int32) + x2) + x3)), .unset, .unset, .unset] [])) (fun t k => st55 t k) ?_
    refine own_by (T' := T55) (g' := (mkF m 90 #[.val (.int x1), .val (.int x2), .val (.int x3), .val (.int x4), .val (.int x5), .val (.int x6), .val (.int 4), .val (.ref b47), .val (.ref b48), .val (.ref b49), .val (.int (((0 : Int32) + x2) + x3)), .unset, .unset, .unset] [(.int (((0 : Int32) + x2) + x3))])) (fun t k => XS.iload X55.here hx rfl (hb hby at_88) rfl k) ?_
    refine own_by (T' := T55) (g' := (mkF m 91 #[.val (.int x1), .val (.int x2), .val (.int x3), .val (.int x4), .val (.int x5), .val (.int x6), .val (.int 4), .val (.ref b47), .val (.ref b48), .val (.ref b49), .val (.int (((0 : Int32) + x2) + x3)), .unset, .unset, .unset] [(.int x4), (.int (((0 : Int32) + x2) + x3))])) (fun t k => XS.iloadN X55.here hx rfl (hb hby at_90) rfl k) ?_
    refine own_by (T' := T55) (g' := (mkF m 92 #[.val (.int x1), .val (.int x2), .val (.int x3), .val (.int x4), .val (.int x5), .val (.int x6), .val (.int 4), .val (.ref b47), .val (.ref b48), .val (.ref b49), .val (.int (((0 : Int32) + x2) + x3)), .unset, .unset, .unset] [(.int ((((0 : Int32) + x2) + x3) + x4))])) (fun t k => XS.iadd X55.here hx rfl (hb hby at_91) rfl k) ?_
    refine own_by (T' := T55) (g' := (mkF m 94 #[.val (.int x1), .val (.int x2), .val (.int x3), .val (.int x4), .val (.int x5), .val (.int x6), .val (.int 4), .val (.ref b47), .val (.ref b48), .val (.ref b49), .val (.int ((((0 : Int32) + x2) + x3) + x4)), .unset, .unset, .unset] [])) (fun t k => XS.istore X55.here hx rfl (hb hby at_92) rfl (l' := #[.val (.int x1), .val (.int x2), .val (.int x3), .val (.int x4), .val (.int x5), .val (.int x6), .val (.int 4), .val (.ref b47), .val (.ref b48), .val (.ref b49), .val (.int ((((0 : Int32) + x2) + x3) + x4)), .unset, .unset, .unset]) rfl k) ?_
    refine own_by (T' := T55) (g' := (mkF m 96 #[.val (.int x1), .val (.int x2), .val (.int x3), .val (.int x4), .val (.int x5), .val (.int x6), .val (.int 4), .val (.ref b47), .val (.ref b48), .val (.ref b49), .val (.int ((((0 : Int32) + x2) + x3) + x4)), .unset, .unset, .unset] [(.int 4)])) (fun t k => XS.iload X55.here hx rfl (hb hby at_94) rfl k) ?_
    refine own_by (T' := T55) (g' := (mkF m 97 #[.val (.int x1), .val (.int x2), .val (.int x3), .val (.int x4), .val (.int x5), .val (.int x6), .val (.int 4), .val (.ref b47), .val (.ref b48), .val (.ref b49), .val (.int ((((0 : Int32) + x2) + x3) + x4)), .unset, .unset, .unset] [(.int 3), (.int 4)])) (fun t k => XS.iconst X55.here hx rfl (hb hby at_96) k) ?_
    refine own_by (T' := T55) (g' := (mkF m 100 #[.val (.int x1), .val (.int x2), .val (.int x3), .val (.int x4), .val (.int x5), .val (.int x6), .val (.int 4), .val (.ref b47), .val (.ref b48), .val (.ref b49), .val (.int ((((0 : Int32) + x2) + x3) + x4)), .unset, .unset, .unset] [])) (fun t k => XS.icmpNo X55.here hx rfl (hb hby at_97) rfl (tlt (by decide)).2.2.2 k) ?_
    refine own_by (T' := T55) (g' := (mkF m 102 #[.val (.int x1), .val (.int x2), .val (.int x3), .val (.int x4), .val (.int x5), .val (.int x6), .val (.int 4), .val (.ref b47), .val (.ref b48), .val (.ref b49), .val (.int ((((0 : Int32) + x2) + x3) + x4)), .unset, .unset, .unset] [(.ref b48)])) (fun t k => XS.aload X55.here hx rfl (hb hby at_100) rfl rfl k) ?_
    refine own_by (T' := T55) (g' := (mkF m 103 #[.val (.int x1), .val (.int x2), .val (.int x3), .val (.int x4), .val (.int x5), .val (.int x6), .val (.int 4), .val (.ref b47), .val (.ref b48), .val (.ref b49), .val (.int ((((0 : Int32) + x2) + x3) + x4)), .unset, .unset, .unset] [(.int 3), (.ref b48)])) (fun t k => XS.iconst X55.here hx rfl (hb hby at_102) k) ?_
    refine own_by (T' := T55) (g' := (mkF m 105 #[.val (.int x1), .val (.int x2), .val (.int x3), .val (.int x4), .val (.int x5), .val (.int x6), .val (.int 4), .val (.ref b47), .val (.ref b48), .val (.ref b49), .val (.int ((((0 : Int32) + x2) + x3) + x4)), .unset, .unset, .unset] [(.int x5), (.int 3), (.ref b48)])) (fun t k => XS.iload X55.here hx rfl (hb hby at_103) rfl k) ?_
    obtain ⟨cl56, Ar56, q56, S56, N56, Hs56, G56⟩ := id V_b48
    have hin56 : ¬ ((3 : Int32) < 0 ∨ cl56.slots.size ≤ ((3 : Int32)).toNatClampNeg) := inb_of S56 ⟨by decide, by decide⟩
    obtain ⟨T56, h56, X56, e56, W56, st56⟩ := stI X55 hx hZ e55 Ar56 (j := (3 : Int32)) hin56 (g := (mkF m 105 #[.val (.int x1), .val (.int x2), .val (.int x3), .val (.int x4), .val (.int x5), .val (.int x6), .val (.int 4), .val (.ref b47), .val (.ref b48), .val (.ref b49), .val (.int ((((0 : Int32) + x2) + x3) + x4)), .unset, .unset, .unset] [(.int x5), (.int 3), (.ref b48)])) rfl rfl (hb hby at_105)
    have V_b48_ : Arv Z h56 b48 k48 .int (4 : Int32) [(.int x2), (.int x3), (.int x4), (.int x5)] (.int 0) := Arv.set Ar56 q56 S56 N56 Hs56 G56 rfl W56 3 rfl (Nat.le_of_ble_eq_true rfl)
    have Zle := Nat.le_trans Zle (Keep.of_wr W56).1
    have E_b47 := E_b47.wr W56
    have E_b48 := E_b48.wr W56
    have E_b49 := E_b49.wr W56
    have V_b49 := V_b49.other W56 ne_b48_b49.symm
    have V_b47 := V_b47.other W56 ne_b47_b48
    have V_b48 := V_b48_
    have N_ := Fr.snoc X56 N_ g_b48
    refine own_by (T' := T56) (g' := (mkF m 106 #[.val (.int x1), .val (.int x2), .val (.int x3), .val (.int x4), .val (.int x5), .val (.int x6), .val (.int 4), .val (.ref b47), .val (.ref b48), .val (.ref b49), .val (.int ((((0 : Int32) + x2) + x3) + x4)), .unset, .unset, .unset] [])) (fun t k => st56 t k) ?_
    refine own_by (T' := T56) (g' := (mkF m 108 #[.val (.int x1), .val (.int x2), .val (.int x3), .val (.int x4), .val (.int x5), .val (.int x6), .val (.int 4), .val (.ref b47), .val (.ref b48), .val (.ref b49), .val (.int ((((0 : Int32) + x2) + x3) + x4)), .unset, .unset, .unset] [(.ref b47)])) (fun t k => XS.aload X56.here hx rfl (hb hby at_106) rfl rfl k) ?_
    refine own_by (T' := T56) (g' := (mkF m 109 #[.val (.int x1), .val (.int x2), .val (.int x3), .val (.int x4), .val (.int x5), .val (.int x6), .val (.int 4), .val (.ref b47), .val (.ref b48), .val (.ref b49), .val (.int ((((0 : Int32) + x2) + x3) + x4)), .unset, .unset, .unset] [(.int 3), (.ref b47)])) (fun t k => XS.iconst X56.here hx rfl (hb hby at_108) k) ?_
    refine own_by (T' := T56) (g' := (mkF m 110 #[.val (.int x1), .val (.int x2), .val (.int x3), .val (.int x4), .val (.int x5), .val (.int x6), .val (.int 4), .val (.ref b47), .val (.ref b48), .val (.ref b49), .val (.int ((((0 : Int32) + x2) + x3) + x4)), .unset, .unset, .unset] [(.int 3), (.int 3), (.ref b47)])) (fun t k => XS.iconst X56.here hx rfl (hb hby at_109) k) ?_
    obtain ⟨cl57, Ar57, q57, S57, N57, Hs57, G57⟩ := id V_b47
    have hin57 : ¬ ((3 : Int32) < 0 ∨ cl57.slots.size ≤ ((3 : Int32)).toNatClampNeg) := inb_of S57 ⟨by decide, by decide⟩
    obtain ⟨T57, h57, X57, e57, W57, st57⟩ := stI X56 hx hZ e56 Ar57 (j := (3 : Int32)) hin57 (g := (mkF m 110 #[.val (.int x1), .val (.int x2), .val (.int x3), .val (.int x4), .val (.int x5), .val (.int x6), .val (.int 4), .val (.ref b47), .val (.ref b48), .val (.ref b49), .val (.int ((((0 : Int32) + x2) + x3) + x4)), .unset, .unset, .unset] [(.int 3), (.int 3), (.ref b47)])) rfl rfl (hb hby at_110)
    have V_b47_ : Arv Z h57 b47 k47 .int (4 : Int32) [(.int 0), (.int 1), (.int 2), (.int 3)] (.int 0) := Arv.set Ar57 q57 S57 N57 Hs57 G57 rfl W57 3 rfl (Nat.le_of_ble_eq_true rfl)
    have Zle := Nat.le_trans Zle (Keep.of_wr W57).1
    have E_b47 := E_b47.wr W57
    have E_b48 := E_b48.wr W57
    have E_b49 := E_b49.wr W57
    have V_b49 := V_b49.other W57 ne_b47_b49.symm
    have V_b48 := V_b48.other W57 ne_b47_b48.symm
    have V_b47 := V_b47_
    have N_ := Fr.snoc X57 N_ g_b47
    refine own_by (T' := T57) (g' := (mkF m 111 #[.val (.int x1), .val (.int x2), .val (.int x3), .val (.int x4), .val (.int x5), .val (.int x6), .val (.int 4), .val (.ref b47), .val (.ref b48), .val (.ref b49), .val (.int ((((0 : Int32) + x2) + x3) + x4)), .unset, .unset, .unset] [])) (fun t k => st57 t k) ?_
    refine own_by (T' := T57) (g' := (mkF m 113 #[.val (.int x1), .val (.int x2), .val (.int x3), .val (.int x4), .val (.int x5), .val (.int x6), .val (.int 4), .val (.ref b47), .val (.ref b48), .val (.ref b49), .val (.int ((((0 : Int32) + x2) + x3) + x4)), .unset, .unset, .unset] [(.int ((((0 : Int32) + x2) + x3) + x4))])) (fun t k => XS.iload X57.here hx rfl (hb hby at_111) rfl k) ?_
    refine own_by (T' := T57) (g' := (mkF m 115 #[.val (.int x1), .val (.int x2), .val (.int x3), .val (.int x4), .val (.int x5), .val (.int x6), .val (.int 4), .val (.ref b47), .val (.ref b48), .val (.ref b49), .val (.int ((((0 : Int32) + x2) + x3) + x4)), .unset, .unset, .unset] [(.int x5), (.int ((((0 : Int32) + x2) + x3) + x4))])) (fun t k => XS.iload X57.here hx rfl (hb hby at_113) rfl k) ?_
    refine own_by (T' := T57) (g' := (mkF m 116 #[.val (.int x1), .val (.int x2), .val (.int x3), .val (.int x4), .val (.int x5), .val (.int x6), .val (.int 4), .val (.ref b47), .val (.ref b48), .val (.ref b49), .val (.int ((((0 : Int32) + x2) + x3) + x4)), .unset, .unset, .unset] [(.int (((((0 : Int32) + x2) + x3) + x4) + x5))])) (fun t k => XS.iadd X57.here hx rfl (hb hby at_115) rfl k) ?_
    refine own_by (T' := T57) (g' := (mkF m 118 #[.val (.int x1), .val (.int x2), .val (.int x3), .val (.int x4), .val (.int x5), .val (.int x6), .val (.int 4), .val (.ref b47), .val (.ref b48), .val (.ref b49), .val (.int (((((0 : Int32) + x2) + x3) + x4) + x5)), .unset, .unset, .unset] [])) (fun t k => XS.istore X57.here hx rfl (hb hby at_116) rfl (l' := #[.val (.int x1), .val (.int x2), .val (.int x3), .val (.int x4), .val (.int x5), .val (.int x6), .val (.int 4), .val (.ref b47), .val (.ref b48), .val (.ref b49), .val (.int (((((0 : Int32) + x2) + x3) + x4) + x5)), .unset, .unset, .unset]) rfl k) ?_
    obtain ⟨T58, h58, X58, e58, E58, A58, D58, -, st58⟩ := newO X57 hx hZ hown (hw _ (own_m 2 rfl)) (hw _ (own_m 3 rfl)) (hw _ (own_m 4 rfl)) e57 (g := (mkF m 118 #[.val (.int x1), .val (.int x2), .val (.int x3), .val (.int x4), .val (.int x5), .val (.int x6), .val (.int 4), .val (.ref b47), .val (.ref b48), .val (.ref b49), .val (.int (((((0 : Int32) + x2) + x3) + x4) + x5)), .unset, .unset, .unset] [])) rfl (hb hby at_118) (by decide) (by decide)
    obtain ⟨b58, g58⟩ : ∃ z, z = h57.size := ⟨_, rfl⟩
    rw [← g58] at A58 D58 st58
    have ne_b47_b58 : b47 ≠ b58 := Nat.ne_of_lt (Nat.lt_of_lt_of_eq E_b47.lt g58.symm)
    have ne_b48_b58 : b48 ≠ b58 := Nat.ne_of_lt (Nat.lt_of_lt_of_eq E_b48.lt g58.symm)
    have ne_b49_b58 : b49 ≠ b58 := Nat.ne_of_lt (Nat.lt_of_lt_of_eq E_b49.lt g58.symm)
    have g_b58 : n0 ≤ b58 := Nat.le_trans Zle (Nat.le_of_eq g58.symm)
    have Zle := Nat.le_trans Zle E58.1
    have E_b47 := E_b47.ext E58
    have E_b48 := E_b48.ext E58
    have E_b49 := E_b49.ext E58
    have V_b49 := V_b49.ext E58
    have V_b48 := V_b48.ext E58
    have V_b47 := V_b47.ext E58
    have E_b58 := A58
    have F_step_b58 : Fld Z h58 b58 "com/example/firebreak/firebreak/core/MapStep" "step" "I" (.int 0) := D58 (Or.inr (hw _ (own_m 12 rfl))) (ty := .int) (by decide)
    have F_clusterIds_b58 : Fld Z h58 b58 "com/example/firebreak/firebreak/core/MapStep" "clusterIds" "[I" .null := D58 (Or.inr (hw _ (own_m 23 rfl))) (ty := (.array .int)) (by decide)
    have F_costs_b58 : Fld Z h58 b58 "com/example/firebreak/firebreak/core/MapStep" "costs" "[I" .null := D58 (Or.inr (hw _ (own_m 25 rfl))) (ty := (.array .int)) (by decide)
    have F_targeting_b58 : Fld Z h58 b58 "com/example/firebreak/firebreak/core/MapStep" "targeting" "[I" .null := D58 (Or.inr (hw _ (own_m 27 rfl))) (ty := (.array .int)) (by decide)
    have F_idle_b58 : Fld Z h58 b58 "com/example/firebreak/firebreak/core/MapStep" "idle" "I" (.int 0) := D58 (Or.inr (hw _ (own_m 29 rfl))) (ty := .int) (by decide)
    refine own_by (T' := T58) (g' := (mkF m 121 #[.val (.int x1), .val (.int x2), .val (.int x3), .val (.int x4), .val (.int x5), .val (.int x6), .val (.int 4), .val (.ref b47), .val (.ref b48), .val (.ref b49), .val (.int (((((0 : Int32) + x2) + x3) + x4) + x5)), .unset, .unset, .unset] [(.ref b58)])) (fun t k => st58 t k) ?_
    refine own_by (T' := T58) (g' := (mkF m 122 #[.val (.int x1), .val (.int x2), .val (.int x3), .val (.int x4), .val (.int x5), .val (.int x6), .val (.int 4), .val (.ref b47), .val (.ref b48), .val (.ref b49), .val (.int (((((0 : Int32) + x2) + x3) + x4) + x5)), .unset, .unset, .unset] [(.ref b58), (.ref b58)])) (fun t k => XS.dup X58.here hx rfl (hb hby at_121) rfl rfl k) ?_
    refine own_by (T' := T58) (g' := (mkF m 123 #[.val (.int x1), .val (.int x2), .val (.int x3), .val (.int x4), .val (.int x5), .val (.int x6), .val (.int 4), .val (.ref b47), .val (.ref b48), .val (.ref b49), .val (.int (((((0 : Int32) + x2) + x3) + x4) + x5)), .unset, .unset, .unset] [(.int x1), (.ref b58), (.ref b58)])) (fun t k => XS.iloadN X58.here hx rfl (hb hby at_122) rfl k) ?_
    refine own_by (T' := T58) (g' := (mkF m 125 #[.val (.int x1), .val (.int x2), .val (.int x3), .val (.int x4), .val (.int x5), .val (.int x6), .val (.int 4), .val (.ref b47), .val (.ref b48), .val (.ref b49), .val (.int (((((0 : Int32) + x2) + x3) + x4) + x5)), .unset, .unset, .unset] [(.ref b47), (.int x1), (.ref b58), (.ref b58)])) (fun t k => XS.aload X58.here hx rfl (hb hby at_123) rfl rfl k) ?_
    refine own_by (T' := T58) (g' := (mkF m 127 #[.val (.int x1), .val (.int x2), .val (.int x3), .val (.int x4), .val (.int x5), .val (.int x6), .val (.int 4), .val (.ref b47), .val (.ref b48), .val (.ref b49), .val (.int (((((0 : Int32) + x2) + x3) + x4) + x5)), .unset, .unset, .unset] [(.ref b48), (.ref b47), (.int x1), (.ref b58), (.ref b58)])) (fun t k => XS.aload X58.here hx rfl (hb hby at_125) rfl rfl k) ?_
    refine own_by (T' := T58) (g' := (mkF m 129 #[.val (.int x1), .val (.int x2), .val (.int x3), .val (.int x4), .val (.int x5), .val (.int x6), .val (.int 4), .val (.ref b47), .val (.ref b48), .val (.ref b49), .val (.int (((((0 : Int32) + x2) + x3) + x4) + x5)), .unset, .unset, .unset] [(.ref b49), (.ref b48), (.ref b47), (.int x1), (.ref b58), (.ref b58)])) (fun t k => XS.aload X58.here hx rfl (hb hby at_127) rfl rfl k) ?_
    refine own_by (T' := T58) (g' := (mkF m 131 #[.val (.int x1), .val (.int x2), .val (.int x3), .val (.int x4), .val (.int x5), .val (.int x6), .val (.int 4), .val (.ref b47), .val (.ref b48), .val (.ref b49), .val (.int (((((0 : Int32) + x2) + x3) + x4) + x5)), .unset, .unset, .unset] [(.int x6), (.ref b49), (.ref b48), (.ref b47), (.int x1), (.ref b58), (.ref b58)])) (fun t k => XS.iload X58.here hx rfl (hb hby at_129) rfl k) ?_
    have lt_b47_59 := E_b47.lt
    have lt_b48_59 := E_b48.lt
    have lt_b49_59 := E_b49.lt
    have lt_b58_59 := E_b58.lt
    have Zpre59 := Zle
    obtain ⟨_, _, ⟨T59, L59, k59, n59⟩, -, X59, ⟨Lc59, hQ59, l59, y59, z59⟩, st59⟩ := X58.specialBack hx (y := (⟨"com/example/firebreak/firebreak/core/MapStep", "<init>", "(I[I[I[II)V"⟩ : MethodName)) rfl hown (mvT hZ (hw _ (own_m 5 rfl))) (mvT hZ (hw _ (own_m 6 rfl))) (mvT hZ (hw _ (own_m 7 rfl))) (by decide) (backOf (W := 1) (rm1n4 l Z a0 hw [] b58 x1 b47 b48 b49 x6 k47 k48 k49 (0 : Int32) (1 : Int32) (2 : Int32) (3 : Int32) x2 x3 x4 x5 (0 : Int32) (0 : Int32) (0 : Int32) (0 : Int32) h58 n0 Zle E_b58 g_b58 F_step_b58 F_clusterIds_b58 F_costs_b58 F_targeting_b58 F_idle_b58 V_b47 V_b48 V_b49 E_b47 E_b48 E_b49 (ne_b47_b58) (ne_b48_b58) (ne_b49_b58)) hZ (hw _ (own_m 7 rfl)) (hw _ (own_m 4 rfl)) (by decide) (by decide)) (g := (mkF m 131 #[.val (.int x1), .val (.int x2), .val (.int x3), .val (.int x4), .val (.int x5), .val (.int x6), .val (.int 4), .val (.ref b47), .val (.ref b48), .val (.ref b49), .val (.int (((((0 : Int32) + x2) + x3) + x4) + x5)), .unset, .unset, .unset] [(.int x6), (.ref b49), (.ref b48), (.ref b47), (.int x1), (.ref b58), (.ref b58)])) rfl (by rw [hml]; rfl) (Steps.refl _) (a := b58) (argsL := [(.int x1), (.ref b47), (.ref b48), (.ref b49), (.int x6)]) (rest := [(.ref b58)]) (lenOf pd_0 rfl) rfl (own_le rfl) (hb hby at_131) (fun _ _ => ⟨rfl, e58, (by decide : 4 + 3 ≤ _), (by decide : 17 + 12 ≤ _)⟩)
    dsimp only [Pt.U, Pt.locs, Pt.cells, Pt.slots] at X59 l59 y59 z59 st59 hQ59
    subst l59 y59 z59
    obtain ⟨t2_59, rfl, Nq59, c59_0, c59_1, c59_2, c59_3, c59_4⟩ := hQ59
    have N_ := Fr.app N_ Nq59
    have Zle := Nat.le_trans Zle c59_0.1
    have E_b47 := E_b47.keep c59_0
    have E_b48 := E_b48.keep c59_0
    have E_b49 := E_b49.keep c59_0
    have V_b49 := V_b49.keep c59_0 (ninS ne_b49_b58 nin0)
    have V_b48 := V_b48.keep c59_0 (ninS ne_b48_b58 nin0)
    have V_b47 := V_b47.keep c59_0 (ninS ne_b47_b58 nin0)
    have E_b58 := E_b58.keep c59_0
    have ne_b47_t2_59 : b47 ≠ t2_59 := Nat.ne_of_lt (Nat.lt_of_lt_of_le lt_b47_59 c59_2)
    have ne_b48_t2_59 : b48 ≠ t2_59 := Nat.ne_of_lt (Nat.lt_of_lt_of_le lt_b48_59 c59_2)
    have ne_b49_t2_59 : b49 ≠ t2_59 := Nat.ne_of_lt (Nat.lt_of_lt_of_le lt_b49_59 c59_2)
    have ne_b58_t2_59 : b58 ≠ t2_59 := Nat.ne_of_lt (Nat.lt_of_lt_of_le lt_b58_59 c59_2)
    have g_t2_59 : n0 ≤ t2_59 := Nat.le_trans Zpre59 c59_2
    refine own_by (T' := T59) (g' := (mkF m 134 #[.val (.int x1), .val (.int x2), .val (.int x3), .val (.int x4), .val (.int x5), .val (.int x6), .val (.int 4), .val (.ref b47), .val (.ref b48), .val (.ref b49), .val (.int (((((0 : Int32) + x2) + x3) + x4) + x5)), .unset, .unset, .unset] [(.ref b58)])) (fun t k => st59.trans k) ?_
    refine own_by (T' := T59) (g' := (mkF m 136 #[.val (.int x1), .val (.int x2), .val (.int x3), .val (.int x4), .val (.int x5), .val (.int x6), .val (.int 4), .val (.ref b47), .val (.ref b48), .val (.ref b49), .val (.int (((((0 : Int32) + x2) + x3) + x4) + x5)), .val (.ref b58), .unset, .unset] [])) (fun t k => XS.astore X59.here hx rfl (hb hby at_134) rfl rfl (l' := #[.val (.int x1), .val (.int x2), .val (.int x3), .val (.int x4), .val (.int x5), .val (.int x6), .val (.int 4), .val (.ref b47), .val (.ref b48), .val (.ref b49), .val (.int (((((0 : Int32) + x2) + x3) + x4) + x5)), .val (.ref b58), .unset, .unset]) rfl k) ?_
    refine own_by (T' := T59) (g' := (mkF m 138 #[.val (.int x1), .val (.int x2), .val (.int x3), .val (.int x4), .val (.int x5), .val (.int x6), .val (.int 4), .val (.ref b47), .val (.ref b48), .val (.ref b49), .val (.int (((((0 : Int32) + x2) + x3) + x4) + x5)), .val (.ref b58), .unset, .unset] [(.ref b58)])) (fun t k => XS.aload X59.here hx rfl (hb hby at_136) rfl rfl k) ?_
    obtain ⟨cq60, kq60, q60a, q60b, q60c⟩ := isOf hZ rfl c59_1
    obtain ⟨_, _, ⟨T60, L60, k60, n60⟩, -, X60, ⟨Lc60, hQ60, l60, y60, z60⟩, st60⟩ := X59.virtualBack hx (y := (⟨"com/example/firebreak/firebreak/core/MapStep", "getBurning", "()I"⟩ : MethodName)) (z := (⟨"com/example/firebreak/firebreak/core/MapStep", "getBurning", "()I"⟩ : MethodName)) hown (mvT hZ (hw _ (own_m 30 rfl))) (mvT hZ (hw _ (own_m 31 rfl))) (notFace_of_selects (args := #[]) (mvT hZ (hw _ (own_m 33 rfl)))) (mvT hZ (hw _ (own_m 33 rfl))) (mvT hZ (hw _ (own_m 32 rfl))) (by decide) (backOf (W := 0) (rm3n4 l Z a0 hw [] b58 t2_59 k48 x2 x3 x4 x5 T59.heap n0 Zle c59_3 c59_4) hZ (hw _ (own_m 34 rfl)) (hw _ (own_m 4 rfl)) (by decide) (by decide)) q60a q60c (g := (mkF m 138 #[.val (.int x1), .val (.int x2), .val (.int x3), .val (.int x4), .val (.int x5), .val (.int x6), .val (.int 4), .val (.ref b47), .val (.ref b48), .val (.ref b49), .val (.int (((((0 : Int32) + x2) + x3) + x4) + x5)), .val (.ref b58), .unset, .unset] [(.ref b58)])) rfl (by rw [hml]; rfl) (Steps.refl _) (argsL := []) (rest := []) (lenOf pd_3 rfl) rfl (own_le rfl) (hb hby at_138) (fun _ _ => ⟨rfl, rfl, (by decide : 7 + 0 ≤ _), (by decide : 29 + 0 ≤ _)⟩)
    dsimp only [Pt.U, Pt.locs, Pt.cells, Pt.slots] at X60 l60 y60 z60 st60 hQ60
    subst l60 y60 z60
    obtain ⟨rfl, Nq60, e60⟩ := hQ60
    have N_ := Fr.app N_ Nq60
    refine own_by (T' := T60) (g' := (mkF m 141 #[.val (.int x1), .val (.int x2), .val (.int x3), .val (.int x4), .val (.int x5), .val (.int x6), .val (.int 4), .val (.ref b47), .val (.ref b48), .val (.ref b49), .val (.int (((((0 : Int32) + x2) + x3) + x4) + x5)), .val (.ref b58), .unset, .unset] [(.int (((((0 : Int32) + x2) + x3) + x4) + x5))])) (fun t k => st60.trans k) ?_
    refine own_by (T' := T60) (g' := (mkF m 143 #[.val (.int x1), .val (.int x2), .val (.int x3), .val (.int x4), .val (.int x5), .val (.int x6), .val (.int 4), .val (.ref b47), .val (.ref b48), .val (.ref b49), .val (.int (((((0 : Int32) + x2) + x3) + x4) + x5)), .val (.ref b58), .val (.int (((((0 : Int32) + x2) + x3) + x4) + x5)), .unset] [])) (fun t k => XS.istore X60.here hx rfl (hb hby at_141) rfl (l' := #[.val (.int x1), .val (.int x2), .val (.int x3), .val (.int x4), .val (.int x5), .val (.int x6), .val (.int 4), .val (.ref b47), .val (.ref b48), .val (.ref b49), .val (.int (((((0 : Int32) + x2) + x3) + x4) + x5)), .val (.ref b58), .val (.int (((((0 : Int32) + x2) + x3) + x4) + x5)), .unset]) rfl k) ?_
    refine own_by (T' := T60) (g' := (mkF m 145 #[.val (.int x1), .val (.int x2), .val (.int x3), .val (.int x4), .val (.int x5), .val (.int x6), .val (.int 4), .val (.ref b47), .val (.ref b48), .val (.ref b49), .val (.int (((((0 : Int32) + x2) + x3) + x4) + x5)), .val (.ref b58), .val (.int (((((0 : Int32) + x2) + x3) + x4) + x5)), .unset] [(.int 4)])) (fun t k => XS.iload X60.here hx rfl (hb hby at_143) rfl k) ?_
    refine own_by (T' := T60) (g' := (mkF m 148 #[.val (.int x1), .val (.int x2), .val (.int x3), .val (.int x4), .val (.int x5), .val (.int x6), .val (.int 4), .val (.ref b47), .val (.ref b48), .val (.ref b49), .val (.int (((((0 : Int32) + x2) + x3) + x4) + x5)), .val (.ref b58), .val (.int (((((0 : Int32) + x2) + x3) + x4) + x5)), .unset] [])) (fun t k => XS.ifNo X60.here hx rfl (hb hby at_145) rfl ((if0 _ _).trans (tlt (by decide)).2.2.2) k) ?_
    refine own_by (T' := T60) (g' := (mkF m 150 #[.val (.int x1), .val (.int x2), .val (.int x3), .val (.int x4), .val (.int x5), .val (.int x6), .val (.int 4), .val (.ref b47), .val (.ref b48), .val (.ref b49), .val (.int (((((0 : Int32) + x2) + x3) + x4) + x5)), .val (.ref b58), .val (.int (((((0 : Int32) + x2) + x3) + x4) + x5)), .unset] [(.ref b48)])) (fun t k => XS.aload X60.here hx rfl (hb hby at_148) rfl rfl k) ?_
    refine own_by (T' := T60) (g' := (mkF m 151 #[.val (.int x1), .val (.int x2), .val (.int x3), .val (.int x4), .val (.int x5), .val (.int x6), .val (.int 4), .val (.ref b47), .val (.ref b48), .val (.ref b49), .val (.int (((((0 : Int32) + x2) + x3) + x4) + x5)), .val (.ref b58), .val (.int (((((0 : Int32) + x2) + x3) + x4) + x5)), .unset] [(.int 0), (.ref b48)])) (fun t k => XS.iconst X60.here hx rfl (hb hby at_150) k) ?_
    refine own_by (T' := T60) (g' := (mkF m 153 #[.val (.int x1), .val (.int x2), .val (.int x3), .val (.int x4), .val (.int x5), .val (.int x6), .val (.int 4), .val (.ref b47), .val (.ref b48), .val (.ref b49), .val (.int (((((0 : Int32) + x2) + x3) + x4) + x5)), .val (.ref b58), .val (.int (((((0 : Int32) + x2) + x3) + x4) + x5)), .unset] [(.ref b48), (.int 0), (.ref b48)])) (fun t k => XS.aload X60.here hx rfl (hb hby at_151) rfl rfl k) ?_
    refine own_by (T' := T60) (g' := (mkF m 154 #[.val (.int x1), .val (.int x2), .val (.int x3), .val (.int x4), .val (.int x5), .val (.int x6), .val (.int 4), .val (.ref b47), .val (.ref b48), .val (.ref b49), .val (.int (((((0 : Int32) + x2) + x3) + x4) + x5)), .val (.ref b58), .val (.int (((((0 : Int32) + x2) + x3) + x4) + x5)), .unset] [(.int 0), (.ref b48), (.int 0), (.ref b48)])) (fun t k => XS.iconst X60.here hx rfl (hb hby at_153) k) ?_
    obtain ⟨cl61, Ar61, q61, S61, N61, Hs61, G61⟩ := id V_b48
    have hin61 : ¬ ((0 : Int32) < 0 ∨ cl61.slots.size ≤ ((0 : Int32)).toNatClampNeg) := inb_of S61 ⟨by decide, by decide⟩
    have hat61 : cl61.slots[((0 : Int32)).toNatClampNeg]? = some (.int x2) := Hs61.at hin61 rfl
    refine own_by (T' := T60) (g' := (mkF m 155 #[.val (.int x1), .val (.int x2), .val (.int x3), .val (.int x4), .val (.int x5), .val (.int x6), .val (.int 4), .val (.ref b47), .val (.ref b48), .val (.ref b49), .val (.int (((((0 : Int32) + x2) + x3) + x4) + x5)), .val (.ref b58), .val (.int (((((0 : Int32) + x2) + x3) + x4) + x5)), .unset] [(.int x2), (.int 0), (.ref b48)])) (fun t k => X60.iaload hx (j := (0 : Int32)) (v := (.int x2)) (by rw [e60]; exact Ar61.1) (State.isArrayOf_alike hZ.alike Ar61.2.1) Ar61.2.2 hin61 hat61 (g := (mkF m 154 #[.val (.int x1), .val (.int x2), .val (.int x3), .val (.int x4), .val (.int x5), .val (.int x6), .val (.int 4), .val (.ref b47), .val (.ref b48), .val (.ref b49), .val (.int (((((0 : Int32) + x2) + x3) + x4) + x5)), .val (.ref b58), .val (.int (((((0 : Int32) + x2) + x3) + x4) + x5)), .unset] [(.int 0), (.ref b48), (.int 0), (.ref b48)])) rfl rfl (hb hby at_154) _ k) ?_
    refine own_by (T' := T60) (g' := (mkF m 156 #[.val (.int x1), .val (.int x2), .val (.int x3), .val (.int x4), .val (.int x5), .val (.int x6), .val (.int 4), .val (.ref b47), .val (.ref b48), .val (.ref b49), .val (.int (((((0 : Int32) + x2) + x3) + x4) + x5)), .val (.ref b58), .val (.int (((((0 : Int32) + x2) + x3) + x4) + x5)), .unset] [(.int 1), (.int x2), (.int 0), (.ref b48)])) (fun t k => XS.iconst X60.here hx rfl (hb hby at_155) k) ?_
    refine own_by (T' := T60) (g' := (mkF m 157 #[.val (.int x1), .val (.int x2), .val (.int x3), .val (.int x4), .val (.int x5), .val (.int x6), .val (.int 4), .val (.ref b47), .val (.ref b48), .val (.ref b49), .val (.int (((((0 : Int32) + x2) + x3) + x4) + x5)), .val (.ref b58), .val (.int (((((0 : Int32) + x2) + x3) + x4) + x5)), .unset] [(.int (x2 ^^^ (1 : Int32))), (.int 0), (.ref b48)])) (fun t k => XS.ixor X60.here hx rfl (hb hby at_156) rfl k) ?_
    obtain ⟨cl62, Ar62, q62, S62, N62, Hs62, G62⟩ := id V_b48
    have hin62 : ¬ ((0 : Int32) < 0 ∨ cl62.slots.size ≤ ((0 : Int32)).toNatClampNeg) := inb_of S62 ⟨by decide, by decide⟩
    obtain ⟨T62, h62, X62, e62, W62, st62⟩ := stI X60 hx hZ e60 Ar62 (j := (0 : Int32)) hin62 (g := (mkF m 157 #[.val (.int x1), .val (.int x2), .val (.int x3), .val (.int x4), .val (.int x5), .val (.int x6), .val (.int 4), .val (.ref b47), .val (.ref b48), .val (.ref b49), .val (.int (((((0 : Int32) + x2) + x3) + x4) + x5)), .val (.ref b58), .val (.int (((((0 : Int32) + x2) + x3) + x4) + x5)), .unset] [(.int (x2 ^^^ (1 : Int32))), (.int 0), (.ref b48)])) rfl rfl (hb hby at_157)
    have V_b48_ : Arv Z h62 b48 k48 .int (4 : Int32) [(.int (x2 ^^^ (1 : Int32))), (.int x3), (.int x4), (.int x5)] (.int 0) := Arv.set Ar62 q62 S62 N62 Hs62 G62 rfl W62 0 rfl (Nat.le_of_ble_eq_true rfl)
    have Zle := Nat.le_trans Zle (Keep.of_wr W62).1
    have E_b47 := E_b47.wr W62
    have E_b48 := E_b48.wr W62
    have E_b49 := E_b49.wr W62
    have V_b49 := V_b49.other W62 ne_b48_b49.symm
    have V_b47 := V_b47.other W62 ne_b47_b48
    have c59_1 := c59_1.wr W62
    have c59_3 := c59_3.other W62 (Or.inl ne_b48_b58.symm)
    have c59_4 := c59_4.other W62 ne_b48_t2_59.symm
    have V_b48 := V_b48_
    have N_ := Fr.snoc X62 N_ g_b48
    refine own_by (T' := T62) (g' := (mkF m 158 #[.val (.int x1), .val (.int x2), .val (.int x3), .val (.int x4), .val (.int x5), .val (.int x6), .val (.int 4), .val (.ref b47), .val (.ref b48), .val (.ref b49), .val (.int (((((0 : Int32) + x2) + x3) + x4) + x5)), .val (.ref b58), .val (.int (((((0 : Int32) + x2) + x3) + x4) + x5)), .unset] [])) (fun t k => st62 t k) ?_
    refine own_by (T' := T62) (g' := (mkF m 160 #[.val (.int x1), .val (.int x2), .val (.int x3), .val (.int x4), .val (.int x5), .val (.int x6), .val (.int 4), .val (.ref b47), .val (.ref b48), .val (.ref b49), .val (.int (((((0 : Int32) + x2) + x3) + x4) + x5)), .val (.ref b58), .val (.int (((((0 : Int32) + x2) + x3) + x4) + x5)), .unset] [(.ref b58)])) (fun t k => XS.aload X62.here hx rfl (hb hby at_158) rfl rfl k) ?_
    obtain ⟨cq63, kq63, q63a, q63b, q63c⟩ := isOf hZ e62 c59_1
    obtain ⟨_, _, ⟨T63, L63, k63, n63⟩, -, X63, ⟨Lc63, hQ63, l63, y63, z63⟩, st63⟩ := X62.virtualBack hx (y := (⟨"com/example/firebreak/firebreak/core/MapStep", "getBurning", "()I"⟩ : MethodName)) (z := (⟨"com/example/firebreak/firebreak/core/MapStep", "getBurning", "()I"⟩ : MethodName)) hown (mvT hZ (hw _ (own_m 30 rfl))) (mvT hZ (hw _ (own_m 31 rfl))) (notFace_of_selects (args := #[]) (mvT hZ (hw _ (own_m 33 rfl)))) (mvT hZ (hw _ (own_m 33 rfl))) (mvT hZ (hw _ (own_m 32 rfl))) (by decide) (backOf (W := 0) (rm3n4 l Z a0 hw [] b58 t2_59 k48 x2 x3 x4 x5 h62 n0 Zle c59_3 c59_4) hZ (hw _ (own_m 34 rfl)) (hw _ (own_m 4 rfl)) (by decide) (by decide)) q63a q63c (g := (mkF m 160 #[.val (.int x1), .val (.int x2), .val (.int x3), .val (.int x4), .val (.int x5), .val (.int x6), .val (.int 4), .val (.ref b47), .val (.ref b48), .val (.ref b49), .val (.int (((((0 : Int32) + x2) + x3) + x4) + x5)), .val (.ref b58), .val (.int (((((0 : Int32) + x2) + x3) + x4) + x5)), .unset] [(.ref b58)])) rfl (by rw [hml]; rfl) (Steps.refl _) (argsL := []) (rest := []) (lenOf pd_3 rfl) rfl (own_le rfl) (hb hby at_160) (fun _ _ => ⟨rfl, e62, (by decide : 7 + 0 ≤ _), (by decide : 29 + 0 ≤ _)⟩)
    dsimp only [Pt.U, Pt.locs, Pt.cells, Pt.slots] at X63 l63 y63 z63 st63 hQ63
    subst l63 y63 z63
    obtain ⟨rfl, Nq63, e63⟩ := hQ63
    have N_ := Fr.app N_ Nq63
    refine own_by (T' := T63) (g' := (mkF m 163 #[.val (.int x1), .val (.int x2), .val (.int x3), .val (.int x4), .val (.int x5), .val (.int x6), .val (.int 4), .val (.ref b47), .val (.ref b48), .val (.ref b49), .val (.int (((((0 : Int32) + x2) + x3) + x4) + x5)), .val (.ref b58), .val (.int (((((0 : Int32) + x2) + x3) + x4) + x5)), .unset] [(.int (((((0 : Int32) + x2) + x3) + x4) + x5))])) (fun t k => st63.trans k) ?_
    refine own_by (T' := T63) (g' := (mkF m 165 #[.val (.int x1), .val (.int x2), .val (.int x3), .val (.int x4), .val (.int x5), .val (.int x6), .val (.int 4), .val (.ref b47), .val (.ref b48), .val (.ref b49), .val (.int (((((0 : Int32) + x2) + x3) + x4) + x5)), .val (.ref b58), .val (.int (((((0 : Int32) + x2) + x3) + x4) + x5)), .val (.int (((((0 : Int32) + x2) + x3) + x4) + x5))] [])) (fun t k => XS.istore X63.here hx rfl (hb hby at_163) rfl (l' := #[.val (.int x1), .val (.int x2), .val (.int x3), .val (.int x4), .val (.int x5), .val (.int x6), .val (.int 4), .val (.ref b47), .val (.ref b48), .val (.ref b49), .val (.int (((((0 : Int32) + x2) + x3) + x4) + x5)), .val (.ref b58), .val (.int (((((0 : Int32) + x2) + x3) + x4) + x5)), .val (.int (((((0 : Int32) + x2) + x3) + x4) + x5))]) rfl k) ?_
    refine own_by (T' := T63) (g' := (mkF m 167 #[.val (.int x1), .val (.int x2), .val (.int x3), .val (.int x4), .val (.int x5), .val (.int x6), .val (.int 4), .val (.ref b47), .val (.ref b48), .val (.ref b49), .val (.int (((((0 : Int32) + x2) + x3) + x4) + x5)), .val (.ref b58), .val (.int (((((0 : Int32) + x2) + x3) + x4) + x5)), .val (.int (((((0 : Int32) + x2) + x3) + x4) + x5))] [(.int (((((0 : Int32) + x2) + x3) + x4) + x5))])) (fun t k => XS.iload X63.here hx rfl (hb hby at_165) rfl k) ?_
    refine own_by (T' := T63) (g' := (mkF m 169 #[.val (.int x1), .val (.int x2), .val (.int x3), .val (.int x4), .val (.int x5), .val (.int x6), .val (.int 4), .val (.ref b47), .val (.ref b48), .val (.ref b49), .val (.int (((((0 : Int32) + x2) + x3) + x4) + x5)), .val (.ref b58), .val (.int (((((0 : Int32) + x2) + x3) + x4) + x5)), .val (.int (((((0 : Int32) + x2) + x3) + x4) + x5))] [(.int (((((0 : Int32) + x2) + x3) + x4) + x5)), (.int (((((0 : Int32) + x2) + x3) + x4) + x5))])) (fun t k => XS.iload X63.here hx rfl (hb hby at_167) rfl k) ?_
    refine own_by (T' := T63) (g' := (mkF m 172 #[.val (.int x1), .val (.int x2), .val (.int x3), .val (.int x4), .val (.int x5), .val (.int x6), .val (.int 4), .val (.ref b47), .val (.ref b48), .val (.ref b49), .val (.int (((((0 : Int32) + x2) + x3) + x4) + x5)), .val (.ref b58), .val (.int (((((0 : Int32) + x2) + x3) + x4) + x5)), .val (.int (((((0 : Int32) + x2) + x3) + x4) + x5))] [])) (fun t k => XS.icmpNo X63.here hx rfl (hb hby at_169) rfl (teq (rfl : (((((0 : Int32) + x2) + x3) + x4) + x5) = (((((0 : Int32) + x2) + x3) + x4) + x5))).2 k) ?_
    refine own_by (T' := T63) (g' := (mkF m 174 #[.val (.int x1), .val (.int x2), .val (.int x3), .val (.int x4), .val (.int x5), .val (.int x6), .val (.int 4), .val (.ref b47), .val (.ref b48), .val (.ref b49), .val (.int (((((0 : Int32) + x2) + x3) + x4) + x5)), .val (.ref b58), .val (.int (((((0 : Int32) + x2) + x3) + x4) + x5)), .val (.int (((((0 : Int32) + x2) + x3) + x4) + x5))] [(.int (((((0 : Int32) + x2) + x3) + x4) + x5))])) (fun t k => XS.iload X63.here hx rfl (hb hby at_172) rfl k) ?_
    refine own_by (T' := T63) (g' := (mkF m 176 #[.val (.int x1), .val (.int x2), .val (.int x3), .val (.int x4), .val (.int x5), .val (.int x6), .val (.int 4), .val (.ref b47), .val (.ref b48), .val (.ref b49), .val (.int (((((0 : Int32) + x2) + x3) + x4) + x5)), .val (.ref b58), .val (.int (((((0 : Int32) + x2) + x3) + x4) + x5)), .val (.int (((((0 : Int32) + x2) + x3) + x4) + x5))] [(.int (((((0 : Int32) + x2) + x3) + x4) + x5)), (.int (((((0 : Int32) + x2) + x3) + x4) + x5))])) (fun t k => XS.iload X63.here hx rfl (hb hby at_174) rfl k) ?_
    refine own_by (T' := T63) (g' := (mkF m 179 #[.val (.int x1), .val (.int x2), .val (.int x3), .val (.int x4), .val (.int x5), .val (.int x6), .val (.int 4), .val (.ref b47), .val (.ref b48), .val (.ref b49), .val (.int (((((0 : Int32) + x2) + x3) + x4) + x5)), .val (.ref b58), .val (.int (((((0 : Int32) + x2) + x3) + x4) + x5)), .val (.int (((((0 : Int32) + x2) + x3) + x4) + x5))] [])) (fun t k => XS.icmpNo X63.here hx rfl (hb hby at_176) rfl (teq (rfl : (((((0 : Int32) + x2) + x3) + x4) + x5) = (((((0 : Int32) + x2) + x3) + x4) + x5))).2 k) ?_
    refine own_by (T' := T63) (g' := (mkF m 180 #[.val (.int x1), .val (.int x2), .val (.int x3), .val (.int x4), .val (.int x5), .val (.int x6), .val (.int 4), .val (.ref b47), .val (.ref b48), .val (.ref b49), .val (.int (((((0 : Int32) + x2) + x3) + x4) + x5)), .val (.ref b58), .val (.int (((((0 : Int32) + x2) + x3) + x4) + x5)), .val (.int (((((0 : Int32) + x2) + x3) + x4) + x5))] [(.int 1)])) (fun t k => XS.iconst X63.here hx rfl (hb hby at_179) k) ?_
    refine own_by (T' := T63) (g' := (mkF m 184 #[.val (.int x1), .val (.int x2), .val (.int x3), .val (.int x4), .val (.int x5), .val (.int x6), .val (.int 4), .val (.ref b47), .val (.ref b48), .val (.ref b49), .val (.int (((((0 : Int32) + x2) + x3) + x4) + x5)), .val (.ref b58), .val (.int (((((0 : Int32) + x2) + x3) + x4) + x5)), .val (.int (((((0 : Int32) + x2) + x3) + x4) + x5))] [(.int 1)])) (fun t k => XS.goto X63.here hx rfl (pc0 := 180) (pc' := 184) rfl (hb hby at_180) (by decide) (by decide) k) ?_
    exact own_retN X63 hx (t := .boolean) Bd.notSynchronized Bd.returns (by simp) (hb hby at_184) (by decide) (by decide) (by rw [e63]; exact ⟨rfl, N_⟩)

set_option maxRecDepth 65536 in
set_option maxHeartbeats 40000000 in
theorem comes_1 {Post : Tables → Env → Array Value → State → Outcome → State → Prop} (hpost : ∀ tb e args s v u, (limb_1_1.after args s (.returned v) u = true ∧ limb_1_2.after args s (.returned v) u = true ∧ True) → FrameEnd s (.returned v) u (Jvm.fieldLocs frame_1_writes args s ++ Jvm.arrayLocs frame_1_arrays args s ++ Jvm.staticLocs frame_1_statics s) 24 128 → Post tb e args s (.returned v) u) :
    ArmFor flags0 classFile x code maxLocals ret World_1 tables_1 room_1 Calls_1 rest_1 Pre_1 Post := by
  intro l hfl _ _ p e ha hc hk s m args below hf hA hF happ hP
  obtain ⟨hcalls, hrest, hpre⟩ := hP
  obtain ⟨-, -, -, hnamed, -, -, -, hat⟩ := (Spec.applies_iff hf).mp happ
  obtain ⟨hg, hn⟩ := and_e (Cond.before_iff.mp (show (Jvm.Cond.and given_1 narrow_1).before args s = true from hpre))
  obtain ⟨hcount, g0⟩ := and_e hg
  obtain ⟨a0, g1⟩ := and_e g0
  obtain ⟨a1, g2⟩ := and_e g1
  obtain ⟨a2, g3⟩ := and_e g2
  obtain ⟨a3, g4⟩ := and_e g3
  obtain ⟨a4, g5⟩ := and_e g4
  obtain ⟨w0, w1, w2, w3, w4, w5, rfl⟩ : ∃ w0 w1 w2 w3 w4 w5 : Value, args = #[w0, w1, w2, w3, w4, w5] := by
    have hs : args.size = 6 := by simpa [Cond.value, given_1] using hcount
    obtain ⟨L⟩ := args
    match L, hs with
    | [w0, w1, w2, w3, w4, w5], _ => exact ⟨w0, w1, w2, w3, w4, w5, rfl⟩
  have hw := fun d (hd : d ∈ tables_1) => atoms_spec (ws := Jvm.Cond.code x code maxLocals ret :: tables_1) hat d (List.mem_cons_of_mem _ hd)
  have hfit : Fit s := fun {y c} hc i hi => by
    obtain ⟨ha, rfl⟩ := Array.getElem?_eq_some_iff.mp hc
    have q := List.all_eq_true.mp ((Array.all_eq_true_iff_forall_mem.mp hF) _ (Array.getElem_mem ha)) i (List.mem_range.mpr hi)
    simpa [Array.getElem?_eq_getElem hi] using q
  obtain ⟨i0, ei0⟩ := is_v a0
  obtain rfl : w0 = (.int i0) := Option.some.inj ei0
  obtain ⟨i1, ei1⟩ := is_v a1
  obtain rfl : w1 = (.int i1) := Option.some.inj ei1
  obtain ⟨i2, ei2⟩ := is_v a2
  obtain rfl : w2 = (.int i2) := Option.some.inj ei2
  obtain ⟨i3, ei3⟩ := is_v a3
  obtain rfl : w3 = (.int i3) := Option.some.inj ei3
  obtain ⟨i4, ei4⟩ := is_v a4
  obtain rfl : w4 = (.int i4) := Option.some.inj ei4
  obtain ⟨i5, ei5⟩ := is_v g5
  obtain rfl : w5 = (.int i5) := Option.some.inj ei5
  obtain ⟨n, o, h1, h2, h3, _, L, rfl, ⟨rfl, N⟩, hq⟩ := rm0 l s _ hw tables_1 i0 i1 i2 i3 i4 i5 s.heap s.heap.size (Nat.le_refl _)  p e ha hc hk s m _ below hf ((Spec.applies_iff_loose hf).mp happ).1 ⟨rfl, State.Warmed39.refl s, rfl⟩ trivial
  refine ⟨n, _, h1, h2, h3, hpost _ _ _ _ _ _ ⟨Cond.after_iff.mpr rfl, Cond.after_iff.mpr (eq_i res_at (Term.int_eval (1)) rfl), trivial⟩ ⟨hq.1, hq.2.1, (hq.2.2.sift fun y hy => Or.inr (N y hy)).mono (by decide) (by decide)⟩⟩
theorem main_1_1 : Claimed_1_1 := comes_1 fun _ _ _ _ _ _ h hF => ⟨h.1, hF⟩
theorem main_1_2 : Claimed_1_2 := comes_1 fun _ _ _ _ _ _ h hF => ⟨h.2.1, hF⟩

end Jvm.Pilot.@@N@@
namespace Jvm.Pilot.@@N@@
open Jvm Jvm.ClassFile Sem Op Lib Jvm.Free Jvm.Stand Jvm.Pilot.@@N@@.Jvm.D
/-! MADE BY PROGRAM (witnessworld.py) out of the Statement's table words and the real class files: 9 classes; the members and pool entries that the words name. The judged class is class 1, her method 1. -/
namespace start1
open Jvm.ClassFile
def u (s : String) : CpInfo := .utf8 (stringToUtf16 s)
/-- a pool by its gaps: so many unusable entries, then the entry; so many at the end -/
def gap : Nat → List CpInfo → List CpInfo
  | 0, r => r
  | n + 1, r => .unusable :: gap n r
def poolList (es : List (Nat × CpInfo)) (last : Nat) : List CpInfo := es.foldr (fun e r => gap e.1 (e.2 :: r)) (gap last [])
def pool (es : List (Nat × CpInfo)) (last : Nat) : Array CpInfo := ⟨poolList es last⟩
def fileOf (pool : Array CpInfo) (this : Nat) (attrs : Array Attribute := #[]) (ms : Array MethodInfo := #[]) (fl : Nat := 33) (sup : Nat := 0) (ifs : Array Nat := #[]) (fds : Array FieldInfo := #[]) : ClassFile where
  minorVersion := 0
  majorVersion := 65
  constantPool := pool
  accessFlags := fl
  thisClass := this
  superClass := sup
  interfaces := ifs
  fields := fds
  methods := ms
  attributes := attrs
def plain (name : String) (sup : Option ClassId) : Class where
  name := name
  kind := .ordinary
  loader := none
  accessFlags := 33
  super := sup
  interfaces := #[]
  cf := none
  fields := #[]
  methods := #[]
  instanceTypes := #[]
  staticTypes := #[]
  resolved := #[]
  callSites := []
  init := .initialized
  statics := none
  mirror := none

def pool0 : Array CpInfo := pool [(5, u "<init>"), (0, u "()V"), (1, .class_ 10), (1, u "java/lang/Object"), (85, u "clone"), (0, u "()Ljava/lang/Object;")] 26

def k0c0 : Code := { maxStack := 0, maxLocals := 1, code := object_method_1_code, exceptionTable := #[], attributes := #[] }
def k0m0 : Method := { name := "<init>", desc := "()V", sig := { parameters := [], returnType := none }, accessFlags := 1, code := some k0c0 }
def k0m1 : Method := { name := "clone", desc := "()Ljava/lang/Object;", sig := { parameters := [], returnType := some (.object "java/lang/Object") }, accessFlags := 260, code := none }
/-- java/lang/Object -/
def k0 : Class := { plain "java/lang/Object" none with
  accessFlags := 33
  interfaces := #[]
  cf := some (fileOf pool0 8 #[] #[{ accessFlags := 1, nameIndex := 5, descriptorIndex := 6, attributes := #[] }, { accessFlags := 260, nameIndex := 96, descriptorIndex := 97, attributes := #[] }] 33 0 #[] #[])
  fields := #[]
  methods := #[k0m0, k0m1]
  instanceTypes := #[]
  staticTypes := #[]
  resolved := Array.replicate 124 none
  statics := none }

def pool1 : Array CpInfo := pool [(2, .class_ 4), (1, u "java/lang/Object"), (0, u "<init>"), (0, u "()V"), (0, .integer 2147483647), (0, .class_ 9), (0, u "com/example/firebreak/firebreak/core/MapStep"), (0, .methodref 8 11), (0, .nameAndType 5 12), (0, u "(I[I[I[II)V"), (0, .methodref 8 14), (0, .nameAndType 15 16), (0, u "getBurning"), (0, u "()I"), (0, .class_ 18), (0, u "com/example/firebreak/firebreak/core/MapStepGetBurningPinLaw"), (2, u "law"), (0, u "(IIIIII)Z")] 5

def k1m0 : Method := { name := "<init>", desc := "()V", sig := { parameters := [], returnType := none }, accessFlags := 1, code := none }
def k1c1 : Code := { maxStack := 7, maxLocals := 14, code := code, exceptionTable := #[], attributes := #[] }
def k1m1 : Method := { name := "law", desc := "(IIIIII)Z", sig := { parameters := [.int, .int, .int, .int, .int, .int], returnType := some .boolean }, accessFlags := 9, code := some k1c1 }
/-- com/example/firebreak/firebreak/core/MapStepGetBurningPinLaw -/
def k1 : Class := { plain "com/example/firebreak/firebreak/core/MapStepGetBurningPinLaw" (some 0) with
  accessFlags := 49
  interfaces := #[]
  cf := some (fileOf pool1 17 #[] #[{ accessFlags := 1, nameIndex := 5, descriptorIndex := 6, attributes := #[] }, { accessFlags := 9, nameIndex := 21, descriptorIndex := 22, attributes := #[] }] 49 2 #[] #[])
  fields := #[]
  methods := #[k1m0, k1m1]
  instanceTypes := #[]
  staticTypes := #[]
  resolved := Array.replicate 28 none
  statics := none }

def pool2 : Array CpInfo := pool [(1, .methodref 2 3), (0, .class_ 4), (0, .nameAndType 5 6), (0, u "java/lang/Object"), (0, u "<init>"), (0, u "()V"), (0, .fieldref 8 9), (0, .class_ 10), (0, .nameAndType 11 12), (0, u "com/example/firebreak/firebreak/core/MapStep"), (0, u "step"), (0, u "I"), (0, .methodref 14 15), (0, .class_ 16), (0, .nameAndType 17 18), (0, u "[I"), (0, u "clone"), (0, u "()Ljava/lang/Object;"), (0, .fieldref 8 20), (0, .nameAndType 21 16), (0, u "clusterIds"), (0, .fieldref 8 23), (0, .nameAndType 24 16), (0, u "costs"), (0, .fieldref 8 26), (0, .nameAndType 27 16), (0, u "targeting"), (0, .fieldref 8 29), (0, .nameAndType 30 12), (0, u "idle"), (0, u "(I[I[I[II)V"), (3, u "()I"), (0, u "getBurning")] 9

def k2c0 : Code := { maxStack := 2, maxLocals := 6, code := prog_30_method_1_code, exceptionTable := #[], attributes := #[] }
def k2m0 : Method := { name := "<init>", desc := "(I[I[I[II)V", sig := { parameters := [.int, (.array .int), (.array .int), (.array .int), .int], returnType := none }, accessFlags := 0, code := some k2c0 }
def k2c1 : Code := { maxStack := 2, maxLocals := 6, code := prog_30_method_3_code, exceptionTable := #[], attributes := #[] }
def k2m1 : Method := { name := "getBurning", desc := "()I", sig := { parameters := [], returnType := some .int }, accessFlags := 1, code := some k2c1 }
/-- com/example/firebreak/firebreak/core/MapStep -/
def k2 : Class := { plain "com/example/firebreak/firebreak/core/MapStep" (some 0) with
  accessFlags := 49
  interfaces := #[]
  cf := some (fileOf pool2 8 #[] #[{ accessFlags := 0, nameIndex := 5, descriptorIndex := 31, attributes := #[] }, { accessFlags := 1, nameIndex := 36, descriptorIndex := 35, attributes := #[] }] 49 2 #[] #[{ accessFlags := 18, nameIndex := 11, descriptorIndex := 12, attributes := #[] }, { accessFlags := 18, nameIndex := 21, descriptorIndex := 16, attributes := #[] }, { accessFlags := 18, nameIndex := 24, descriptorIndex := 16, attributes := #[] }, { accessFlags := 18, nameIndex := 27, descriptorIndex := 16, attributes := #[] }, { accessFlags := 18, nameIndex := 30, descriptorIndex := 12, attributes := #[] }])
  fields := #[{ name := "step", type := .int, accessFlags := 18, slot := 0, constantValue := 0 }, { name := "clusterIds", type := (.array .int), accessFlags := 18, slot := 1, constantValue := 0 }, { name := "costs", type := (.array .int), accessFlags := 18, slot := 2, constantValue := 0 }, { name := "targeting", type := (.array .int), accessFlags := 18, slot := 3, constantValue := 0 }, { name := "idle", type := .int, accessFlags := 18, slot := 4, constantValue := 0 }]
  methods := #[k2m0, k2m1]
  instanceTypes := #[.int, (.array .int), (.array .int), (.array .int), .int]
  staticTypes := #[]
  resolved := Array.replicate 46 none
  statics := none }

def pool3 : Array CpInfo := pool [(1, .class_ 2), (0, u "java/lang/Cloneable"), (0, .class_ 4), (0, u "java/lang/Object")] 2

/-- java/lang/Cloneable -/
def k3 : Class := { plain "java/lang/Cloneable" (some 0) with
  accessFlags := 1537
  interfaces := #[]
  cf := some (fileOf pool3 1 #[] #[] 1537 3 #[] #[])
  fields := #[]
  methods := #[]
  instanceTypes := #[]
  staticTypes := #[]
  resolved := Array.replicate 7 none
  statics := none }

def pool4 : Array CpInfo := pool [(1, u "java/io/Serializable"), (0, .class_ 1), (0, u "java/lang/Object"), (0, .class_ 3)] 3

/-- java/io/Serializable -/
def k4 : Class := { plain "java/io/Serializable" (some 0) with
  accessFlags := 1537
  interfaces := #[]
  cf := some (fileOf pool4 2 #[] #[] 1537 4 #[] #[])
  fields := #[]
  methods := #[]
  instanceTypes := #[]
  staticTypes := #[]
  resolved := Array.replicate 8 none
  statics := none }

/-- the primitive byte -/
def k5 : Class := { plain "byte" none with kind := .primitive 'B', accessFlags := 0x411 }
/-- [B -/
def k6 : Class := { plain "[B" (some 0) with kind := .array 5 .byte, interfaces := #[3, 4], accessFlags := 1041 }

/-- the primitive int -/
def k7 : Class := { plain "int" none with kind := .primitive 'I', accessFlags := 0x411 }
/-- [I -/
def k8 : Class := { plain "[I" (some 0) with kind := .array 7 .int, interfaces := #[3, 4], accessFlags := 1041 }

def heap : Heap := #[]
def classes : Array Class := #[k0, k1, k2, k3, k4, k5, k6, k7, k8]
def interned : List (Array UInt16 × Addr) := []
def slotsUsed : Nat := 0
def theMethod : MethodId := ⟨1, 1⟩
def args0 : Array Value := #[.int 3, .int 1, .int 2, .int 3, .int 4, .int 5]
def aboutOver (below : List Frame) : State where
  vm := { classes := classes, interned := interned.toArray }
  heap := heap
  slotsUsed := slotsUsed
  threads := #[{ frames := .invoking theMethod args0 :: below }]
def below0 : List Frame := [.native { method := ⟨0, 0⟩, args := #[] }]
def about1 : State := aboutOver below0
def p0 : Program := .bare "" "" ""
def e0 : Env := launch0.env 0 0 0
theorem w_frames : about1.frames = Frame.invoking theMethod args0 :: below0 := rfl
set_option maxRecDepth 65536 in
theorem w_args : argsFit about1.vm theMethod args0 = true := by decide +kernel
set_option maxRecDepth 65536 in
theorem w_heap : heapFits about1 = true := by decide +kernel
set_option maxRecDepth 65536 in
theorem w_runnable : about1.curStatus? = some .runnable := by decide +kernel
set_option maxRecDepth 65536 in
theorem w_alone : about1.alone = true := by decide +kernel
set_option maxRecDepth 65536 in
theorem w_named : about1.methodNamed? x = some theMethod := by decide +kernel
set_option maxRecDepth 65536 in
theorem w_hears : about1.hears theMethod below0 = true := by decide +kernel
set_option maxRecDepth 65536 in
theorem w_ripe : about1.ripe theMethod args0 below0 = true := by decide +kernel
theorem w_running : about1.status = .running := rfl
set_option maxRecDepth 65536 in
theorem w_room : about1.hasRoom e0.platform room_1 = true :=
  launch0.hasRoom_least _ room_1 (by decide +kernel) (by decide +kernel) (by decide +kernel) (by decide +kernel) (by decide +kernel) (by decide +kernel)
theorem allAtoms_all (ts : List Jvm.Cond) (a : Array Jvm.Value) (st : Jvm.State) : (allAtoms ts).before a st = ts.all (fun c => c.before a st) := by
  induction ts with
  | nil => rfl
  | cons c t ih =>
    show (Jvm.Cond.and c (allAtoms t)).before a st = _
    rw [Jvm.Cond.before_and, ih, List.all_cons]
def words1 : List Jvm.Cond := Jvm.Cond.code x code maxLocals ret :: tables_1
/-- a 'code' word, met by the world's own term for the bytes: nothing is compared byte by byte -/
theorem code_word {y : MethodName} {bytes : ByteArray} {mx : Nat} {rt : Option FieldType} {a : Array Value} {s : State} {m : MethodId} {meth : Method} {c : Code} (h1 : s.methodNamed? y = some m) (h2 : s.vm.method? m = some meth) (h3 : meth.code = some c) (h4 : c.code = bytes)
    (h5 : (c.maxLocals == mx && c.exceptionTable.isEmpty && decide (c.maxStack ≤ mostOperands) && decide (meth.sig.returnType = rt) && !meth.locks && decide (parseMethodDescriptor y.desc = some meth.sig)) = true) : (Jvm.Cond.code y bytes mx rt).before a s = true := by
  simp only [Bool.and_eq_true, beq_iff_eq, Bool.not_eq_true', decide_eq_true_eq] at h5
  obtain ⟨⟨⟨⟨⟨g1, g2⟩, g3⟩, g4⟩, g5⟩, g6⟩ := h5
  simp [Cond.before, Cond.holds, Cond.value, h1, h2, h3, h4, g1, g2, g3, g4, g5, g6]
def isCode : Jvm.Cond → Bool
  | .code _ _ _ _ => true
  | _ => false
theorem all_split {L : List Jvm.Cond} {P : Jvm.Cond → Bool} (h1 : L.all (fun c => isCode c || P c) = true) (h2 : ∀ c ∈ L.filter isCode, P c = true) : L.all P = true := by
  refine List.all_eq_true.mpr fun c hc => ?_
  have h := List.all_eq_true.mp h1 c hc
  rcases Bool.eq_false_or_eq_true (isCode c) with hi | hi
  · exact h2 c (List.mem_filter.mpr ⟨hc, hi⟩)
  · simpa [hi] using h
set_option maxRecDepth 65536 in
theorem w_c0 : (Jvm.Cond.code x code maxLocals ret).before args0 about1 = true := code_word (m := ⟨1, 1⟩) (meth := k1m1) (c := k1c1) (by decide +kernel) rfl rfl rfl (by decide +kernel)
set_option maxRecDepth 65536 in
theorem w_c1 : (Jvm.Cond.code ({ cls := "com/example/firebreak/firebreak/core/MapStep", name := "<init>", desc := "(I[I[I[II)V" } : Jvm.MethodName) prog_30_method_1_code (6 : Nat) (Option.none : Option Jvm.ClassFile.FieldType)).before args0 about1 = true := code_word (m := ⟨2, 0⟩) (meth := k2m0) (c := k2c0) (by decide +kernel) rfl rfl rfl (by decide +kernel)
set_option maxRecDepth 65536 in
theorem w_c2 : (Jvm.Cond.code ({ cls := "java/lang/Object", name := "<init>", desc := "()V" } : Jvm.MethodName) object_method_1_code (1 : Nat) (Option.none : Option Jvm.ClassFile.FieldType)).before args0 about1 = true := code_word (m := ⟨0, 0⟩) (meth := k0m0) (c := k0c0) (by decide +kernel) rfl rfl rfl (by decide +kernel)
set_option maxRecDepth 65536 in
theorem w_c3 : (Jvm.Cond.code ({ cls := "com/example/firebreak/firebreak/core/MapStep", name := "getBurning", desc := "()I" } : Jvm.MethodName) prog_30_method_3_code (6 : Nat) (Option.some Jvm.ClassFile.FieldType.int)).before args0 about1 = true := code_word (m := ⟨2, 1⟩) (meth := k2m1) (c := k2c1) (by decide +kernel) rfl rfl rfl (by decide +kernel)
def codes1 : List Jvm.Cond := [Jvm.Cond.code x code maxLocals ret, Jvm.Cond.code ({ cls := "com/example/firebreak/firebreak/core/MapStep", name := "<init>", desc := "(I[I[I[II)V" } : Jvm.MethodName) prog_30_method_1_code (6 : Nat) (Option.none : Option Jvm.ClassFile.FieldType), Jvm.Cond.code ({ cls := "java/lang/Object", name := "<init>", desc := "()V" } : Jvm.MethodName) object_method_1_code (1 : Nat) (Option.none : Option Jvm.ClassFile.FieldType), Jvm.Cond.code ({ cls := "com/example/firebreak/firebreak/core/MapStep", name := "getBurning", desc := "()I" } : Jvm.MethodName) prog_30_method_3_code (6 : Nat) (Option.some Jvm.ClassFile.FieldType.int)]
set_option maxRecDepth 65536 in
theorem codes_eq : words1.filter isCode = codes1 := rfl
theorem w_codes : ∀ c ∈ words1.filter isCode, c.before args0 about1 = true := by
  rw [codes_eq]
  intro c hc
  simp only [codes1, List.mem_cons, List.not_mem_nil, or_false] at hc
  rcases hc with rfl | rfl | rfl | rfl
  · exact w_c0
  · exact w_c1
  · exact w_c2
  · exact w_c3
set_option maxRecDepth 65536 in
theorem w_t1 : (words1.take 24).all (fun c => isCode c || c.before args0 about1) = true := by decide +kernel
set_option maxRecDepth 65536 in
theorem w_t2 : (words1.drop 24).all (fun c => isCode c || c.before args0 about1) = true := by decide +kernel
theorem w_tables : (allAtoms (Jvm.Cond.code x code maxLocals ret :: tables_1)).before args0 about1 = true := by
  rw [allAtoms_all]
  show words1.all (fun c => c.before args0 about1) = true
  refine all_split ?_ w_codes
  rw [← List.take_append_drop 24 words1, List.all_append, w_t1, w_t2]
  rfl
set_option maxRecDepth 65536 in
theorem w_case : (Jvm.Cond.and given_1 narrow_1).before args0 about1 = true := by decide +kernel
theorem w_applies : (headSpec (Jvm.Cond.code x code maxLocals ret :: tables_1) room_1).applies x e0.platform about1 = true :=
  (Spec.applies_iff w_frames).mpr ⟨w_running, w_runnable, w_alone, w_named, w_hears, w_ripe, w_room, w_tables⟩
theorem atStart : AtStart classFile x code maxLocals ret World_1 tables_1 room_1 Calls_1 rest_1 Pre_1 launch0 p0 e0 about1 theMethod args0 below0 :=
  ⟨lists_1, trivial, launch0.admits_env _ _ _, launch0.least_env, fairChoices_fair.cas, fairChoices_fair.clock, w_frames, w_args, w_heap, w_applies, trivial, trivial, w_case⟩
end start1
theorem witness_1 : WitnessClaimed_1 := ⟨start1.p0, start1.e0, start1.about1, start1.theMethod, start1.args0, start1.below0, start1.atStart⟩
end Jvm.Pilot.@@N@@
